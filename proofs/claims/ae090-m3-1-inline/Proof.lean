import JvmDerived
import JvmDerived.Pilot.@@N@@Statement
import JvmDerived.Pilot.@@N@@Code
set_option linter.unusedVariables false
set_option linter.unusedSimpArgs false
namespace Jvm.RoadKit
open Sem ClassFile Op Lib Jvm.Stand Jvm.Free Jvm.LawKit
section New
variable {p : Program} {l : Launch} {e : Env} {R : Room} {s : State} {m : MethodId} {args : Array Value} {below : List Frame} {meth : Method} {c : Code} {T : State} {locs : List Loc} {cells slots : Nat}
theorem retI (X : Stand p l e R s m args below meth c T locs cells slots) (hx : p.tables.exec = Jvm.exec) {pc : Nat} {Ls : Array Slot} {z : Int32} {rest : List Value} (hret : meth.sig.returnType = some .int) (hd : decode c.code pc = .ok (.ireturn, 1)) {fs : List Frame}
    (hl : ∀ (f : JFrame) (acts : List Action), f.method = m → f.locked = none → f.entered = [] → (doReturn e (T.setTop f) acts (some (.int z))).1 = T.setFrames fs) : Steps p.tables e below (T.setTop (mkF m pc Ls (.int z :: rest))) (T.setFrames fs) :=
  retOut X hx hret rfl (Or.inl ⟨rfl, Or.inl rfl, z, rfl⟩) hd hl
theorem retL (X : Stand p l e R s m args below meth c T locs cells slots) (hx : p.tables.exec = Jvm.exec) {pc : Nat} {Ls : Array Slot} {z : Int64} {rest : List Value} (hret : meth.sig.returnType = some .long) (hd : decode c.code pc = .ok (.lreturn, 1)) {fs : List Frame}
    (hl : ∀ (f : JFrame) (acts : List Action), f.method = m → f.locked = none → f.entered = [] → (doReturn e (T.setTop f) acts (some (.long z))).1 = T.setFrames fs) : Steps p.tables e below (T.setTop (mkF m pc Ls (.long z :: rest))) (T.setFrames fs) :=
  retOut X hx hret rfl (Or.inr (Or.inl ⟨rfl, rfl, z, rfl⟩)) hd hl
theorem own_retD (X : Stand p l e R s m args below meth c T locs cells slots) (hx : p.tables.exec = Jvm.exec) {pc : Nat} {Ls : Array Slot} {z : UInt64} {rest : List Value} (hret : meth.sig.returnType = some .double) (hd : decode c.code pc = .ok (.dreturn, 1)) {fs : List Frame}
    (hl : ∀ (f : JFrame) (acts : List Action), f.method = m → f.locked = none → f.entered = [] → (doReturn e (T.setTop f) acts (some (.double z))).1 = T.setFrames fs) : Steps p.tables e below (T.setTop (mkF m pc Ls (.double z :: rest))) (T.setFrames fs) :=
  retOut X hx hret rfl (Or.inr (Or.inr (Or.inl ⟨rfl, rfl, z, rfl⟩))) hd hl
theorem own_nar {t : FieldType} {w : Value} (ht : t.isReference = true) (hw : w.isRef = true) : narrow t w = w := by
  cases t <;> first | (cases ht; done) | (cases w <;> first | rfl | (cases hw; done))
theorem retA (X : Stand p l e R s m args below meth c T locs cells slots) (hx : p.tables.exec = Jvm.exec) {pc : Nat} {Ls : Array Slot} {w : Value} {t : FieldType} {rest : List Value} (hret : meth.sig.returnType = some t) (ht : t.isReference = true) (hw : w.isRef = true) (hd : decode c.code pc = .ok (.areturn, 1)) {fs : List Frame}
    (hl : ∀ (f : JFrame) (acts : List Action), f.method = m → f.locked = none → f.entered = [] → (doReturn e (T.setTop f) acts (some w)).1 = T.setFrames fs) : Steps p.tables e below (T.setTop (mkF m pc Ls (w :: rest))) (T.setFrames fs) :=
  retOut X hx hret (own_nar ht hw) (Or.inr (Or.inr (Or.inr (Or.inr ⟨rfl, ht, hw⟩)))) hd hl
/-- the rest of a walk, as a predicate on where it stands -/
theorem own_open (K N : Nat) (Q : Option Value → Heap → List Loc → Prop) (hlocks : meth.locks = false) :
    ∃ G : State → JFrame → Prop,
      (∀ {T T' : State} {g g' : JFrame}, (∀ t, Steps p.tables e below (T'.setTop g') t → Steps p.tables e below (T.setTop g) t) → G T' g' → G T g) ∧
      (∀ {T : State} {g : JFrame} {locs : List Loc} {cells slots : Nat} {v : Option Value} {h : Heap}, Stand p l e R s m args below meth c T locs cells slots → (meth.sig.returnType = none → v = none) →
        (∀ fs, (∀ (f : JFrame) (acts : List Action), f.method = m → f.locked = none → f.entered = [] → (doReturn e (T.setTop f) acts v).1 = T.setFrames fs) → Steps p.tables e below (T.setTop g) (T.setFrames fs)) → T.heap = h → Q v h locs → cells ≤ K → slots ≤ N → G T g) ∧
      (∀ {T : State} {g : JFrame}, G T g → ∃ t o, Steps p.tables e below (T.setTop g) t ∧ t.status = .running ∧ Ended t below o ∧ ∃ v L, o = .returned v ∧ Q v t.heap L ∧ FrameEnd s o t L K N) := by
  refine ⟨fun T g => ∃ t o, Steps p.tables e below (T.setTop g) t ∧ t.status = .running ∧ Ended t below o ∧ ∃ v L, o = .returned v ∧ Q v t.heap L ∧ FrameEnd s o t L K N, ?_, ?_, fun h => h⟩
  · intro T T' g g' hs hG
    obtain ⟨t, o, h1, h2⟩ := hG
    exact ⟨t, o, hs t h1, h2⟩
  · intro T g locs cells slots v h X hv hst hT hQ hk hn
    obtain ⟨fs, hr, hrun, hended, hW, hsame⟩ := X.leave hv hlocks
    exact ⟨_, _, hst fs hr, hrun, hended, v, locs, rfl, by show Q v T.heap locs; rw [hT]; exact hQ, ⟨_, rfl⟩, hW, hsame.mono hk hn⟩
theorem own_openW (K N : Nat) (Q : Option Value → Heap → List Loc → Prop) (hlocks : meth.locks = false) :
    ∃ G : State → JFrame → Prop,
      (∀ {T T' : State} {g g' : JFrame}, (∀ t, Steps p.tables e below (T'.setTop g') t → Steps p.tables e below (T.setTop g) t) → G T' g' → G T g) ∧
      (∀ {T : State} {g : JFrame} {locs : List Loc} {cells slots : Nat} {v : Option Value} {h : Heap} {vm0 : Vm} {k0 : Nat}, Stand p l e R (s.setVm vm0) m args below meth c T locs cells slots → s.Since vm0 k0 → k0 ≤ h.size → (meth.sig.returnType = none → v = none) →
        (∀ fs, (∀ (f : JFrame) (acts : List Action), f.method = m → f.locked = none → f.entered = [] → (doReturn e (T.setTop f) acts v).1 = T.setFrames fs) → Steps p.tables e below (T.setTop g) (T.setFrames fs)) → T.heap = h → Q v h locs → cells ≤ K → slots ≤ N → G T g) ∧
      (∀ {T : State} {g : JFrame}, G T g → ∃ t o, Steps p.tables e below (T.setTop g) t ∧ t.status = .running ∧ Ended t below o ∧ ∃ v L, o = .returned v ∧ Q v t.heap L ∧ ReturnedEndW s o t L K N) := by
  refine ⟨fun T g => ∃ t o, Steps p.tables e below (T.setTop g) t ∧ t.status = .running ∧ Ended t below o ∧ ∃ v L, o = .returned v ∧ Q v t.heap L ∧ ReturnedEndW s o t L K N, ?_, ?_, fun h => h⟩
  · intro T T' g g' hs hG
    obtain ⟨t, o, h1, h2⟩ := hG
    exact ⟨t, o, hs t h1, h2⟩
  · intro T g locs cells slots v h vm0 k0 X hS hk0 hv hst hT hQ hk hn
    obtain ⟨fs, hr, hrun, hended, hW⟩ := X.leaveW hS (by rw [hT]; exact hk0) hv hlocks
    exact ⟨_, _, hst fs hr, hrun, hended, v, locs, rfl, by show Q v T.heap locs; rw [hT]; exact hQ, hW.1, hW.2.1, hW.2.2.1, hW.2.2.2.mono hk hn⟩
theorem own_at {j : Int32} {i : Nat} {vs : List Value} {d v : Value} (hj : j.toNatClampNeg = i) (h : vs.getD i d = v) : vs.getD j.toNatClampNeg d = v := hj ▸ h
theorem own_gen {n0 : Nat} (X : Stand p l e R s m args below meth c T locs cells slots) (N : Fr n0 locs) : ∃ lc, Stand p l e R s m args below meth c T lc cells slots ∧ Fr n0 lc := ⟨_, X, N⟩
theorem own_sl (a : Array Slot) : ∃ z, z = a := ⟨_, rfl⟩
theorem own_xlt {x y : Int32} : x < y ↔ x.toInt < y.toInt := Int32.lt_iff_toInt_lt
theorem own_xeq {x y : Int32} : x = y ↔ x.toInt = y.toInt := Int32.toInt_inj.symm
theorem own_xltL {x y : Int64} : x < y ↔ x.toInt < y.toInt := Int64.lt_iff_toInt_lt
theorem own_xeqL {x y : Int64} : x = y ↔ x.toInt = y.toInt := Int64.toInt_inj.symm
theorem own_old_le {Z : State} {n0 : Nat} {h : Heap} (O : Old Z n0 h) : n0 ≤ h.size := O.1 ▸ O.2.1
theorem own_oldne {Z : State} {n0 : Nat} {h : Heap} {a b : Addr} (O : Old Z n0 h) (q : a < Z.heap.size) (r : n0 ≤ b) : a ≠ b := O.ne q r
theorem own_fldI {Z : State} {args : Array Value} {t : Term} {C f d : String} {a : Addr} {k : Int32} (ht : t.eval args Z none [] Z = some (.ref a)) (h : (Cond.eq (.field t C f d) (.int k)).value args Z none Z [] = some true) : Fld Z Z.heap a C f d (.int k) := by
  refine Fld.start ?_
  rw [← fld_at (C := C) (n := f) (dd := d) ht]
  obtain ⟨x, y, h1, h2, h3, h4⟩ := cmp_v (Or.inl h)
  have h5 : y = .int k := Option.some.inj (h2.symm.trans (Term.int_eval k))
  subst h5
  obtain ⟨z, rfl⟩ := h4
  have := gotT (P := z = k) (by simp [Cond.value, h1, h2]) h
  rw [h1, this]
theorem own_fldD {Z : State} {args : Array Value} {t : Term} {C f d : String} {a : Addr} {k : Int64} {b : UInt64} (hb : k.toUInt64 = b) (ht : t.eval args Z none [] Z = some (.ref a)) (h : (Cond.eq (.field t C f d) (.op1 .bitsD (.long k))).value args Z none Z [] = some true) : Fld Z Z.heap a C f d (.double b) := by
  refine Fld.start ?_
  rw [← fld_at (C := C) (n := f) (dd := d) ht]
  obtain ⟨x, y, h1, h2, h3, h4⟩ := cmp_v (Or.inl h)
  have h5 : y = .double k.toUInt64 := Option.some.inj (h2.symm.trans rfl)
  subst h5
  obtain ⟨z, rfl⟩ := h4
  have := gotT (P := z = k.toUInt64) (by simp [Cond.value, h1, h2]) h
  rw [h1, this, hb]
theorem own_dnn {a b : UInt64} (ha : Jvm.Free.Fl.NoNaN64 a) (hb : FP.Core.DFin b) (hz : ¬ FP.Core.DZero b) : Jvm.Free.Fl.NoNaN64 (FP.ddiv a b) := by
  refine Jvm.Free.Fl.val64_no.mpr fun q => ?_
  have q2 := (FP.Core.quotient_nan FP.Core.b64 _ _).mp ((FP.Core.val64_ddiv a b).symm.trans q)
  rcases q2 with h | h | ⟨s, t, h1, h2⟩ | ⟨s, t, q, r, h1, h2⟩
  · exact Jvm.Free.Fl.val64_no.mp ha h
  · exact hb.ne_nan h
  · exact hb.ne_inf t h2
  · exact hz ⟨t, r, h2⟩
theorem own_i2dn (x : Int32) : Jvm.Free.Fl.NoNaN64 (FP.i2d x) := Jvm.Free.Fl.noNaN64_no.mpr (FP.Core.i2d_fin x).notNaN
theorem own_i2dz {x : Int32} (h : x ≠ 0) : ¬ FP.Core.DZero (FP.i2d x) := fun q => FP.Core.i2d_ne_zero h ((FP.Core.zero_bits2 _).mp q)
theorem own_and255 (x : Int32) : ¬ (x &&& (255 : Int32)) < 0 ∧ ¬ (255 : Int32) < (x &&& (255 : Int32)) := by
  have c1 := c_mask x (255 : Int32) 8 (by decide) (by decide)
  have q0 : (0 : Int32).toInt = 0 := by decide
  have q1 : (255 : Int32).toInt = 255 := by decide
  rw [own_xlt, own_xlt]
  omega
theorem own_l255 (x : Int64) : ¬ (x &&& (255 : Int64)).toInt32 < 0 ∧ ¬ (255 : Int32) < (x &&& (255 : Int64)).toInt32 := by
  have c1 := c_maskL x (255 : Int64) 8 (by decide) (by decide)
  have c2 := c_l2i (x &&& (255 : Int64))
  have r := rng32 (x &&& (255 : Int64)).toInt32
  have q0 : (0 : Int32).toInt = 0 := by decide
  have q1 : (255 : Int32).toInt = 255 := by decide
  rw [own_xlt, own_xlt]
  omega
theorem own_i2c {x : Int32} (h : ¬ x < 0 ∧ ¬ (255 : Int32) < x) : x.toUInt32.toUInt16.toUInt32.toInt32 = x := by
  have c1 := c_i2c x
  have q0 : (0 : Int32).toInt = 0 := by decide
  have q1 : (255 : Int32).toInt = 255 := by decide
  rw [own_xlt, own_xlt] at h
  rw [own_xeq]
  omega
theorem own_narc {x : Int32} (h : ¬ x < 0 ∧ ¬ (255 : Int32) < x) : nar .char x = x := own_i2c h
theorem own_nz {Z : State} {args : Array Value} {t : Term} {z : Int32} (ht : t.eval args Z none [] Z = some (.int z)) (h : (Cond.not (Cond.eq t (.int 0))).value args Z none Z [] = some true) : ¬ z = (0 : Int32) :=
  gotF (P := z = (0 : Int32)) (by simp [Cond.value, ht, Term.int_eval]) (not_v h)
theorem own_evI {Z : State} {args : Array Value} {u : Term} {k : Int32} (h : (Cond.eq u (.int k)).value args Z none Z [] = some true) : u.eval args Z none [] Z = some (.int k) := by
  obtain ⟨x, y, h1, h2, h3, h4⟩ := cmp_v (Or.inl h)
  have h5 : y = .int k := Option.some.inj (h2.symm.trans (Term.int_eval k))
  subst h5
  obtain ⟨z, rfl⟩ := h4
  have := gotT (P := z = k) (by simp [Cond.value, h1, h2]) h
  rw [h1, this]
theorem own_slotI {Z : State} {args : Array Value} {t : Term} {a : Addr} {i k : Int32} {cl : Cell} (ht : t.eval args Z none [] Z = some (.ref a)) (hc : Z.heap[a]? = some cl) (h : (Cond.eq (.elem t (.int i)) (.int k)).value args Z none Z [] = some true) : cl.slots[i.toNatClampNeg]? = some (.int k) :=
  (elem_in (own_evI h) ht (Term.int_eval i) hc).2
theorem own_lenI {Z : State} {args : Array Value} {t : Term} {a : Addr} {n : Int32} {cl : Cell} {ty : FieldType} (ht : t.eval args Z none [] Z = some (.ref a)) (A : Arr Z Z.heap a cl ty) (h : (Cond.eq (.length t) (.int n)).value args Z none Z [] = some true) : cl.slots.size < 2 ^ 31 ∧ cl.slots.size.toInt32 = n := by
  have hh := A.fin (Vm.Alike.refl _)
  have q := own_evI h
  simp only [Term.eval, ht, hh, Option.bind_eq_bind, Option.bind_some] at q
  split at q
  · rename_i hlt
    exact ⟨hlt, Value.int.inj (Option.some.inj q)⟩
  · cases q
theorem own_fldN {Z : State} {args : Array Value} {t : Term} {C f d : String} {a : Addr} (ht : t.eval args Z none [] Z = some (.ref a)) (h : (Cond.eq (.field t C f d) .null).value args Z none Z [] = some true) : Fld Z Z.heap a C f d .null := by
  refine Fld.start ?_
  rw [← fld_at (C := C) (n := f) (dd := d) ht]
  exact null_v h
theorem own_selpriv {Z s : State} {a0 args : Array Value} {y : MethodName} {n : Nat} (hZ : Z.Warmed39 s.vm) (wp : (Cond.privateMethod y).before a0 Z = true) (wi : (Cond.instanceMethod y).before a0 Z = true) (wk : (Cond.instantiable y.cls n).before a0 Z = true) (hy : y.cls ≠ "java/lang/invoke/MethodHandle" ∧ y.cls ≠ "java/lang/invoke/VarHandle") : (Cond.selects y.cls y y).before args s = true := by
  obtain ⟨c, k, h1, h2, -, h3, -⟩ := Cond.instantiable_spec (mv (s := s) (args := args) hZ wk)
  exact selects_self_of_private h1 h2 (Bool.or_eq_false_iff.mp h3).1 (Cond.privateMethod_at (mvP hZ wp (args := args))) (mv hZ wi) hy
theorem own_ne_arv {Z : State} {h : Heap} {a b : Addr} {C : String} {a0 : Array Value} {i : Nat} {k : ClassId} {ty : FieldType} {n : Int32} {vs : List Value} {dv : Value} (F : Exa Z h a C) (wi : (Cond.instantiable C i).before a0 Z = true) (V : Arv Z h b k ty n vs dv) : a ≠ b := by
  obtain ⟨cl, A, -⟩ := V
  exact ne_arr F wi A
theorem own_arr_keep {Z : State} {h h' : Heap} {a : Addr} {cl : Cell} {ty : FieldType} {ws : List Addr} (F : Arr Z h a cl ty) (K : Keep h h' ws) (q : a ∉ ws) : Arr Z h' a cl ty := ⟨K.2.1 a cl F.1 q, F.2⟩
section Arrays
variable {Z : State} {h : Heap} {a : Addr} {k : ClassId} {n : Int32} {vs : List Value} {dv : Value} {g : JFrame} {rest : List Value} {j : Int32} {v : Value}
theorem own_len {ty : FieldType} (X : Stand p l e R s m args below meth c T locs cells slots) (hx : p.tables.exec = Jvm.exec) (hZ : Z.Warmed39 s.vm) (eT : T.heap = h) (V : Arv Z h a k ty n vs dv) (hg : g.method = m) (hs : g.stack = .ref a :: rest) (hd : decode c.code g.pc = .ok (.arraylength, 1)) (target : State)
    (hr : Steps p.tables e below (T.setTop { g with pc := g.pc + 1, stack := .int n :: rest }) target) : Steps p.tables e below (T.setTop g) target := by
  obtain ⟨cl, A, -, S, N, -, -⟩ := V
  refine X.arraylength hx (by rw [eT]; exact A.1) (State.isArrayOf_alike hZ.alike A.2.1) hg hs hd target ?_
  rw [len_of S N]; exact hr
theorem own_ldI (X : Stand p l e R s m args below meth c T locs cells slots) (hx : p.tables.exec = Jvm.exec) (hZ : Z.Warmed39 s.vm) (eT : T.heap = h) (V : Arv Z h a k .int n vs dv) (hj : ¬ j < 0 ∧ j < n) (hv : vs.getD j.toNatClampNeg dv = v) (hg : g.method = m) (hs : g.stack = .int j :: .ref a :: rest) (hd : decode c.code g.pc = .ok (.iaload, 1)) (target : State)
    (hr : Steps p.tables e below (T.setTop { g with pc := g.pc + 1, stack := v :: rest }) target) : Steps p.tables e below (T.setTop g) target := by
  obtain ⟨cl, A, -, S, N, H, -⟩ := V
  have hin := inb_of S hj
  exact X.iaload hx (by rw [eT]; exact A.1) (State.isArrayOf_alike hZ.alike A.2.1) A.2.2 hin (H.at hin hv) hg hs hd target hr
theorem own_ldJ (X : Stand p l e R s m args below meth c T locs cells slots) (hx : p.tables.exec = Jvm.exec) (hZ : Z.Warmed39 s.vm) (eT : T.heap = h) (V : Arv Z h a k .long n vs dv) (hj : ¬ j < 0 ∧ j < n) (hv : vs.getD j.toNatClampNeg dv = v) (hg : g.method = m) (hs : g.stack = .int j :: .ref a :: rest) (hd : decode c.code g.pc = .ok (.laload, 1)) (target : State)
    (hr : Steps p.tables e below (T.setTop { g with pc := g.pc + 1, stack := v :: rest }) target) : Steps p.tables e below (T.setTop g) target := by
  obtain ⟨cl, A, -, S, N, H, -⟩ := V
  have hin := inb_of S hj
  exact X.laload hx (by rw [eT]; exact A.1) (State.isArrayOf_alike hZ.alike A.2.1) A.2.2 hin (H.at hin hv) hg hs hd target hr
theorem own_ldC (X : Stand p l e R s m args below meth c T locs cells slots) (hx : p.tables.exec = Jvm.exec) (hZ : Z.Warmed39 s.vm) (eT : T.heap = h) (V : Arv Z h a k .char n vs dv) (hj : ¬ j < 0 ∧ j < n) (hv : vs.getD j.toNatClampNeg dv = v) (hg : g.method = m) (hs : g.stack = .int j :: .ref a :: rest) (hd : decode c.code g.pc = .ok (.caload, 1)) (target : State)
    (hr : Steps p.tables e below (T.setTop { g with pc := g.pc + 1, stack := v :: rest }) target) : Steps p.tables e below (T.setTop g) target := by
  obtain ⟨cl, A, -, S, N, H, -⟩ := V
  have hin := inb_of S hj
  exact X.caload hx (by rw [eT]; exact A.1) (State.isArrayOf_alike hZ.alike A.2.1) A.2.2 hin (H.at hin hv) hg hs hd target hr
theorem own_ldB (X : Stand p l e R s m args below meth c T locs cells slots) (hx : p.tables.exec = Jvm.exec) (hZ : Z.Warmed39 s.vm) (eT : T.heap = h) (V : Arv Z h a k .byte n vs dv) (hj : ¬ j < 0 ∧ j < n) (hv : vs.getD j.toNatClampNeg dv = v) (hg : g.method = m) (hs : g.stack = .int j :: .ref a :: rest) (hd : decode c.code g.pc = .ok (.baload, 1)) (target : State)
    (hr : Steps p.tables e below (T.setTop { g with pc := g.pc + 1, stack := v :: rest }) target) : Steps p.tables e below (T.setTop g) target := by
  obtain ⟨cl, A, -, S, N, H, -⟩ := V
  have hin := inb_of S hj
  exact X.baloadBytes hx (by rw [eT]; exact A.1) (State.isArrayOf_alike hZ.alike A.2.1) A.2.2 hin (H.at hin hv) hg hs hd target hr
theorem own_ldR {ty : FieldType} (X : Stand p l e R s m args below meth c T locs cells slots) (hx : p.tables.exec = Jvm.exec) (hZ : Z.Warmed39 s.vm) (eT : T.heap = h) (V : Arv Z h a k ty n vs dv) (hj : ¬ j < 0 ∧ j < n) (hv : vs.getD j.toNatClampNeg dv = v) (hty : ty.isReference = true) (hg : g.method = m) (hs : g.stack = .int j :: .ref a :: rest) (hd : decode c.code g.pc = .ok (.aaload, 1)) (target : State)
    (hr : Steps p.tables e below (T.setTop { g with pc := g.pc + 1, stack := v :: rest }) target) : Steps p.tables e below (T.setTop g) target := by
  obtain ⟨cl, A, -, S, N, H, -⟩ := V
  have hin := inb_of S hj
  exact X.aaload hx (by rw [eT]; exact A.1) (State.isArrayOf_alike hZ.alike A.2.1) hty A.2.2 hin (H.at hin hv) hg hs hd target hr
theorem own_stI {x : Int32} (X : Stand p l e R s m args below meth c T locs cells slots) (hx : p.tables.exec = Jvm.exec) (hZ : Z.Warmed39 s.vm) (eT : T.heap = h) (V : Arv Z h a k .int n vs dv) (hj : ¬ j < 0 ∧ j < n) {i : Nat} (hji : j.toNatClampNeg = i) (hi : i < vs.length) (hg : g.method = m) (hs : g.stack = .int x :: .int j :: .ref a :: rest) (hd : decode c.code g.pc = .ok (.iastore, 1)) :
    ∃ T' h', Stand p l e R s m args below meth c T' (locs ++ [⟨a, j.toNatClampNeg⟩]) cells slots ∧ T'.heap = h' ∧ Wr h h' a j.toNatClampNeg (.int x) ∧ Arv Z h' a k .int n (vs.set i (.int x)) dv ∧ ∀ target, Steps p.tables e below (T'.setTop { g with pc := g.pc + 1, stack := rest }) target → Steps p.tables e below (T.setTop g) target := by
  obtain ⟨cl, A, q, S, N, H, Gf⟩ := V
  obtain ⟨T', h', X', e', W', st⟩ := stI X hx hZ eT A (inb_of S hj) hg hs hd
  exact ⟨T', h', X', e', W', Arv.set A q S N H Gf rfl W' i hji hi, st⟩
theorem own_stJ {x : Int64} (X : Stand p l e R s m args below meth c T locs cells slots) (hx : p.tables.exec = Jvm.exec) (hZ : Z.Warmed39 s.vm) (eT : T.heap = h) (V : Arv Z h a k .long n vs dv) (hj : ¬ j < 0 ∧ j < n) {i : Nat} (hji : j.toNatClampNeg = i) (hi : i < vs.length) (hg : g.method = m) (hs : g.stack = .long x :: .int j :: .ref a :: rest) (hd : decode c.code g.pc = .ok (.lastore, 1)) :
    ∃ T' h', Stand p l e R s m args below meth c T' (locs ++ [⟨a, j.toNatClampNeg⟩]) cells slots ∧ T'.heap = h' ∧ Wr h h' a j.toNatClampNeg (.long x) ∧ Arv Z h' a k .long n (vs.set i (.long x)) dv ∧ ∀ target, Steps p.tables e below (T'.setTop { g with pc := g.pc + 1, stack := rest }) target → Steps p.tables e below (T.setTop g) target := by
  obtain ⟨cl, A, q, S, N, H, Gf⟩ := V
  obtain ⟨T', h', X', e', W', st⟩ := stJ X hx hZ eT A (inb_of S hj) hg hs hd
  exact ⟨T', h', X', e', W', Arv.set A q S N H Gf rfl W' i hji hi, st⟩
theorem own_stC {x : Int32} (X : Stand p l e R s m args below meth c T locs cells slots) (hx : p.tables.exec = Jvm.exec) (hZ : Z.Warmed39 s.vm) (eT : T.heap = h) (V : Arv Z h a k .char n vs dv) (hj : ¬ j < 0 ∧ j < n) {i : Nat} (hji : j.toNatClampNeg = i) (hi : i < vs.length) (hg : g.method = m) (hs : g.stack = .int x :: .int j :: .ref a :: rest) (hd : decode c.code g.pc = .ok (.castore, 1)) :
    ∃ T' h', Stand p l e R s m args below meth c T' (locs ++ [⟨a, j.toNatClampNeg⟩]) cells slots ∧ T'.heap = h' ∧ Wr h h' a j.toNatClampNeg (.int (nar .char x)) ∧ Arv Z h' a k .char n (vs.set i (.int (nar .char x))) dv ∧ ∀ target, Steps p.tables e below (T'.setTop { g with pc := g.pc + 1, stack := rest }) target → Steps p.tables e below (T.setTop g) target := by
  obtain ⟨cl, A, q, S, N, H, Gf⟩ := V
  obtain ⟨T', h', X', e', W', st⟩ := stC X hx hZ eT A (inb_of S hj) hg hs hd
  exact ⟨T', h', X', e', W', Arv.set A q S N H Gf (fits_nar_char _) W' i hji hi, st⟩
theorem own_stB {x : Int32} (X : Stand p l e R s m args below meth c T locs cells slots) (hx : p.tables.exec = Jvm.exec) (hZ : Z.Warmed39 s.vm) (eT : T.heap = h) (V : Arv Z h a k .byte n vs dv) (hj : ¬ j < 0 ∧ j < n) {i : Nat} (hji : j.toNatClampNeg = i) (hi : i < vs.length) (hg : g.method = m) (hs : g.stack = .int x :: .int j :: .ref a :: rest) (hd : decode c.code g.pc = .ok (.bastore, 1)) :
    ∃ T' h', Stand p l e R s m args below meth c T' (locs ++ [⟨a, j.toNatClampNeg⟩]) cells slots ∧ T'.heap = h' ∧ Wr h h' a j.toNatClampNeg (.int (nar .byte x)) ∧ Arv Z h' a k .byte n (vs.set i (.int (nar .byte x))) dv ∧ ∀ target, Steps p.tables e below (T'.setTop { g with pc := g.pc + 1, stack := rest }) target → Steps p.tables e below (T.setTop g) target := by
  obtain ⟨cl, A, q, S, N, H, Gf⟩ := V
  obtain ⟨T', h', X', e', W', st⟩ := stB X hx hZ eT A (inb_of S hj) hg hs hd
  exact ⟨T', h', X', e', W', Arv.set A q S N H Gf (fits_nar_byte _) W' i hji hi, st⟩
theorem own_stR {K : String} (X : Stand p l e R s m args below meth c T locs cells slots) (hx : p.tables.exec = Jvm.exec) (hZ : Z.Warmed39 s.vm) (eT : T.heap = h) (V : Arv Z h a k (.object K) n vs dv) (hj : ¬ j < 0 ∧ j < n) {i : Nat} (hji : j.toNatClampNeg = i) (hi : i < vs.length) (hS : ∀ {cl : Cell}, Arr Z h a cl (.object K) → cl.cls = k → Sto Z h a v) (hg : g.method = m) (hs : g.stack = v :: .int j :: .ref a :: rest) (hd : decode c.code g.pc = .ok (.aastore, 1)) (hf : fits (.object K) v = true := by rfl) :
    ∃ T' h', Stand p l e R s m args below meth c T' (locs ++ [⟨a, j.toNatClampNeg⟩]) cells slots ∧ T'.heap = h' ∧ Wr h h' a j.toNatClampNeg v ∧ Arv Z h' a k (.object K) n (vs.set i v) dv ∧ ∀ target, Steps p.tables e below (T'.setTop { g with pc := g.pc + 1, stack := rest }) target → Steps p.tables e below (T.setTop g) target := by
  obtain ⟨cl, A, q, S, N, H, Gf⟩ := V
  obtain ⟨T', h', X', e', W', st⟩ := stR X hx hZ eT A (inb_of S hj) rfl (hS A q) hg hs hd
  exact ⟨T', h', X', e', W', Arv.set A q S N H Gf hf W' i hji hi, st⟩
end Arrays
end New
end Jvm.RoadKit
namespace Jvm.Pilot.@@N@@
open Jvm Jvm.ClassFile Sem Op Lib Jvm.Free Jvm.Stand Jvm.LawKit Jvm.RoadKit Bundle Jvm.Pilot.@@N@@.Jvm.D
abbrev cn_0 : String := "java/lang/AbstractStringBuilder"
abbrev cn_1 : String := "com/example/bordereau/bordereau/archive/Problem"
abbrev cn_2 : String := "java/lang/String"
abbrev cn_3 : String := "com/example/bordereau/bordereau/archive/ProblemAtCellPinLaw"
abbrev cn_4 : String := "java/lang/StringBuilder"
abbrev cn_5 : String := "Ljava/lang/String;"
abbrev cn_6 : String := "()Ljava/lang/String;"
abbrev cn_7 : String := "java/lang/Integer"
abbrev cn_8 : String := "(Ljava/lang/String;ILjava/lang/String;Ljava/lang/String;)Lcom/example/bordereau/bordereau/archive/Problem;"
abbrev cn_9 : String := "java/util/Arrays"
abbrev cn_10 : String := "java/lang/StringLatin1"
abbrev cn_11 : String := "(Ljava/lang/String;Ljava/lang/String;ILjava/lang/String;Ljava/lang/String;)V"
abbrev cn_12 : String := "(Ljava/lang/String;)Ljava/lang/StringBuilder;"
abbrev cn_13 : String := "(Ljava/lang/String;)Ljava/lang/AbstractStringBuilder;"
abbrev cn_14 : String := "jdk/internal/util/Preconditions"
abbrev cn_15 : String := "java/lang/Object"
abbrev cn_16 : String := "(Ljava/lang/Object;Ljava/lang/String;)Ljava/lang/Object;"
abbrev cn_17 : String := "jdk/internal/util/ArraysSupport"
abbrev cn_18 : String := "(Ljava/lang/AbstractStringBuilder;Ljava/lang/Void;)V"
abbrev cn_19 : String := "()Ljava/lang/Object;"
abbrev cn_20 : String := "(I)Ljava/lang/StringBuilder;"
abbrev cn_21 : String := "(I)Ljava/lang/AbstractStringBuilder;"
abbrev cn_22 : String := "(IILjava/util/function/BiFunction;)I"
abbrev cn_23 : String := "(Ljava/lang/Object;)Z"
abbrev cn_24 : String := "java/lang/Math"
abbrev cn_25 : String := "(ILjava/lang/String;)V"
abbrev cn_26 : String := "(Ljava/lang/String;)V"
abbrev cn_27 : String := "(Ljava/lang/StringBuilder;)V"
abbrev cn_28 : String := "(Ljava/lang/String;IICIICC)Z"
abbrev cn_29 : String := "java/util/Objects"
abbrev cn_30 : String := "java/lang/System"
abbrev cn_31 : String := "(C)Ljava/lang/String;"
set_option maxRecDepth 65536
set_option maxHeartbeats 40000000
abbrev u_ : Slot := Slot.unset
abbrev s_ : Slot := Slot.second
theorem own_openX {p : Program} {l : Launch} {e : Env} {R : Room} {s : State} {m : MethodId} {args : Array Value} {below : List Frame} {meth : Method} {c : Code} {T : State} {locs : List Loc} {cells slots : Nat} (_ : Stand p l e R s m args below meth c T locs cells slots) (K N : Nat) (Q : Option Value → Heap → List Loc → Prop) (hlocks : meth.locks = false) :
    ∃ G : State → JFrame → Prop,
      (∀ {T T' : State} {g g' : JFrame}, (∀ t, Steps p.tables e below (T'.setTop g') t → Steps p.tables e below (T.setTop g) t) → G T' g' → G T g) ∧
      (∀ {T : State} {g : JFrame} {locs : List Loc} {cells slots : Nat} {v : Option Value} {h : Heap}, Stand p l e R s m args below meth c T locs cells slots → (meth.sig.returnType = none → v = none) →
        (∀ fs, (∀ (f : JFrame) (acts : List Action), f.method = m → f.locked = none → f.entered = [] → (doReturn e (T.setTop f) acts v).1 = T.setFrames fs) → Steps p.tables e below (T.setTop g) (T.setFrames fs)) → T.heap = h → Q v h locs → cells ≤ K → slots ≤ N → G T g) ∧
      (∀ {T : State} {g : JFrame}, G T g → ∃ t o, Steps p.tables e below (T.setTop g) t ∧ t.status = .running ∧ Ended t below o ∧ ∃ v L, o = .returned v ∧ Q v t.heap L ∧ FrameEnd s o t L K N) :=
  own_open (p := p) (l := l) (e := e) (R := R) (s := s) (m := m) (args := args) (below := below) (meth := meth) (c := c) K N Q hlocks
abbrev HW (Z : State) (a0 : Array Value) : Prop := ∀ d ∈ tables_1, d.before a0 Z = true
theorem own_w {Z : State} {a0 : Array Value} (hw : HW Z a0) (i : Nat) {c : Cond} (h : tables_1[i]? = some c) : c.before a0 Z = true := hw _ (List.mem_of_getElem? h)
variable {Z : State} {a0 : Array Value}
abbrev qc0 : ByteArray := jdk_42_method_152_code
abbrev qc1 : ByteArray := jdk_42_method_54_code
abbrev qc2 : ByteArray := jdk_43_method_3_code
abbrev qc3 : ByteArray := jdk_43_method_46_code
abbrev qc4 : ByteArray := jdk_42_method_151_code
abbrev qc5 : ByteArray := jdk_42_method_139_code
abbrev qc6 : ByteArray := jdk_42_method_154_code
abbrev qc7 : ByteArray := jdk_41_method_11_code
abbrev qc8 : ByteArray := jdk_42_method_155_code
abbrev qc9 : ByteArray := jdk_43_method_2_code
abbrev qc10 : ByteArray := jdk_42_method_56_code
abbrev qc11 : ByteArray := jdk_68_method_2_code
abbrev qc12 : ByteArray := jdk_67_method_1_code
abbrev qc13 : ByteArray := jdk_68_method_9_code
abbrev qc14 : ByteArray := jdk_29_method_65_code
abbrev qc15 : ByteArray := jdk_29_method_69_code
abbrev qc16 : ByteArray := jdk_48_method_27_code
abbrev qc17 : ByteArray := jdk_68_method_10_code
abbrev qc18 : ByteArray := jdk_65_method_121_code
abbrev qc19 : ByteArray := jdk_68_method_71_code
abbrev qc20 : ByteArray := jdk_42_method_147_code
abbrev qc21 : ByteArray := jdk_68_method_73_code
abbrev qc22 : ByteArray := jdk_68_method_22_code
abbrev qc23 : ByteArray := jdk_67_method_7_code
abbrev qc24 : ByteArray := jdk_68_method_64_code
abbrev qc25 : ByteArray := jdk_68_method_6_code
abbrev qc26 : ByteArray := jdk_67_method_93_code
abbrev qc27 : ByteArray := jdk_68_method_68_code
abbrev qc28 : ByteArray := jdk_65_method_131_code
abbrev qc29 : ByteArray := jdk_65_method_133_code
abbrev qc30 : ByteArray := jdk_65_method_132_code
abbrev qc31 : ByteArray := jdk_42_method_150_code
abbrev qc32 : ByteArray := jdk_42_method_53_code
abbrev qc33 : ByteArray := jdk_67_method_42_code
abbrev qc34 : ByteArray := jdk_33_method_13_code
abbrev qc35 : ByteArray := jdk_33_method_12_code
abbrev qc36 : ByteArray := jdk_68_method_32_code
abbrev qc37 : ByteArray := jdk_67_method_15_code
abbrev qc38 : ByteArray := jdk_31_method_11_code
abbrev qc39 : ByteArray := prog_12_method_1_code
abbrev qc40 : ByteArray := prog_12_method_4_code
abbrev qc41 : ByteArray := prog_12_method_6_code
abbrev qc42 : ByteArray := prog_12_method_7_code
abbrev qc43 : ByteArray := jdk_42_method_66_code
abbrev qc44 : ByteArray := prog_12_method_11_code
abbrev qc45 : ByteArray := method_7_code
abbrev qc46 : ByteArray := method_6_code
abbrev qc47 : ByteArray := method_5_code
abbrev qc48 : ByteArray := method_4_code
abbrev qc49 : ByteArray := method_3_code
abbrev own_Met (l : Launch) (y : MethodName) (bytes : ByteArray) (maxL : Nat) (ret : Option FieldType) (ws : List Cond) (rm : Room) (Z : State) (as' : Array Value) (h0 : Heap) (Q : Option Value → Heap → List Loc → Prop) : Prop := MetFree l y (head1 (Cond.code y bytes maxL ret :: ws) rm) (fun a U => a = as' ∧ Z.Warmed39 U.vm ∧ U.heap = h0) (fun _ _ _ _ _ => True) (fun _ U o U' => ∃ v L, o = .returned v ∧ Q v U'.heap L ∧ FrameEnd U o U' L rm.cells rm.slots)
abbrev vI (x : Int32) : Slot := Slot.val (Value.int x)
abbrev vL (x : Int64) : Slot := Slot.val (Value.long x)
abbrev vR (x : Addr) : Slot := Slot.val (Value.ref x)
def own_Dig (Z : State) (a : Addr) (f : Int32 → Int32) : Prop := ∃ c : Cell, Arr Z Z.heap a c .byte ∧ c.slots.size = (100 : Int32).toNatClampNeg ∧ ∀ j : Int32, ¬ j < 0 → j < (100 : Int32) → c.slots[j.toNatClampNeg]? = some (.int (f j))
theorem own_arrX {Z : State} {args : Array Value} {t : Term} {a : Addr} {n : Int32} (et : t.eval args Z none [] Z = some (.ref a)) (hE : (Cond.exactly t "[B").value args Z none Z [] = some true) (wa : (Cond.arrayClass .byte).before args Z = true) (hl : (Cond.eq (.length t) (.int n)).value args Z none Z [] = some true) : ∃ c, Arr Z Z.heap a c .byte := by
  obtain ⟨a3, c3, cell, k3, e1, e2, e3, e4, e5, e6, -⟩ := Cond.exactly_spec (Cond.before_iff.mpr hE : (Cond.exactly t "[B").before args Z = true)
  cases et.symm.trans e1
  obtain ⟨c4, k4, comp, f1, f2, f3⟩ := Cond.arrayClass_spec wa
  cases (show Z.vm.findClass "[B" = some c4 from f1).symm.trans e2
  have f2' : Z.vm.classes[cell.cls]? = some k4 := by rw [e6]; exact f2
  have q := own_evI hl
  refine ⟨cell, e3, ⟨(fun q r => by rw [r] at e5; cases e5), k4, f2', comp, f3⟩, fun hu => ?_⟩
  have hn : Z.arrayAt? a = none := by simp [State.arrayAt?, e3, f2', hu]
  simp [Term.eval, et, hn] at q
theorem own_digS {Z : State} {args : Array Value} {t F : Term} {a : Addr} {f : Int32 → Int32} (et : ∀ idx, t.eval args Z none idx Z = some (.ref a)) (hE : (Cond.exactly t "[B").value args Z none Z [] = some true) (wa : (Cond.arrayClass .byte).before args Z = true) (hl : (Cond.eq (.length t) (.int 100)).value args Z none Z [] = some true)
    (hA : (Cond.all t (.eq (.elem t (.index 0)) F)).value args Z none Z [] = some true) (hF : ∀ j : Int32, ¬ j < 0 → F.eval args Z none [j.toNatClampNeg] Z = some (.int (f j))) : own_Dig Z a f := by
  obtain ⟨c, A⟩ := own_arrX (et []) hE wa hl
  obtain ⟨q1, q2⟩ := own_lenI (et []) A hl
  have S : c.slots.size = (100 : Int32).toNatClampNeg := by rw [← q2]; simp only [Int32.toNatClampNeg, len_toInt q1]; rfl
  refine ⟨c, A, S, fun j h0 h1 => ?_⟩
  have hin := inb_of S ⟨h0, h1⟩
  have u := Cond.all_elim (et []) (A.fin (Vm.Alike.refl _)) hA j.toNatClampNeg (Nat.lt_of_not_le fun x => hin (Or.inr x))
  exact (elem_f (et _) (idx_at h0) (A.fin (Vm.Alike.refl _)) h0).symm.trans (eqv_i (hF j h0) u)
theorem own_remF {Z : State} {args : Array Value} (j : Int32) (h0 : ¬ j < 0) : (Term.add (.int 48) (.rem (.index 0) (.int 10))).eval args Z none [j.toNatClampNeg] Z = some (.int (48 + j % 10)) := by
  simp [Term.eval]
  rw [(back32 h0).1]
theorem own_divF {Z : State} {args : Array Value} (j : Int32) (h0 : ¬ j < 0) : (Term.add (.int 48) (.div (.index 0) (.int 10))).eval args Z none [j.toNatClampNeg] Z = some (.int (48 + j / 10)) := by
  simp [Term.eval]
  rw [(back32 h0).1]
section Dig
variable {p : Program} {l : Launch} {e : Env} {R : Room} {s : State} {m : MethodId} {args : Array Value} {below : List Frame} {meth : Method} {c : Code} {T : State} {locs : List Loc} {cells slots : Nat} {Z : State} {h : Heap} {a b : Addr} {g : JFrame} {rest : List Value} {j : Int32}
theorem own_ldDig {f : Int32 → Int32} (X : Stand p l e R s m args below meth c T locs cells slots) (hx : p.tables.exec = Jvm.exec) (hZ : Z.Warmed39 s.vm) (eT : T.heap = h) (F : own_Dig Z a f) (E : Ext Z.heap h) (hj : ¬ j < 0 ∧ j < (100 : Int32)) (hg : g.method = m) (hs : g.stack = .int j :: .ref a :: rest) (hd : decode c.code g.pc = .ok (.baload, 1)) :
    ∀ target, Steps p.tables e below (T.setTop { g with pc := g.pc + 1, stack := .int (f j) :: rest }) target → Steps p.tables e below (T.setTop g) target := by
  obtain ⟨cl, A, S, H⟩ := F
  exact fun target hr => X.baloadBytes hx (by rw [eT]; exact (A.ext E).1) (State.isArrayOf_alike hZ.alike A.2.1) A.2.2 (inb_of S hj) (H j hj.1 hj.2) hg hs hd target hr
theorem own_rng (L : List Value) (d : Value) : L = (List.range L.length).map fun i => L.getD ((0 : Int32).toNatClampNeg + i) d := by
  refine List.ext_getElem (by simp) fun i h1 h2 => ?_
  have e0 : (0 : Int32).toNatClampNeg = 0 := by decide
  simp [e0, List.getD_eq_getElem?_getD, List.getElem?_eq_getElem h1]
theorem own_cpE (X : Stand p l e R s m args below meth c T locs cells slots) (hx : p.tables.exec = Jvm.exec) (hZ : Z.Warmed39 s.vm) {a0 : Array Value} {own : String} {index : Nat} (hown : s.vm.findClass own = some m.cls)
    (w1 : (Cond.methodLink own index Jvm.Stand.acN).before a0 Z = true) (w2 : (Cond.native Jvm.Stand.acN).before a0 Z = true) (w3 : (Cond.static Jvm.Stand.acN).before a0 Z = true) (w4 : (Cond.initialized cn_30).before a0 Z = true) (eT : T.heap = h)
    {k k' : ClassId} {z z' dp nn : Int32} {L D : List Value} (A : Arv Z h a k .byte z L (.int 0)) (B : Arv Z h b k' .byte z' D (.int 0)) (h2 : ¬ dp < 0) (h3 : ¬ nn < 0) (hdp : dp.toNatClampNeg = D.length) (hnn : nn.toNatClampNeg = L.length) (h4 : L.length ≤ z.toNatClampNeg) (h5 : D.length + L.length ≤ z'.toNatClampNeg) {n0 : Nat} (N : Fr n0 locs) (ge : n0 ≤ b)
    (hg : g.method = m) (hsize : g.locals.size = c.maxLocals) (hs : g.stack = .int nn :: .int dp :: .ref b :: .int 0 :: .ref a :: rest) (hd : decode c.code g.pc = .ok (.invokestatic index, 3))
    (hf : 1 ≤ R.frames) {W : Nat} (hW : 2 * g.monitorRoom + (rest.map fun v => v.category).sum ≤ W) (hlo : W + (nativeFrameWords cn_30 "arraycopy" 5 + 11) ≤ R.locals) :
    ∃ T' h' L', Stand p l e R s m args below meth c T' L' cells slots ∧ T'.heap = h' ∧ Fr n0 L' ∧ Keep h h' [b] ∧ Arv Z h' b k' .byte z' (D ++ L) (.int 0) ∧
      ∀ target, Steps p.tables e below (T'.setTop { g with pc := g.pc + 3, stack := rest }) target → Steps p.tables e below (T.setTop g) target := by
  have e0 : (0 : Int32).toNatClampNeg = 0 := by decide
  obtain ⟨T', h', L', X', e', N', K', V', st⟩ := cpA X hx hZ hown w1 w2 w3 w4 eT A (B.pad (pad_rep D (.int 0) L.length)) (Or.inl ⟨rfl, rfl⟩) (sp := (0 : Int32)) (us := L) (by decide) h2 h3 (by rw [e0, hnn]; omega) (by rw [hdp, hnn]; exact h5) (by rw [hnn]; exact own_rng L _) (by rw [hdp, hnn]; simp) N ge hg hsize hs hd hf hW hlo
  refine ⟨T', h', L', X', e', N', K', ?_, st⟩
  rw [hdp, hnn, List.take_left, List.drop_eq_nil_of_le (by simp), List.append_nil] at V'
  exact V'
end Dig
def own_St (Z : State) (w_0 w_1 : Addr) (w_2 : Int32) (w_3 : Value) : Prop := (Sta Z Z.heap cn_7 "DigitOnes" "[B" (.ref w_0)) ∧ (Exa Z Z.heap w_0 "[B") ∧ (Sta Z Z.heap cn_7 "DigitTens" "[B" (.ref w_1)) ∧ (Exa Z Z.heap w_1 "[B") ∧ (Sta Z Z.heap cn_2 "COMPACT_STRINGS" "Z" (.int w_2)) ∧ (Sta Z Z.heap cn_14 "SIOOBE_FORMATTER" "Ljava/util/function/BiFunction;" w_3) ∧ (w_3.isRef = true) ∧ (¬ w_2 = (0 : Int32)) ∧ (own_Dig Z w_0 (fun j => 48 + j % 10)) ∧ (own_Dig Z w_1 (fun j => 48 + j / 10))
theorem own_St.k0 {Z : State} {w_0 : Addr} {w_1 : Addr} {w_2 : Int32} {w_3 : Value} (ST : own_St Z w_0 w_1 w_2 w_3) : Sta Z Z.heap cn_7 "DigitOnes" "[B" (.ref w_0) := ST.1
theorem own_St.k1 {Z : State} {w_0 : Addr} {w_1 : Addr} {w_2 : Int32} {w_3 : Value} (ST : own_St Z w_0 w_1 w_2 w_3) : Exa Z Z.heap w_0 "[B" := ST.2.1
theorem own_St.k2 {Z : State} {w_0 : Addr} {w_1 : Addr} {w_2 : Int32} {w_3 : Value} (ST : own_St Z w_0 w_1 w_2 w_3) : Sta Z Z.heap cn_7 "DigitTens" "[B" (.ref w_1) := ST.2.2.1
theorem own_St.k3 {Z : State} {w_0 : Addr} {w_1 : Addr} {w_2 : Int32} {w_3 : Value} (ST : own_St Z w_0 w_1 w_2 w_3) : Exa Z Z.heap w_1 "[B" := ST.2.2.2.1
theorem own_St.k4 {Z : State} {w_0 : Addr} {w_1 : Addr} {w_2 : Int32} {w_3 : Value} (ST : own_St Z w_0 w_1 w_2 w_3) : Sta Z Z.heap cn_2 "COMPACT_STRINGS" "Z" (.int w_2) := ST.2.2.2.2.1
theorem own_St.k5 {Z : State} {w_0 : Addr} {w_1 : Addr} {w_2 : Int32} {w_3 : Value} (ST : own_St Z w_0 w_1 w_2 w_3) : Sta Z Z.heap cn_14 "SIOOBE_FORMATTER" "Ljava/util/function/BiFunction;" w_3 := ST.2.2.2.2.2.1
theorem own_St.k6 {Z : State} {w_0 : Addr} {w_1 : Addr} {w_2 : Int32} {w_3 : Value} (ST : own_St Z w_0 w_1 w_2 w_3) : w_3.isRef = true := ST.2.2.2.2.2.2.1
theorem own_St.k7 {Z : State} {w_0 : Addr} {w_1 : Addr} {w_2 : Int32} {w_3 : Value} (ST : own_St Z w_0 w_1 w_2 w_3) : ¬ w_2 = (0 : Int32) := ST.2.2.2.2.2.2.2.1
theorem own_St.k8 {Z : State} {w_0 : Addr} {w_1 : Addr} {w_2 : Int32} {w_3 : Value} (ST : own_St Z w_0 w_1 w_2 w_3) : own_Dig Z w_0 (fun j => 48 + j % 10) := ST.2.2.2.2.2.2.2.2.1
theorem own_St.k9 {Z : State} {w_0 : Addr} {w_1 : Addr} {w_2 : Int32} {w_3 : Value} (ST : own_St Z w_0 w_1 w_2 w_3) : own_Dig Z w_1 (fun j => 48 + j / 10) := ST.2.2.2.2.2.2.2.2.2
def own_lo (x : Int32) : Int32 := x.toInt8.toInt32
def own_by (cs : List Int32) : List Value := cs.map fun c => Value.int (own_lo c)
abbrev own_EL : List (String × Nat) := [(cn_1, 63), (cn_1, 72), (cn_1, 74), (cn_1, 76), (cn_3, 55), (cn_3, 61)]
def own_L : List Int32 := [(32 : Int32), (108 : Int32), (105 : Int32), (110 : Int32), (101 : Int32), (32 : Int32)]
theorem own_eL : (∀ c ∈ " line ".toList, c.toNat < 256) ∧ " line ".toList.map (fun c => Value.int (Jvm.Lit.byteI c.toNat.toUInt16)) = own_by own_L := by
  have e : " line ".toList = [' ', 'l', 'i', 'n', 'e', ' '] := by first | rfl | decide | simp
  rw [e]
  exact ⟨by decide, by first | rfl | decide⟩
def own_E : List Int32 := []
theorem own_eE : (∀ c ∈ "".toList, c.toNat < 256) ∧ "".toList.map (fun c => Value.int (Jvm.Lit.byteI c.toNat.toUInt16)) = own_by own_E := by
  have e : "".toList = [] := by first | rfl | decide | simp
  rw [e]
  exact ⟨by decide, by first | rfl | decide⟩
def own_C : List Int32 := [(32 : Int32), (99 : Int32), (111 : Int32), (108 : Int32), (117 : Int32), (109 : Int32), (110 : Int32), (32 : Int32)]
theorem own_eC : (∀ c ∈ " column ".toList, c.toNat < 256) ∧ " column ".toList.map (fun c => Value.int (Jvm.Lit.byteI c.toNat.toUInt16)) = own_by own_C := by
  have e : " column ".toList = [' ', 'c', 'o', 'l', 'u', 'm', 'n', ' '] := by first | rfl | decide | simp
  rw [e]
  exact ⟨by decide, by first | rfl | decide⟩
def own_D : List Int32 := [(58 : Int32), (32 : Int32)]
theorem own_eD : (∀ c ∈ ": ".toList, c.toNat < 256) ∧ ": ".toList.map (fun c => Value.int (Jvm.Lit.byteI c.toNat.toUInt16)) = own_by own_D := by
  have e : ": ".toList = [':', ' '] := by first | rfl | decide | simp
  rw [e]
  exact ⟨by decide, by first | rfl | decide⟩
theorem ww231 (hw : HW Z a0) : Cond.before (Cond.initialized cn_7) a0 Z = true := own_w hw 231 rfl
theorem ww14 (hw : HW Z a0) : Cond.before (Cond.arrayClass FieldType.byte) a0 Z = true := own_w hw 14 rfl
theorem ww218 (hw : HW Z a0) : Cond.before (Cond.stringLink cn_3 61 " column ") a0 Z = true := own_w hw 218 rfl
theorem ww259 (hw : HW Z a0) : Cond.before (Cond.stringLink cn_3 55 " line ") a0 Z = true := own_w hw 259 rfl
theorem ww188 (hw : HW Z a0) : Cond.before (Cond.stringLink cn_1 76 ": ") a0 Z = true := own_w hw 188 rfl
theorem ww142 (hw : HW Z a0) : Cond.before (Cond.stringLink cn_1 74 " column ") a0 Z = true := own_w hw 142 rfl
theorem ww141 (hw : HW Z a0) : Cond.before (Cond.stringLink cn_1 72 "") a0 Z = true := own_w hw 141 rfl
theorem ww219 (hw : HW Z a0) : Cond.before (Cond.stringLink cn_1 63 " line ") a0 Z = true := own_w hw 219 rfl
theorem own_EW {Z : State} {a0 : Array Value} (hw : HW Z a0) : EW Z a0 own_EL := (EW.cons (text := " line ") (ww219 hw) own_eL.1 (EW.cons (text := "") (ww141 hw) own_eE.1 (EW.cons (text := " column ") (ww142 hw) own_eC.1 (EW.cons (text := ": ") (ww188 hw) own_eD.1 (EW.cons (text := " line ") (ww259 hw) own_eL.1 (EW.cons (text := " column ") (ww218 hw) own_eC.1 EW.nil))))))
theorem own_safeN {Z : State} {EL : List (String × Nat)} {vm : Vm} {h : Heap} {x : Addr} (hal : Z.vm.Alike vm) (E : Exa Z h x cn_2) (F : Fld Z h x cn_2 "value" "[B" .null) : Safe Z EL vm h x := fun B => by
  obtain ⟨p, -, u, a, -, q, -, S, rfl | rfl⟩ := B
  · obtain ⟨cell, cf, k, i, f, e1, e2, -, -, -, -, e7⟩ := F
    cases (show h[q.sa]? = some q.sC from S.ha).symm.trans e1
    obtain ⟨cS, ⟨⟨-, -, -, ⟨cv, kv, iv, s4, -⟩, -, -, -, s8, -⟩, -⟩, -⟩ := S
    obtain ⟨kv', z4⟩ := ff_back (U := Wst Z vm h) hal s4
    have e4 := z4.symm.trans e2
    simp only [Option.some.injEq, Prod.mk.injEq] at e4
    rw [← e4.2.2.2, s8] at e7
    cases e7
  · obtain ⟨cell, k, e1, e2, -⟩ := E
    cases (show h[q.sd]? = some q.SA from S.hd).symm.trans e1
    obtain ⟨cS, -, -, f, -⟩ := S
    have f' : vm.findClass "[B" = some q.SA.cls := f
    rw [hal.findClass] at f'
    obtain ⟨k1, q1, q2⟩ := Vm.findClass_spec f'
    obtain ⟨k2, q3, q4⟩ := Vm.findClass_spec e2
    cases q1.symm.trans q3
    exact absurd (q2.symm.trans q4) (by decide)
theorem own_safeV {Z : State} {EL : List (String × Nat)} {vm : Vm} {h : Heap} {x : Addr} {k : ClassId} {ty : FieldType} {n : Int32} {vs : List Value} {d : Value} (hal : Z.vm.Alike vm) (V : Arv Z h x k ty n vs d) (ht : ty ≠ .byte) : Safe Z EL vm h x := by
  obtain ⟨c, A, -⟩ := V
  exact Safe.arr hal A ht
theorem own_openH {p : Program} {l : Launch} {e : Env} {R : Room} {s : State} {m : MethodId} {args : Array Value} {below : List Frame} {meth : Method} {c : Code} {Z : State} {a0 : Array Value} {EL : List (String × Nat)} {h0 : Heap} (K N : Nat) (Q : Option Value → Heap → List Loc → Prop) (hEL : EW Z a0 EL) (hh : s.heap = h0) (hlocks : meth.locks = false) :
    ∃ G : State → JFrame → Prop,
      (∀ {T T' : State} {g g' : JFrame}, (∀ t, Steps p.tables e below (T'.setTop g') t → Steps p.tables e below (T.setTop g) t) → G T' g' → G T g) ∧
      (∀ {T : State} {g : JFrame} {locs : List Loc} {cells slots : Nat} {v : Option Value} {h : Heap} {vm0 : Vm} {k0 : Nat}, Stand p l e R (s.setVm vm0) m args below meth c T locs cells slots → s.Since vm0 k0 → k0 ≤ h.size → CHr Z EL s.vm h0 vm0 h → Z.Warmed39 vm0 → (meth.sig.returnType = none → v = none) →
        (∀ fs, (∀ (f : JFrame) (acts : List Action), f.method = m → f.locked = none → f.entered = [] → (doReturn e (T.setTop f) acts v).1 = T.setFrames fs) → Steps p.tables e below (T.setTop g) (T.setFrames fs)) → T.heap = h → Q v h locs → cells ≤ K → slots ≤ N → G T g) ∧
      (∀ {T : State} {g : JFrame}, G T g → ∃ t o, Steps p.tables e below (T.setTop g) t ∧ t.status = .running ∧ Ended t below o ∧ ∃ v L, o = .returned v ∧ Q v t.heap L ∧ CHr Z EL s.vm s.heap t.vm t.heap ∧ ReturnedEndW s o t L K N) := by
  refine ⟨fun T g => ∃ t o, Steps p.tables e below (T.setTop g) t ∧ t.status = .running ∧ Ended t below o ∧ ∃ v L, o = .returned v ∧ Q v t.heap L ∧ CHr Z EL s.vm s.heap t.vm t.heap ∧ ReturnedEndW s o t L K N, ?_, ?_, fun h => h⟩
  · intro T T' g g' hs hG
    obtain ⟨t, o, h1, h2⟩ := hG
    exact ⟨t, o, hs t h1, h2⟩
  · intro T g locs cells slots v h vm0 k0 X hS hk0 hC hZ hv hst hT hQ hk hn
    obtain ⟨fs, hr, hrun, hended, hW⟩ := X.leaveW hS (by rw [hT]; exact hk0) hv hlocks
    refine ⟨_, _, hst fs hr, hrun, hended, v, locs, rfl, by show Q v T.heap locs; rw [hT]; exact hQ, ?_, hW.1, hW.2.1, hW.2.2.1, hW.2.2.2.mono hk hn⟩
    show CHr Z EL s.vm s.heap T.vm T.heap
    rw [hT, hh]
    exact hC.trans (CHv.at X hZ hEL hC.1)
theorem own_openHX {p : Program} {l : Launch} {e : Env} {R : Room} {s : State} {m : MethodId} {args : Array Value} {below : List Frame} {meth : Method} {c : Code} {T : State} {locs : List Loc} {cells slots : Nat} {vm : Vm} {Z : State} {a0 : Array Value} {EL : List (String × Nat)} {h0 : Heap} (_ : Stand p l e R (s.setVm vm) m args below meth c T locs cells slots) (K N : Nat) (Q : Option Value → Heap → List Loc → Prop) (hEL : EW Z a0 EL) (hh : s.heap = h0) (hlocks : meth.locks = false) :
    ∃ G : State → JFrame → Prop,
      (∀ {T T' : State} {g g' : JFrame}, (∀ t, Steps p.tables e below (T'.setTop g') t → Steps p.tables e below (T.setTop g) t) → G T' g' → G T g) ∧
      (∀ {T : State} {g : JFrame} {locs : List Loc} {cells slots : Nat} {v : Option Value} {h : Heap} {vm0 : Vm} {k0 : Nat}, Stand p l e R (s.setVm vm0) m args below meth c T locs cells slots → s.Since vm0 k0 → k0 ≤ h.size → CHr Z EL s.vm h0 vm0 h → Z.Warmed39 vm0 → (meth.sig.returnType = none → v = none) →
        (∀ fs, (∀ (f : JFrame) (acts : List Action), f.method = m → f.locked = none → f.entered = [] → (doReturn e (T.setTop f) acts v).1 = T.setFrames fs) → Steps p.tables e below (T.setTop g) (T.setFrames fs)) → T.heap = h → Q v h locs → cells ≤ K → slots ≤ N → G T g) ∧
      (∀ {T : State} {g : JFrame}, G T g → ∃ t o, Steps p.tables e below (T.setTop g) t ∧ t.status = .running ∧ Ended t below o ∧ ∃ v L, o = .returned v ∧ Q v t.heap L ∧ CHr Z EL s.vm s.heap t.vm t.heap ∧ ReturnedEndW s o t L K N) :=
  own_openH (p := p) (l := l) (e := e) (R := R) (s := s) (m := m) (args := args) (below := below) (meth := meth) (c := c) K N Q hEL hh hlocks
theorem own_wS {Z : State} {a0 : Array Value} (hw : HW Z a0) : ∀ a ∈ Bundle.stringAtoms, a.before a0 Z = true := by
  intro a ha
  simp only [Bundle.stringAtoms, List.mem_cons, List.not_mem_nil, or_false] at ha
  rcases ha with rfl | rfl | rfl | rfl | rfl | rfl | rfl
  all_goals first | exact hw _ (List.mem_of_getElem? (i := 10) rfl) | exact hw _ (List.mem_of_getElem? (i := 2) rfl) | exact hw _ (List.mem_of_getElem? (i := 14) rfl) | exact hw _ (List.mem_of_getElem? (i := 23) rfl) | exact hw _ (List.mem_of_getElem? (i := 25) rfl) | exact hw _ (List.mem_of_getElem? (i := 33) rfl) | exact hw _ (List.mem_of_getElem? (i := 34) rfl)
theorem own_shr0 (n : Int32) : n >>> ((0 : Int32) &&& 31) = n := by
  have c1 := c_ishr n (0 : Int32) 0 (by decide)
  rw [own_xeq, c1]
  simp
theorem own_shl0 (n : Int32) : n <<< ((0 : Int32) &&& 31) = n := by
  have c1 := c_ishl n (0 : Int32) 0 (by decide)
  have r1 := rng32 n
  have r2 := rng32 (n <<< ((0 : Int32) &&& 31))
  rw [own_xeq]
  omega
theorem own_ex {α : Type} (a : α) : ∃ z : α, z = a := ⟨_, rfl⟩
theorem own_narb8 (x : Int32) : nar .byte (x.toInt8.toInt32) = x.toInt8.toInt32 := by
  show x.toInt8.toInt32.toInt8.toInt32 = x.toInt8.toInt32
  simp
theorem own_oi {k : Nat} (h : k ≤ 4000) : (Int32.ofNat k).toInt = (k : Int) := len_toInt (show k < 2 ^ 31 by omega)
theorem own_on {k : Nat} (h : k ≤ 4000) : (Int32.ofNat k).toNatClampNeg = k := by
  show (Int32.ofNat k).toInt.toNat = k
  rw [own_oi h]
  rfl
theorem own_oz {k : Nat} (h : k ≤ 4000) : ¬ Int32.ofNat k < 0 := by
  have q : (0 : Int32).toInt = 0 := by decide
  rw [own_xlt, own_oi h]
  omega
theorem own_oa {i j : Nat} (h : i + j ≤ 4000) : Int32.ofNat i + Int32.ofNat j = Int32.ofNat (i + j) := by
  have c1 := c_iadd (Int32.ofNat i) (Int32.ofNat j)
  have r1 := rng32 (Int32.ofNat i + Int32.ofNat j)
  rw [own_oi (by omega), own_oi (by omega)] at c1
  rw [own_xeq, own_oi h]
  omega
def own_ok (n : Int32) (cs : List Int32) : Prop := n = Int32.ofNat cs.length ∧ (∀ c ∈ cs, ¬ c < 0 ∧ ¬ (255 : Int32) < c) ∧ cs.length ≤ 34
def own_sbp (c q : Int32) (cs : List Int32) : Prop := c = Int32.ofNat cs.length ∧ (∀ c ∈ cs, ¬ c < 0 ∧ ¬ (255 : Int32) < c) ∧ (q = (16 : Int32) ∨ q = (34 : Int32)) ∧ cs.length ≤ q.toNatClampNeg
theorem own_bl (cs : List Int32) : (own_by cs).length = cs.length := by simp [own_by]
theorem own_ba (cs ds : List Int32) : own_by cs ++ own_by ds = own_by (cs ++ ds) := by simp [own_by]
theorem own_lo255 {c : Int32} (h : ¬ c < 0 ∧ ¬ (255 : Int32) < c) : (own_lo c &&& (255 : Int32)) = c := by
  have q0 : (0 : Int32).toInt = 0 := by decide
  have q1 : (255 : Int32).toInt = 255 := by decide
  have c1 := c_i2b c
  have c2 := c_mask (own_lo c) (255 : Int32) 8 (by decide) (by decide)
  have e : (own_lo c).toInt = c.toInt8.toInt32.toInt := rfl
  rw [own_xlt, own_xlt] at h
  rw [own_xeq]
  omega
theorem own_jl {j n : Int32} {ds : List Int32} (hok : own_ok n ds) (h1 : ¬ j < 0) (h2 : j < n) : j.toNatClampNeg < ds.length := by
  have q0 : (0 : Int32).toInt = 0 := by decide
  have e := own_oi (k := ds.length) (by have := hok.2.2; omega)
  rw [← hok.1] at e
  show j.toInt.toNat < ds.length
  rw [own_xlt] at h1 h2
  omega
theorem own_lg {j n : Int32} {ds : List Int32} (hok : own_ok n ds) (h1 : ¬ j < 0) (h2 : j < n) : ¬ (ds.getD j.toNatClampNeg 0) < 0 ∧ ¬ (255 : Int32) < (ds.getD j.toNatClampNeg 0) := by
  have hl := own_jl hok h1 h2
  rw [List.getD_eq_getElem?_getD, List.getElem?_eq_getElem hl]
  exact hok.2.1 _ (List.getElem_mem hl)
theorem own_gb {j n : Int32} {ds : List Int32} (hok : own_ok n ds) (h1 : ¬ j < 0) (h2 : j < n) : (own_by ds).getD j.toNatClampNeg (.int 0) = .int (own_lo (ds.getD j.toNatClampNeg 0)) := by
  have hl := own_jl hok h1 h2
  simp [own_by, List.getD_eq_getElem?_getD, List.getElem?_eq_getElem hl]
theorem own_okn {n : Int32} {cs : List Int32} (h : own_ok n cs) : ¬ n < 0 ∧ n.toNatClampNeg = (own_by cs).length := by
  have q := h.2.2
  rw [h.1, own_bl]
  exact ⟨own_oz (by omega), own_on (by omega)⟩
theorem own_sbn {c q : Int32} {cs : List Int32} (h : own_sbp c q cs) : ¬ c < 0 ∧ c.toNatClampNeg = (own_by cs).length ∧ q.toNatClampNeg ≤ 34 ∧ ¬ q < 0 ∧ (q = (16 : Int32) ∨ q = (34 : Int32)) ∧ cs.length ≤ 34 := by
  obtain ⟨h1, -, h2, h3⟩ := h
  have e : q.toNatClampNeg ≤ 34 ∧ ¬ q < 0 := by rcases h2 with rfl | rfl <;> exact ⟨by decide, by decide⟩
  have hl : cs.length ≤ 34 := Nat.le_trans h3 e.1
  rw [h1, own_bl]
  exact ⟨own_oz (by omega), own_on (by omega), e.1, e.2, h2, hl⟩
theorem own_okL : own_ok (6 : Int32) own_L := ⟨by decide, by decide, by decide⟩
theorem own_okE : own_ok (0 : Int32) own_E := ⟨by decide, by decide, by decide⟩
theorem own_okC : own_ok (8 : Int32) own_C := ⟨by decide, by decide, by decide⟩
theorem own_okD : own_ok (2 : Int32) own_D := ⟨by decide, by decide, by decide⟩
theorem d0_0 : decode qc0 0 = .ok (.getstatic 38, 3) := by decide +kernel
theorem ww4 (hw : HW Z a0) : Cond.before (Cond.fieldLink cn_2 38 cn_2 "COMPACT_STRINGS" "Z") a0 Z = true := own_w hw 4 rfl
theorem d0_3 : decode qc0 3 = .ok (.ifCond .eq 10, 3) := by decide +kernel
theorem d0_6 : decode qc0 6 = .ok (.aload_n 0, 1) := by decide +kernel
theorem d0_7 : decode qc0 7 = .ok (.getfield 15, 3) := by decide +kernel
theorem ww24 (hw : HW Z a0) : Cond.before (Cond.fieldLink cn_2 15 cn_2 "coder" "B") a0 Z = true := own_w hw 24 rfl
theorem d0_10 : decode qc0 10 = .ok (.goto 4, 3) := by decide +kernel
theorem d0_14 : decode qc0 14 = .ok (.ireturn, 1) := by decide +kernel
abbrev rr_co : Room := { frames := 0, cells := 0, slots := 0, locals := 0 }
abbrev y_0 : MethodName := ⟨cn_2, "coder", "()B"⟩
theorem pn_0 : plainName cn_2 = true := by first | (simp [plainName, overriddenIn]; done) | decide +kernel
theorem ef_co (m : MethodId) (o0 : Addr) : entryFrame m #[(.ref o0)] 1 = mkF m 0 #[vR o0] [] := by first | (simp [entryFrame, mkF, argsToLocals, Value.category]; done) | rfl
def f_co (w_0 w_1 : Addr) (w_2 : Int32) (w_3 : Value) (o0 : Addr) : Int32 := (0 : Int32)
def Q_co (Z : State) (w_0 w_1 : Addr) (w_2 : Int32) (w_3 : Value) (o0 : Addr) (h0 : Heap) (n0 : Nat) (v : Option Value) (h : Heap) (L : List Loc) : Prop := v = some (.int (f_co w_0 w_1 w_2 w_3 o0)) ∧ Fr n0 L ∧ h = h0
theorem rm_co (l : Launch) (Z : State) (a0 : Array Value) (hw : HW Z a0) (ws : List Jvm.Cond) (w_0 w_1 : Addr) (w_2 : Int32) (w_3 : Value) (o0 : Addr) (h0 : Heap) (n0 : Nat) (Z0 : n0 ≤ h0.size) (ST : own_St Z w_0 w_1 w_2 w_3) (O0 : Old Z n0 h0) (Fc : Fld Z h0 o0 cn_2 "coder" "B" (.int 0)) :
    own_Met l y_0 jdk_42_method_152_code 1 (some .byte) ws rr_co Z #[(.ref o0)] h0 (Q_co Z w_0 w_1 w_2 w_3 o0 h0 n0) := by
  refine MetFree.of_bodySF (plainFor_of_name pn_0) hisR ?_
  intro p e s m args below meth c s₁ Bd hml0 hP hK
  obtain ⟨rfl, hZ, hh⟩ := hP
  have hx := Bd.exec
  have hby := Bd.bytes
  have B := @hb _ _ hby
  have hml : c.maxLocals = 1 := hml0
  have hown : s.vm.findClass cn_2 = some m.cls := findClass_of_methodNamed Bd.named
  have X0 : Stand p l e rr_co s m #[(.ref o0)] below meth c s₁ [] 0 0 := Stand.of_body Bd
  have e0 : s₁.heap = h0 := by rw [← hh, Bd.state]; rfl
  have N0 := Fr.nil n0
  obtain ⟨G, step, ret, fin⟩ := own_openX X0 (rr_co.cells) (rr_co.slots) (Q_co Z w_0 w_1 w_2 w_3 o0 h0 n0) Bd.notSynchronized
  refine fin (g := entryFrame m #[(.ref o0)] 1) ?_
  rw [ef_co m o0]
  obtain ⟨T1, X1, e1, st1⟩ := getS2 X0 hx hZ hown (host := "") (Or.inl (ww4 hw)) Via.refl e0 (Sta.ext O0.2 ST.k4) (g := (mkF m 0 #[vR o0] [])) rfl (B d0_0)
  refine step st1 ?_
  refine step (fun _ => XS.ifNo X1.here hx rfl (B d0_3) rfl ((if0 _ _).trans (feq ST.k7).1)) ?_
  refine step (fun _ => XS.aloadN X1.here hx rfl (B d0_6) rfl rfl) ?_
  obtain ⟨T2, X2, e2, st2⟩ := getF X1 hx hZ hown (host := "") (Or.inl (ww24 hw)) Via.refl e1 Fc (g := (mkF m 7 #[vR o0] [(.ref o0)])) rfl rfl (B d0_7)
  refine step st2 ?_
  refine step (fun _ => XS.goto X2.here hx rfl (pc0 := 10) (pc' := 14) rfl (B d0_10) (by decide) (by decide)) ?_
  exact ret (v := some (.int 0)) X2 (fun h => by rw [Bd.returns] at h; cases h) (fun fs hr => retN X2 hx (t := .byte) Bd.returns (by simp) (B d0_14) hr) e2 ⟨rfl, N0, rfl⟩ (by decide) (by decide)
theorem ww10 (hw : HW Z a0) : Cond.before (Cond.instantiable cn_2 4) a0 Z = true := own_w hw 10 rfl
theorem d1_0 : decode qc1 0 = .ok (.aload_n 0, 1) := by decide +kernel
theorem d1_1 : decode qc1 1 = .ok (.getfield 9, 3) := by decide +kernel
theorem ww22 (hw : HW Z a0) : Cond.before (Cond.fieldLink cn_2 9 cn_2 "value" "[B") a0 Z = true := own_w hw 22 rfl
theorem d1_4 : decode qc1 4 = .ok (.arraylength, 1) := by decide +kernel
theorem d1_5 : decode qc1 5 = .ok (.aload_n 0, 1) := by decide +kernel
theorem d1_6 : decode qc1 6 = .ok (.invokevirtual 335, 3) := by decide +kernel
theorem ww109 (hw : HW Z a0) : Cond.before (Cond.methodLink cn_2 335 ({ cls := cn_2, name := "coder", desc := "()B" } : MethodName)) a0 Z = true := own_w hw 109 rfl
theorem ww112 (hw : HW Z a0) : Cond.before (Cond.selects cn_2 ({ cls := cn_2, name := "coder", desc := "()B" } : MethodName) ({ cls := cn_2, name := "coder", desc := "()B" } : MethodName)) a0 Z = true := own_w hw 112 rfl
theorem ww113 (hw : HW Z a0) : Cond.before (Cond.code ({ cls := cn_2, name := "coder", desc := "()B" } : MethodName) jdk_42_method_152_code 1 (Option.some FieldType.byte)) a0 Z = true := own_w hw 113 rfl
theorem ww2 (hw : HW Z a0) : Cond.before (Cond.initialized cn_2) a0 Z = true := own_w hw 2 rfl
theorem pd_0 : parseMethodDescriptor "()B" = some ⟨[], some .byte⟩ := by decide +kernel
theorem ww110 (hw : HW Z a0) : Cond.before (Cond.declares ({ cls := cn_2, name := "coder", desc := "()B" } : MethodName)) a0 Z = true := own_w hw 110 rfl
theorem ww111 (hw : HW Z a0) : Cond.before (Cond.instanceMethod ({ cls := cn_2, name := "coder", desc := "()B" } : MethodName)) a0 Z = true := own_w hw 111 rfl
theorem d1_9 : decode qc1 9 = .ok (.ishr, 1) := by decide +kernel
theorem d1_10 : decode qc1 10 = .ok (.ireturn, 1) := by decide +kernel
abbrev rr_le : Room := { frames := 1, cells := 0, slots := 0, locals := 13 }
abbrev y_1 : MethodName := ⟨cn_2, "length", "()I"⟩
theorem ef_le (m : MethodId) (o0 : Addr) : entryFrame m #[(.ref o0)] 1 = mkF m 0 #[vR o0] [] := by first | (simp [entryFrame, mkF, argsToLocals, Value.category]; done) | rfl
def f_le (w_0 w_1 : Addr) (w_2 : Int32) (w_3 : Value) (o0 t : Addr) (kk : ClassId) (n : Int32) (ds : List Int32) : Int32 := n
def Q_le (Z : State) (w_0 w_1 : Addr) (w_2 : Int32) (w_3 : Value) (o0 t : Addr) (kk : ClassId) (n : Int32) (ds : List Int32) (h0 : Heap) (n0 : Nat) (v : Option Value) (h : Heap) (L : List Loc) : Prop := v = some (.int (f_le w_0 w_1 w_2 w_3 o0 t kk n ds)) ∧ Fr n0 L ∧ h = h0
theorem rm_le (l : Launch) (Z : State) (a0 : Array Value) (hw : HW Z a0) (ws : List Jvm.Cond) (w_0 w_1 : Addr) (w_2 : Int32) (w_3 : Value) (o0 t : Addr) (kk : ClassId) (n : Int32) (ds : List Int32) (h0 : Heap) (n0 : Nat) (Z0 : n0 ≤ h0.size) (ST : own_St Z w_0 w_1 w_2 w_3) (O0 : Old Z n0 h0) (Es : Exa Z h0 o0 cn_2) (Fv : Fld Z h0 o0 cn_2 "value" "[B" (.ref t)) (Fc : Fld Z h0 o0 cn_2 "coder" "B" (.int 0)) (Va : Arv Z h0 t kk .byte n (own_by ds) (.int 0)) (hok : own_ok n ds) :
    own_Met l y_1 jdk_42_method_54_code 1 (some .int) ws rr_le Z #[(.ref o0)] h0 (Q_le Z w_0 w_1 w_2 w_3 o0 t kk n ds h0 n0) := by
  refine MetFree.of_bodySF (plainFor_of_name pn_0) hisR ?_
  intro p e s m args below meth c s₁ Bd hml0 hP hK
  obtain ⟨rfl, hZ, hh⟩ := hP
  have hx := Bd.exec
  have hby := Bd.bytes
  have B := @hb _ _ hby
  have hml : c.maxLocals = 1 := hml0
  have hown : s.vm.findClass cn_2 = some m.cls := findClass_of_methodNamed Bd.named
  have X0 : Stand p l e rr_le s m #[(.ref o0)] below meth c s₁ [] 0 0 := Stand.of_body Bd
  have e0 : s₁.heap = h0 := by rw [← hh, Bd.state]; rfl
  have N0 := Fr.nil n0
  obtain ⟨G, step, ret, fin⟩ := own_openX X0 (rr_le.cells) (rr_le.slots) (Q_le Z w_0 w_1 w_2 w_3 o0 t kk n ds h0 n0) Bd.notSynchronized
  refine fin (g := entryFrame m #[(.ref o0)] 1) ?_
  rw [ef_le m o0]
  refine step (fun _ => XS.aloadN X0.here hx rfl (B d1_0) rfl rfl) ?_
  obtain ⟨T1, X1, e1, st1⟩ := getF X0 hx hZ hown (host := "") (Or.inl (ww22 hw)) Via.refl e0 Fv (g := (mkF m 1 #[vR o0] [(.ref o0)])) rfl rfl (B d1_1)
  refine step st1 ?_
  have q2 := own_len X1 hx hZ e1 Va (g := (mkF m 4 #[vR o0] [(.ref t)])) rfl rfl (B d1_4)
  refine step q2 ?_
  refine step (fun _ => XS.aloadN X1.here hx rfl (B d1_5) rfl rfl) ?_
  have hK3 := (backOf (R := rr_le) (p := p) (e := e) (below := below) (s := s) (args := #[(.ref o0)]) (len := 3) (W := 1) (rm_co l Z a0 hw [] w_0 w_1 w_2 w_3 o0 h0 n0 (own_old_le O0) ST O0 Fc) hZ (ww113 hw) (ww2 hw) (by decide) (by decide))
  obtain ⟨cq3, kq3, q3a, q3b, q3c⟩ := isOf hZ e1 Es
  obtain ⟨_, _, ⟨T3, L3, k3, n3⟩, -, X3, ⟨Lc3, hQ3, l3, y3, z3⟩, st3⟩ := X1.virtualBack hx (y := y_0) (z := y_0) hown (mvT hZ (ww109 hw)) (mvT hZ (ww110 hw)) (notFace_of_selects (args := #[]) (mvT hZ (ww112 hw))) (mvT hZ (ww112 hw)) (mvT hZ (ww111 hw)) (by decide) hK3 q3a q3c (g := (mkF m 6 #[vR o0] [(.ref o0), (.int n)])) rfl (by rw [hml]; rfl) (Steps.refl _) (argsL := []) (rest := [(.int n)]) (lenOf pd_0 rfl) rfl (by show 2 * 0 + _ ≤ _; exact Nat.le_of_eq rfl) (B d1_6) (fun _ _ => ⟨rfl, e1, (by decide : 0 + 0 ≤ _), (by decide : 0 + 0 ≤ _)⟩)
  dsimp only [Pt.U, Pt.locs, Pt.cells, Pt.slots] at X3 l3 y3 z3 st3 hQ3
  subst l3 y3 z3
  obtain ⟨rfl, N3q, e3⟩ := hQ3
  have N3 := Fr.app N0 N3q
  obtain ⟨lc3, X3, N3⟩ := own_gen X3 N3
  refine step (fun t k => st3.trans k) ?_
  have r4 : (f_co w_0 w_1 w_2 w_3 o0) = (0 : Int32) := rfl
  rw [r4]
  refine step (fun _ => XS.ishr X3.here hx rfl (B d1_9) rfl) ?_
  show G T3 (mkF m 10 #[vR o0] [(.int (n >>> ((0 : Int32) &&& 31)))])
  rw [own_shr0]
  exact ret (v := some (.int n)) X3 (fun h => by rw [Bd.returns] at h; cases h) (fun fs hr => retI X3 hx Bd.returns (B d1_10) hr) e3 ⟨rfl, N3, rfl⟩ (by decide) (by decide)
theorem d2_0 : decode qc2 0 = .ok (.iload_n 0, 1) := by decide +kernel
theorem d2_1 : decode qc2 1 = .ok (.sipush 255, 3) := by decide +kernel
theorem d2_4 : decode qc2 4 = .ok (.if_icmp .gt 7, 3) := by decide +kernel
theorem d2_7 : decode qc2 7 = .ok (.iconst 1, 1) := by decide +kernel
theorem d2_8 : decode qc2 8 = .ok (.goto 4, 3) := by decide +kernel
theorem d2_12 : decode qc2 12 = .ok (.ireturn, 1) := by decide +kernel
abbrev rr_can : Room := { frames := 0, cells := 0, slots := 0, locals := 0 }
abbrev y_2 : MethodName := ⟨cn_10, "canEncode", "(C)Z"⟩
theorem pn_1 : plainName cn_10 = true := by first | (simp [plainName, overriddenIn]; done) | decide +kernel
theorem ef_can (m : MethodId) (p0 : Int32) : entryFrame m #[(.int p0)] 1 = mkF m 0 #[vI p0] [] := by first | (simp [entryFrame, mkF, argsToLocals, Value.category]; done) | rfl
def f_can (w_0 w_1 : Addr) (w_2 : Int32) (w_3 : Value) (p0 : Int32) : Int32 := (1 : Int32)
def Q_can (Z : State) (w_0 w_1 : Addr) (w_2 : Int32) (w_3 : Value) (p0 : Int32) (h0 : Heap) (n0 : Nat) (v : Option Value) (h : Heap) (L : List Loc) : Prop := v = some (.int (f_can w_0 w_1 w_2 w_3 p0)) ∧ Fr n0 L ∧ h = h0
theorem rm_can (l : Launch) (Z : State) (a0 : Array Value) (hw : HW Z a0) (ws : List Jvm.Cond) (w_0 w_1 : Addr) (w_2 : Int32) (w_3 : Value) (p0 : Int32) (h0 : Heap) (n0 : Nat) (Z0 : n0 ≤ h0.size) (ST : own_St Z w_0 w_1 w_2 w_3) (O0 : Old Z n0 h0) (hl : ¬ p0 < 0 ∧ ¬ (255 : Int32) < p0) :
    own_Met l y_2 jdk_43_method_3_code 1 (some .boolean) ws rr_can Z #[(.int p0)] h0 (Q_can Z w_0 w_1 w_2 w_3 p0 h0 n0) := by
  refine MetFree.of_bodySF (plainFor_of_name pn_1) hisR ?_
  intro p e s m args below meth c s₁ Bd hml0 hP hK
  obtain ⟨rfl, hZ, hh⟩ := hP
  have hx := Bd.exec
  have hby := Bd.bytes
  have B := @hb _ _ hby
  have hml : c.maxLocals = 1 := hml0
  have hown : s.vm.findClass cn_10 = some m.cls := findClass_of_methodNamed Bd.named
  have X0 : Stand p l e rr_can s m #[(.int p0)] below meth c s₁ [] 0 0 := Stand.of_body Bd
  have e0 : s₁.heap = h0 := by rw [← hh, Bd.state]; rfl
  have N0 := Fr.nil n0
  obtain ⟨G, step, ret, fin⟩ := own_openX X0 (rr_can.cells) (rr_can.slots) (Q_can Z w_0 w_1 w_2 w_3 p0 h0 n0) Bd.notSynchronized
  refine fin (g := entryFrame m #[(.int p0)] 1) ?_
  rw [ef_can m p0]
  refine step (fun _ => XS.iloadN X0.here hx rfl (B d2_0) rfl) ?_
  refine step (fun _ => XS.sipush X0.here hx rfl (B d2_1)) ?_
  refine step (fun _ => XS.icmpNo X0.here hx rfl (B d2_4) rfl (flt hl.2).2.2.1) ?_
  refine step (fun _ => XS.iconst X0.here hx rfl (B d2_7)) ?_
  refine step (fun _ => XS.goto X0.here hx rfl (pc0 := 8) (pc' := 12) rfl (B d2_8) (by decide) (by decide)) ?_
  exact ret (v := some (.int 1)) X0 (fun h => by rw [Bd.returns] at h; cases h) (fun fs hr => retN X0 hx (t := .boolean) Bd.returns (by simp) (B d2_12) hr) e0 ⟨rfl, N0, rfl⟩ (by decide) (by decide)
theorem d3_0 : decode qc3 0 = .ok (.iconst 1, 1) := by decide +kernel
theorem d3_1 : decode qc3 1 = .ok (.newarray .byte, 2) := by decide +kernel
theorem d3_3 : decode qc3 3 = .ok (.dup, 1) := by decide +kernel
theorem d3_4 : decode qc3 4 = .ok (.iconst 0, 1) := by decide +kernel
theorem d3_5 : decode qc3 5 = .ok (.iload_n 0, 1) := by decide +kernel
theorem d3_6 : decode qc3 6 = .ok (.i2b, 1) := by decide +kernel
theorem d3_7 : decode qc3 7 = .ok (.bastore, 1) := by decide +kernel
theorem d3_8 : decode qc3 8 = .ok (.areturn, 1) := by decide +kernel
abbrev rr_tob : Room := { frames := 0, cells := 1, slots := 1, locals := 0 }
abbrev y_3 : MethodName := ⟨cn_10, "toBytes", "(C)[B"⟩
theorem ef_tob (m : MethodId) (p0 : Int32) : entryFrame m #[(.int p0)] 1 = mkF m 0 #[vI p0] [] := by first | (simp [entryFrame, mkF, argsToLocals, Value.category]; done) | rfl
def Q_tob (Z : State) (w_0 w_1 : Addr) (w_2 : Int32) (w_3 : Value) (p0 : Int32) (h0 : Heap) (n0 : Nat) (v : Option Value) (h : Heap) (L : List Loc) : Prop := ∃ b : Addr, ∃ kb : ClassId, v = some (.ref b) ∧ Fr n0 L ∧ Keep h0 h [] ∧ h0.size ≤ b ∧ Arv Z h b kb .byte (1 : Int32) [(.int (p0.toInt8.toInt32))] (.int 0)
theorem rm_tob (l : Launch) (Z : State) (a0 : Array Value) (hw : HW Z a0) (ws : List Jvm.Cond) (w_0 w_1 : Addr) (w_2 : Int32) (w_3 : Value) (p0 : Int32) (h0 : Heap) (n0 : Nat) (Z0 : n0 ≤ h0.size) (ST : own_St Z w_0 w_1 w_2 w_3) (O0 : Old Z n0 h0) :
    own_Met l y_3 jdk_43_method_46_code 1 (some (.array .byte)) ws rr_tob Z #[(.int p0)] h0 (Q_tob Z w_0 w_1 w_2 w_3 p0 h0 n0) := by
  refine MetFree.of_bodySF (plainFor_of_name pn_1) hisR ?_
  intro p e s m args below meth c s₁ Bd hml0 hP hK
  obtain ⟨rfl, hZ, hh⟩ := hP
  have hx := Bd.exec
  have hby := Bd.bytes
  have B := @hb _ _ hby
  have hml : c.maxLocals = 1 := hml0
  have hown : s.vm.findClass cn_10 = some m.cls := findClass_of_methodNamed Bd.named
  have X0 : Stand p l e rr_tob s m #[(.int p0)] below meth c s₁ [] 0 0 := Stand.of_body Bd
  have e0 : s₁.heap = h0 := by rw [← hh, Bd.state]; rfl
  have N0 := Fr.nil n0
  have K0 : Keep h0 h0 [] := Keep.refl _ _
  obtain ⟨G, step, ret, fin⟩ := own_openX X0 (rr_tob.cells) (rr_tob.slots) (Q_tob Z w_0 w_1 w_2 w_3 p0 h0 n0) Bd.notSynchronized
  refine fin (g := entryFrame m #[(.int p0)] 1) ?_
  rw [ef_tob m p0]
  refine step (fun _ => XS.iconst X0.here hx rfl (B d3_0)) ?_
  obtain ⟨T1, h1, k1, X1, e1, E1, A1, B1, st1⟩ := newPE (aty := .byte) X0 hx hZ (ww14 hw) e0 (g := (mkF m 1 #[vI p0] [(.int 1)])) rfl (B d3_1) rfl (by decide) (cap := 1) (by decide) (by decide) (by decide) (by decide) (ad := "[B") (by decide)
  obtain ⟨b1, g1⟩ : ∃ z, z = h0.size := ⟨_, rfl⟩
  rw [← g1] at A1 B1 st1
  have V1 : Arv Z h1 b1 k1 .byte (1 : Int32) [(.int 0)] (.int 0) := (Arv.new A1 (by decide)).pad (pad_rep [] (.int 0) 1)
  have ge_b1 : n0 ≤ b1 := Nat.le_trans (own_old_le O0) (Nat.le_of_eq g1.symm)
  have sz_b1 : h0.size ≤ b1 := Nat.le_trans K0.1 (Nat.le_of_eq g1.symm)
  have K1 : Keep h0 h1 [] := K0.ext E1
  refine step st1 ?_
  refine step (fun _ => XS.dup X1.here hx rfl (B d3_3) rfl rfl) ?_
  refine step (fun _ => XS.iconst X1.here hx rfl (B d3_4)) ?_
  refine step (fun _ => XS.iloadN X1.here hx rfl (B d3_5) rfl) ?_
  refine step (fun _ => XS.i2b X1.here hx rfl (B d3_6) rfl) ?_
  obtain ⟨T2, h2, X2, e2, W2, V2, st2⟩ := own_stB X1 hx hZ e1 V1 (j := (0 : Int32)) (by decide) (i := 0) rfl (by show 0 < 1; decide) (g := (mkF m 7 #[vI p0] [(.int (p0.toInt8.toInt32)), (.int 0), (.ref b1), (.ref b1)])) rfl rfl (B d3_7)
  replace V2 : Arv Z h2 b1 k1 .byte (1 : Int32) [(.int (p0.toInt8.toInt32))] (.int 0) := by rw [own_narb8] at V2; exact V2
  have N2 := Fr.snoc X2 N0 ge_b1
  obtain ⟨lc2, X2, N2⟩ := own_gen X2 N2
  have K2 : Keep h0 h2 [] := K1.wr W2 (Or.inr sz_b1)
  refine step st2 ?_
  exact ret (v := some (.ref b1)) X2 (fun h => by rw [Bd.returns] at h; cases h) (fun fs hr => retA X2 hx Bd.returns rfl rfl (B d3_8) hr) e2 ⟨b1, k1, rfl, N2, K2, sz_b1, V2⟩ (by decide) (by decide)
theorem d4_0 : decode qc4 0 = .ok (.aload_n 0, 1) := by decide +kernel
theorem d4_1 : decode qc4 1 = .ok (.invokespecial 1, 3) := by decide +kernel
theorem ww19 (hw : HW Z a0) : Cond.before (Cond.methodLink cn_2 1 ({ cls := cn_15, name := "<init>", desc := "()V" } : MethodName)) a0 Z = true := own_w hw 19 rfl
theorem ww20 (hw : HW Z a0) : Cond.before (Cond.instanceMethod ({ cls := cn_15, name := "<init>", desc := "()V" } : MethodName)) a0 Z = true := own_w hw 20 rfl
theorem ww21 (hw : HW Z a0) : Cond.before (Cond.code ({ cls := cn_15, name := "<init>", desc := "()V" } : MethodName) object_method_1_code 1 (Option.none : Option Jvm.ClassFile.FieldType)) a0 Z = true := own_w hw 21 rfl
theorem d4_4 : decode qc4 4 = .ok (.aload_n 0, 1) := by decide +kernel
theorem d4_5 : decode qc4 5 = .ok (.aload_n 1, 1) := by decide +kernel
theorem d4_6 : decode qc4 6 = .ok (.putfield 9, 3) := by decide +kernel
theorem ww23 (hw : HW Z a0) : Cond.before (Cond.laysFinal cn_2 cn_2 "value" "[B") a0 Z = true := own_w hw 23 rfl
theorem d4_9 : decode qc4 9 = .ok (.aload_n 0, 1) := by decide +kernel
theorem d4_10 : decode qc4 10 = .ok (.iload_n 2, 1) := by decide +kernel
theorem d4_11 : decode qc4 11 = .ok (.putfield 15, 3) := by decide +kernel
theorem ww25 (hw : HW Z a0) : Cond.before (Cond.laysFinal cn_2 cn_2 "coder" "B") a0 Z = true := own_w hw 25 rfl
theorem d4_14 : decode qc4 14 = .ok (.return_, 1) := by decide +kernel
abbrev rr_ini : Room := { frames := 1, cells := 0, slots := 0, locals := 12 }
abbrev y_4 : MethodName := ⟨cn_2, "<init>", "([BB)V"⟩
theorem ef_ini (m : MethodId) (o0 o1 : Addr) : entryFrame m #[(.ref o0), (.ref o1), (.int 0)] 3 = mkF m 0 #[vR o0, vR o1, vI 0] [] := by first | (simp [entryFrame, mkF, argsToLocals, Value.category]; done) | rfl
def Q_ini (Z : State) (w_0 w_1 : Addr) (w_2 : Int32) (w_3 : Value) (o0 o1 : Addr) (h0 : Heap) (n0 : Nat) (v : Option Value) (h : Heap) (L : List Loc) : Prop := v = none ∧ Fr n0 L ∧ Keep h0 h [o0] ∧ Exa Z h o0 cn_2 ∧ Fld Z h o0 cn_2 "value" "[B" (.ref o1) ∧ Fld Z h o0 cn_2 "coder" "B" (.int 0)
theorem rm_ini (l : Launch) (Z : State) (a0 : Array Value) (hw : HW Z a0) (ws : List Jvm.Cond) (w_0 w_1 : Addr) (w_2 : Int32) (w_3 : Value) (o0 o1 : Addr) (h0 : Heap) (n0 : Nat) (Z0 : n0 ≤ h0.size) (ST : own_St Z w_0 w_1 w_2 w_3) (O0 : Old Z n0 h0) (Ex : Exa Z h0 o0 cn_2) (geo : n0 ≤ o0) (Fa : Fld Z h0 o0 cn_2 "value" "[B" .null) (Fb : Fld Z h0 o0 cn_2 "coder" "B" (.int 0)) :
    own_Met l y_4 jdk_42_method_151_code 3 none ws rr_ini Z #[(.ref o0), (.ref o1), (.int 0)] h0 (Q_ini Z w_0 w_1 w_2 w_3 o0 o1 h0 n0) := by
  refine MetFree.of_bodySF (plainFor_of_name pn_0) hisR ?_
  intro p e s m args below meth c s₁ Bd hml0 hP hK
  obtain ⟨rfl, hZ, hh⟩ := hP
  have hx := Bd.exec
  have hby := Bd.bytes
  have B := @hb _ _ hby
  have hml : c.maxLocals = 3 := hml0
  have hown : s.vm.findClass cn_2 = some m.cls := findClass_of_methodNamed Bd.named
  have hnm := (name_of_methodNamed Bd.named Bd.method).1
  have X0 : Stand p l e rr_ini s m #[(.ref o0), (.ref o1), (.int 0)] below meth c s₁ [] 0 0 := Stand.of_body Bd
  have e0 : s₁.heap = h0 := by rw [← hh, Bd.state]; rfl
  have N0 := Fr.nil n0
  have K0 : Keep h0 h0 [o0] := Keep.refl _ _
  obtain ⟨G, step, ret, fin⟩ := own_openX X0 (rr_ini.cells) (rr_ini.slots) (Q_ini Z w_0 w_1 w_2 w_3 o0 o1 h0 n0) Bd.notSynchronized
  refine fin (g := entryFrame m #[(.ref o0), (.ref o1), (.int 0)] 3) ?_
  rw [ef_ini m o0 o1]
  refine step (fun _ => XS.aloadN X0.here hx rfl (B d4_0) rfl rfl) ?_
  obtain ⟨T1, X1, e1, st1⟩ := initO X0 hx hZ hown (ww19 hw) (ww20 hw) (ww21 hw) e0 (g := (mkF m 1 #[vR o0, vR o1, vI 0] [(.ref o0)])) rfl (by rw [hml]; rfl) rfl (B d4_1) (by decide) (W := 0) (by show 2 * 0 + _ ≤ _; exact Nat.le_of_eq rfl) (by decide)
  refine step st1 ?_
  refine step (fun _ => XS.aloadN X1.here hx rfl (B d4_4) rfl rfl) ?_
  refine step (fun _ => XS.aloadN X1.here hx rfl (B d4_5) rfl rfl) ?_
  obtain ⟨T2, h2, X2, e2, W2, st2⟩ := putF X1 hx hZ hown (host := "") (Or.inl (ww22 hw)) Via.refl e1 Fa Ex (Or.inr ⟨(ww23 hw), rfl, hnm⟩) (ww10 hw) (ty := (.array .byte)) (by decide) rfl rfl (g := (mkF m 6 #[vR o0, vR o1, vI 0] [(.ref o1), (.ref o0)])) rfl rfl (B d4_6)
  have F2 : Fld Z h2 o0 cn_2 "value" "[B" (.ref o1) := Fld.same W2 Fa
  have N2 := Fr.snoc X2 N0 geo
  obtain ⟨lc2, X2, N2⟩ := own_gen X2 N2
  have K2 : Keep h0 h2 [o0] := K0.wr W2 (Or.inl (List.mem_of_getElem? (i := 0) rfl))
  refine step st2 ?_
  refine step (fun _ => XS.aloadN X2.here hx rfl (B d4_9) rfl rfl) ?_
  refine step (fun _ => XS.iloadN X2.here hx rfl (B d4_10) rfl) ?_
  have f4 := (Fld.other W2 Fb (Or.inr (slot_ne (Or.inr (ww25 hw)) (Or.inr (ww23 hw)) (by decide) (t := .byte) (t' := (.array .byte)) (by decide) (by decide))))
  have f5 := (Exa.wr W2 Ex)
  obtain ⟨T3, h3, X3, e3, W3, st3⟩ := putFN X2 hx hZ hown (ww24 hw) Via.refl e2 f4 f5 (Or.inr ⟨(ww25 hw), rfl, hnm⟩) (ww10 hw) (ty := .byte) (v' := (.int (nar .byte (0 : Int32)))) (by decide) rfl (fits_nar_byte _) (g := (mkF m 11 #[vR o0, vR o1, vI 0] [(.int 0), (.ref o0)])) rfl rfl (B d4_11)
  have F3 : Fld Z h3 o0 cn_2 "coder" "B" (.int 0) := Fld.same W3 f4
  have N3 := Fr.snoc X3 N2 geo
  obtain ⟨lc3, X3, N3⟩ := own_gen X3 N3
  have K3 : Keep h0 h3 [o0] := K2.wr W3 (Or.inl (List.mem_of_getElem? (i := 0) rfl))
  refine step st3 ?_
  have f6 := (Exa.wr W3 f5)
  have f7 := (Fld.other W3 F2 (Or.inr (slot_ne (Or.inr (ww23 hw)) (Or.inr (ww25 hw)) (by decide) (t := (.array .byte)) (t' := .byte) (by decide) (by decide))))
  exact ret (v := none) X3 (fun _ => rfl) (fun fs hr => X3.returnOut hx Bd.returns (B d4_14) hr) e3 ⟨rfl, N3, K3, f6, f7, F3⟩ (by decide) (by decide)
theorem own_ok1 {c : Int32} (h : ¬ c < 0 ∧ ¬ (255 : Int32) < c) : own_ok (1 : Int32) [c] := ⟨rfl, List.forall_mem_cons.mpr ⟨h, fun _ q => nomatch q⟩, by show 1 ≤ 34; decide⟩
theorem d5_0 : decode qc5 0 = .ok (.getstatic 38, 3) := by decide +kernel
theorem d5_3 : decode qc5 3 = .ok (.ifCond .eq 23, 3) := by decide +kernel
theorem d5_6 : decode qc5 6 = .ok (.iload_n 0, 1) := by decide +kernel
theorem d5_7 : decode qc5 7 = .ok (.invokestatic 1015, 3) := by decide +kernel
theorem ww5 (hw : HW Z a0) : Cond.before (Cond.methodLink cn_2 1015 ({ cls := cn_10, name := "canEncode", desc := "(C)Z" } : MethodName)) a0 Z = true := own_w hw 5 rfl
theorem ww8 (hw : HW Z a0) : Cond.before (Cond.code ({ cls := cn_10, name := "canEncode", desc := "(C)Z" } : MethodName) jdk_43_method_3_code 1 (Option.some FieldType.boolean)) a0 Z = true := own_w hw 8 rfl
theorem ww7 (hw : HW Z a0) : Cond.before (Cond.initialized cn_10) a0 Z = true := own_w hw 7 rfl
theorem pd_1 : parseMethodDescriptor "(C)Z" = some ⟨[.char], some .boolean⟩ := by decide +kernel
theorem ww6 (hw : HW Z a0) : Cond.before (Cond.static ({ cls := cn_10, name := "canEncode", desc := "(C)Z" } : MethodName)) a0 Z = true := own_w hw 6 rfl
theorem d5_10 : decode qc5 10 = .ok (.ifCond .eq 16, 3) := by decide +kernel
theorem d5_13 : decode qc5 13 = .ok (.new 10, 3) := by decide +kernel
theorem ww9 (hw : HW Z a0) : Cond.before (Cond.classLink cn_2 10 cn_2) a0 Z = true := own_w hw 9 rfl
theorem d5_16 : decode qc5 16 = .ok (.dup, 1) := by decide +kernel
theorem d5_17 : decode qc5 17 = .ok (.iload_n 0, 1) := by decide +kernel
theorem d5_18 : decode qc5 18 = .ok (.invokestatic 1018, 3) := by decide +kernel
theorem ww11 (hw : HW Z a0) : Cond.before (Cond.methodLink cn_2 1018 ({ cls := cn_10, name := "toBytes", desc := "(C)[B" } : MethodName)) a0 Z = true := own_w hw 11 rfl
theorem ww13 (hw : HW Z a0) : Cond.before (Cond.code ({ cls := cn_10, name := "toBytes", desc := "(C)[B" } : MethodName) jdk_43_method_46_code 1 (Option.some (FieldType.array FieldType.byte))) a0 Z = true := own_w hw 13 rfl
theorem pd_2 : parseMethodDescriptor "(C)[B" = some ⟨[.char], some (.array .byte)⟩ := by decide +kernel
theorem ww12 (hw : HW Z a0) : Cond.before (Cond.static ({ cls := cn_10, name := "toBytes", desc := "(C)[B" } : MethodName)) a0 Z = true := own_w hw 12 rfl
theorem d5_21 : decode qc5 21 = .ok (.iconst 0, 1) := by decide +kernel
theorem d5_22 : decode qc5 22 = .ok (.invokespecial 209, 3) := by decide +kernel
theorem ww15 (hw : HW Z a0) : Cond.before (Cond.methodLink cn_2 209 ({ cls := cn_2, name := "<init>", desc := "([BB)V" } : MethodName)) a0 Z = true := own_w hw 15 rfl
theorem ww18 (hw : HW Z a0) : Cond.before (Cond.code ({ cls := cn_2, name := "<init>", desc := "([BB)V" } : MethodName) jdk_42_method_151_code 3 (Option.none : Option Jvm.ClassFile.FieldType)) a0 Z = true := own_w hw 18 rfl
theorem pd_3 : parseMethodDescriptor "([BB)V" = some ⟨[(.array .byte), .byte], none⟩ := by decide +kernel
theorem ww16 (hw : HW Z a0) : Cond.before (Cond.instanceMethod ({ cls := cn_2, name := "<init>", desc := "([BB)V" } : MethodName)) a0 Z = true := own_w hw 16 rfl
theorem d5_25 : decode qc5 25 = .ok (.areturn, 1) := by decide +kernel
abbrev rr_val : Room := { frames := 2, cells := 2, slots := 5, locals := 27 }
abbrev y_5 : MethodName := ⟨cn_2, "valueOf", cn_31⟩
theorem ef_val (m : MethodId) (p0 : Int32) : entryFrame m #[(.int p0)] 1 = mkF m 0 #[vI p0] [] := by first | (simp [entryFrame, mkF, argsToLocals, Value.category]; done) | rfl
def Q_val (Z : State) (w_0 w_1 : Addr) (w_2 : Int32) (w_3 : Value) (p0 : Int32) (h0 : Heap) (n0 : Nat) (v : Option Value) (h : Heap) (L : List Loc) : Prop := ∃ b : Addr, ∃ t : Addr, ∃ kb : ClassId, v = some (.ref b) ∧ Fr n0 L ∧ Keep h0 h [] ∧ h0.size ≤ b ∧ h0.size ≤ t ∧ Exa Z h b cn_2 ∧ Fld Z h b cn_2 "value" "[B" (.ref t) ∧ Fld Z h b cn_2 "coder" "B" (.int 0) ∧ Arv Z h t kb .byte (1 : Int32) (own_by [p0]) (.int 0)
theorem rm_val (l : Launch) (Z : State) (a0 : Array Value) (hw : HW Z a0) (ws : List Jvm.Cond) (w_0 w_1 : Addr) (w_2 : Int32) (w_3 : Value) (p0 : Int32) (h0 : Heap) (n0 : Nat) (Z0 : n0 ≤ h0.size) (ST : own_St Z w_0 w_1 w_2 w_3) (O0 : Old Z n0 h0) (hl : ¬ p0 < 0 ∧ ¬ (255 : Int32) < p0) :
    own_Met l y_5 jdk_42_method_139_code 1 (some (.object cn_2)) ws rr_val Z #[(.int p0)] h0 (Q_val Z w_0 w_1 w_2 w_3 p0 h0 n0) := by
  refine MetFree.of_bodySF (plainFor_of_name pn_0) hisR ?_
  intro p e s m args below meth c s₁ Bd hml0 hP hK
  obtain ⟨rfl, hZ, hh⟩ := hP
  have hx := Bd.exec
  have hby := Bd.bytes
  have B := @hb _ _ hby
  have hml : c.maxLocals = 1 := hml0
  have hown : s.vm.findClass cn_2 = some m.cls := findClass_of_methodNamed Bd.named
  have X0 : Stand p l e rr_val s m #[(.int p0)] below meth c s₁ [] 0 0 := Stand.of_body Bd
  have e0 : s₁.heap = h0 := by rw [← hh, Bd.state]; rfl
  have N0 := Fr.nil n0
  have K0 : Keep h0 h0 [] := Keep.refl _ _
  obtain ⟨G, step, ret, fin⟩ := own_openX X0 (rr_val.cells) (rr_val.slots) (Q_val Z w_0 w_1 w_2 w_3 p0 h0 n0) Bd.notSynchronized
  refine fin (g := entryFrame m #[(.int p0)] 1) ?_
  rw [ef_val m p0]
  obtain ⟨T1, X1, e1, st1⟩ := getS2 X0 hx hZ hown (host := "") (Or.inl (ww4 hw)) Via.refl e0 (Sta.ext O0.2 ST.k4) (g := (mkF m 0 #[vI p0] [])) rfl (B d5_0)
  refine step st1 ?_
  refine step (fun _ => XS.ifNo X1.here hx rfl (B d5_3) rfl ((if0 _ _).trans (feq ST.k7).1)) ?_
  refine step (fun _ => XS.iloadN X1.here hx rfl (B d5_6) rfl) ?_
  have hK2 := (backOf (R := rr_val) (p := p) (e := e) (below := below) (s := s) (args := #[(.int p0)]) (len := 3) (W := 0) (rm_can l Z a0 hw [] w_0 w_1 w_2 w_3 p0 h0 n0 (own_old_le O0) ST O0 hl) hZ (ww8 hw) (ww7 hw) (by decide) (by decide))
  obtain ⟨_, _, ⟨T2, L2, k2, n2⟩, -, X2, ⟨Lc2, hQ2, l2, y2, z2⟩, st2⟩ := Jvm.LawKit.callS X1 hx (y := y_2) hown (mvT hZ (ww5 hw)) (mvT hZ (ww6 hw)) (mvT hZ (ww7 hw)) (mvT hZ (ww8 hw)) (by decide) hK2 (g := (mkF m 7 #[vI p0] [(.int p0)])) rfl (by rw [hml]; rfl) (argsL := [(.int p0)]) (rest := []) (lenOf pd_1 rfl) rfl (by show 2 * 0 + _ ≤ _; exact Nat.le_of_eq rfl) (B d5_7) (fun _ _ => ⟨rfl, e1, (by decide : 0 + 0 ≤ _), (by decide : 0 + 0 ≤ _)⟩)
  dsimp only [Pt.U, Pt.locs, Pt.cells, Pt.slots] at X2 l2 y2 z2 st2 hQ2
  subst l2 y2 z2
  obtain ⟨rfl, N2q, e2⟩ := hQ2
  have N2 := Fr.app N0 N2q
  obtain ⟨lc2, X2, N2⟩ := own_gen X2 N2
  refine step (fun t k => st2 t k) ?_
  have r3 : (f_can w_0 w_1 w_2 w_3 p0) = (1 : Int32) := rfl
  rw [r3]
  refine step (fun _ => XS.ifNo X2.here hx rfl (B d5_10) rfl ((if0 _ _).trans (feq (by decide : ¬ ((1 : Int32) = (0 : Int32)))).1)) ?_
  obtain ⟨T4, h4, X4, e4, E4, A4, D4, -, st4⟩ := newO X2 hx hZ hown (ww9 hw) (ww10 hw) (ww2 hw) e2 (g := (mkF m 13 #[vI p0] [])) rfl (B d5_13) (by decide) (by decide)
  obtain ⟨b4, g4⟩ : ∃ z, z = h0.size := ⟨_, rfl⟩
  rw [← g4] at A4 D4 st4
  have ge_b4 : n0 ≤ b4 := Nat.le_trans (own_old_le O0) (Nat.le_of_eq g4.symm)
  have sz_b4 : h0.size ≤ b4 := Nat.le_trans K0.1 (Nat.le_of_eq g4.symm)
  have O4 := O0.ext E4
  have K4 : Keep h0 h4 [] := K0.ext E4
  have F4_value : Fld Z h4 b4 cn_2 "value" "[B" .null := D4 (Or.inr (ww23 hw)) (ty := (.array .byte)) (by decide)
  have F4_coder : Fld Z h4 b4 cn_2 "coder" "B" (.int 0) := D4 (Or.inr (ww25 hw)) (ty := .byte) (by decide)
  refine step st4 ?_
  refine step (fun _ => XS.dup X4.here hx rfl (B d5_16) rfl rfl) ?_
  refine step (fun _ => XS.iloadN X4.here hx rfl (B d5_17) rfl) ?_
  have hK5 := (backOf (R := rr_val) (p := p) (e := e) (below := below) (s := s) (args := #[(.int p0)]) (len := 3) (W := 2) (rm_tob l Z a0 hw [] w_0 w_1 w_2 w_3 p0 h4 n0 (own_old_le O4) ST O4) hZ (ww13 hw) (ww7 hw) (by decide) (by decide))
  obtain ⟨_, _, ⟨T5, L5, k5, n5⟩, -, X5, ⟨Lc5, hQ5, l5, y5, z5⟩, st5⟩ := Jvm.LawKit.callS X4 hx (y := y_3) hown (mvT hZ (ww11 hw)) (mvT hZ (ww12 hw)) (mvT hZ (ww7 hw)) (mvT hZ (ww13 hw)) (by decide) hK5 (g := (mkF m 18 #[vI p0] [(.int p0), (.ref b4), (.ref b4)])) rfl (by rw [hml]; rfl) (argsL := [(.int p0)]) (rest := [(.ref b4), (.ref b4)]) (lenOf pd_2 rfl) rfl (by show 2 * 0 + _ ≤ _; exact Nat.le_of_eq rfl) (B d5_18) (fun _ _ => ⟨rfl, e4, (by decide : 1 + 1 ≤ _), (by decide : 4 + 1 ≤ _)⟩)
  dsimp only [Pt.U, Pt.locs, Pt.cells, Pt.slots] at X5 l5 y5 z5 st5 hQ5
  subst l5 y5 z5
  obtain ⟨b5, kb_5, rfl, N5q, K5q, Y5_0, Y5_1⟩ := hQ5
  have N5 := Fr.app N2 N5q
  obtain ⟨lc5, X5, N5⟩ := own_gen X5 N5
  have O5 := O4.keep K5q all0
  have K5 : Keep h0 T5.heap [] := K4.trans K5q all0
  have sz_b5 : h0.size ≤ b5 := Nat.le_trans K4.1 Y5_0
  have lt_b4_b5 : b4 < b5 := Nat.lt_of_lt_of_le A4.lt Y5_0
  refine step (fun t k => st5 t k) ?_
  refine step (fun _ => XS.iconst X5.here hx rfl (B d5_21)) ?_
  have f7 := (Exa.keep A4 K5q)
  have f8 := (Fld.keep F4_value K5q nin0)
  have f9 := (Fld.keep F4_coder K5q nin0)
  have hK6 := (backOf (R := rr_val) (p := p) (e := e) (below := below) (s := s) (args := #[(.int p0)]) (len := 3) (W := 1) (rm_ini l Z a0 hw [] w_0 w_1 w_2 w_3 b4 b5 T5.heap n0 (own_old_le O5) ST O5 f7 ge_b4 f8 f9) hZ (ww18 hw) (ww2 hw) (by decide) (by decide))
  obtain ⟨_, _, ⟨T6, L6, k6, n6⟩, -, X6, ⟨Lc6, hQ6, l6, y6, z6⟩, st6⟩ := X5.specialBack hx (y := y_4) rfl hown (mvT hZ (ww15 hw)) (mvT hZ (ww16 hw)) (mvT hZ (ww18 hw)) (by decide) hK6 (g := (mkF m 22 #[vI p0] [(.int 0), (.ref b5), (.ref b4), (.ref b4)])) rfl (by rw [hml]; rfl) (Steps.refl _) (a := b4) (argsL := [(.ref b5), (.int 0)]) (rest := [(.ref b4)]) (lenOf pd_3 rfl) rfl (by show 2 * 0 + _ ≤ _; exact Nat.le_of_eq rfl) (B d5_22) (fun _ _ => ⟨rfl, rfl, (by decide : 2 + 0 ≤ _), (by decide : 5 + 0 ≤ _)⟩)
  dsimp only [Pt.U, Pt.locs, Pt.cells, Pt.slots] at X6 l6 y6 z6 st6 hQ6
  subst l6 y6 z6
  obtain ⟨rfl, N6q, K6q, Y6_0, Y6_1, Y6_2⟩ := hQ6
  have N6 := Fr.app N5 N6q
  obtain ⟨lc6, X6, N6⟩ := own_gen X6 N6
  have K6 : Keep h0 T6.heap [] := K5.trans K6q (allS (Or.inr sz_b4) all0)
  refine step (fun t k => st6.trans k) ?_
  have f10 := (Arv.keep Y5_1 K6q (ninS (Nat.ne_of_gt lt_b4_b5) nin0))
  exact ret (v := some (.ref b4)) X6 (fun h => by rw [Bd.returns] at h; cases h) (fun fs hr => retA X6 hx Bd.returns rfl rfl (B d5_25) hr) rfl ⟨b4, b5, kb_5, rfl, N6, K6, sz_b4, sz_b5, Y6_0, Y6_1, Y6_2, f10⟩ (by decide) (by decide)
theorem d6_0 : decode qc6 0 = .ok (.getstatic 38, 3) := by decide +kernel
theorem d6_3 : decode qc6 3 = .ok (.ifCond .eq 14, 3) := by decide +kernel
theorem d6_6 : decode qc6 6 = .ok (.aload_n 0, 1) := by decide +kernel
theorem d6_7 : decode qc6 7 = .ok (.getfield 15, 3) := by decide +kernel
theorem d6_10 : decode qc6 10 = .ok (.ifCond .ne 7, 3) := by decide +kernel
theorem d6_13 : decode qc6 13 = .ok (.iconst 1, 1) := by decide +kernel
theorem d6_14 : decode qc6 14 = .ok (.goto 4, 3) := by decide +kernel
theorem d6_18 : decode qc6 18 = .ok (.ireturn, 1) := by decide +kernel
abbrev rr_la : Room := { frames := 0, cells := 0, slots := 0, locals := 0 }
abbrev y_6 : MethodName := ⟨cn_2, "isLatin1", "()Z"⟩
theorem ef_la (m : MethodId) (o0 : Addr) : entryFrame m #[(.ref o0)] 1 = mkF m 0 #[vR o0] [] := by first | (simp [entryFrame, mkF, argsToLocals, Value.category]; done) | rfl
def f_la (w_0 w_1 : Addr) (w_2 : Int32) (w_3 : Value) (o0 : Addr) : Int32 := (1 : Int32)
def Q_la (Z : State) (w_0 w_1 : Addr) (w_2 : Int32) (w_3 : Value) (o0 : Addr) (h0 : Heap) (n0 : Nat) (v : Option Value) (h : Heap) (L : List Loc) : Prop := v = some (.int (f_la w_0 w_1 w_2 w_3 o0)) ∧ Fr n0 L ∧ h = h0
theorem rm_la (l : Launch) (Z : State) (a0 : Array Value) (hw : HW Z a0) (ws : List Jvm.Cond) (w_0 w_1 : Addr) (w_2 : Int32) (w_3 : Value) (o0 : Addr) (h0 : Heap) (n0 : Nat) (Z0 : n0 ≤ h0.size) (ST : own_St Z w_0 w_1 w_2 w_3) (O0 : Old Z n0 h0) (Fc : Fld Z h0 o0 cn_2 "coder" "B" (.int 0)) :
    own_Met l y_6 jdk_42_method_154_code 1 (some .boolean) ws rr_la Z #[(.ref o0)] h0 (Q_la Z w_0 w_1 w_2 w_3 o0 h0 n0) := by
  refine MetFree.of_bodySF (plainFor_of_name pn_0) hisR ?_
  intro p e s m args below meth c s₁ Bd hml0 hP hK
  obtain ⟨rfl, hZ, hh⟩ := hP
  have hx := Bd.exec
  have hby := Bd.bytes
  have B := @hb _ _ hby
  have hml : c.maxLocals = 1 := hml0
  have hown : s.vm.findClass cn_2 = some m.cls := findClass_of_methodNamed Bd.named
  have X0 : Stand p l e rr_la s m #[(.ref o0)] below meth c s₁ [] 0 0 := Stand.of_body Bd
  have e0 : s₁.heap = h0 := by rw [← hh, Bd.state]; rfl
  have N0 := Fr.nil n0
  obtain ⟨G, step, ret, fin⟩ := own_openX X0 (rr_la.cells) (rr_la.slots) (Q_la Z w_0 w_1 w_2 w_3 o0 h0 n0) Bd.notSynchronized
  refine fin (g := entryFrame m #[(.ref o0)] 1) ?_
  rw [ef_la m o0]
  obtain ⟨T1, X1, e1, st1⟩ := getS2 X0 hx hZ hown (host := "") (Or.inl (ww4 hw)) Via.refl e0 (Sta.ext O0.2 ST.k4) (g := (mkF m 0 #[vR o0] [])) rfl (B d6_0)
  refine step st1 ?_
  refine step (fun _ => XS.ifNo X1.here hx rfl (B d6_3) rfl ((if0 _ _).trans (feq ST.k7).1)) ?_
  refine step (fun _ => XS.aloadN X1.here hx rfl (B d6_6) rfl rfl) ?_
  obtain ⟨T2, X2, e2, st2⟩ := getF X1 hx hZ hown (host := "") (Or.inl (ww24 hw)) Via.refl e1 Fc (g := (mkF m 7 #[vR o0] [(.ref o0)])) rfl rfl (B d6_7)
  refine step st2 ?_
  refine step (fun _ => XS.ifNo X2.here hx rfl (B d6_10) rfl ((if0 _ _).trans (teq (by decide : (0 : Int32) = (0 : Int32))).2)) ?_
  refine step (fun _ => XS.iconst X2.here hx rfl (B d6_13)) ?_
  refine step (fun _ => XS.goto X2.here hx rfl (pc0 := 14) (pc' := 18) rfl (B d6_14) (by decide) (by decide)) ?_
  exact ret (v := some (.int 1)) X2 (fun h => by rw [Bd.returns] at h; cases h) (fun fs hr => retN X2 hx (t := .boolean) Bd.returns (by simp) (B d6_18) hr) e2 ⟨rfl, N0, rfl⟩ (by decide) (by decide)
theorem d7_0 : decode qc7 0 = .ok (.iload_n 0, 1) := by decide +kernel
theorem d7_1 : decode qc7 1 = .ok (.ifCond .lt 8, 3) := by decide +kernel
theorem d7_4 : decode qc7 4 = .ok (.iload_n 0, 1) := by decide +kernel
theorem d7_5 : decode qc7 5 = .ok (.iload_n 1, 1) := by decide +kernel
theorem d7_6 : decode qc7 6 = .ok (.if_icmp .lt 10, 3) := by decide +kernel
theorem d7_16 : decode qc7 16 = .ok (.iload_n 0, 1) := by decide +kernel
theorem d7_17 : decode qc7 17 = .ok (.ireturn, 1) := by decide +kernel
abbrev rr_ci : Room := { frames := 0, cells := 0, slots := 0, locals := 0 }
abbrev y_7 : MethodName := ⟨cn_14, "checkIndex", cn_22⟩
theorem pn_2 : plainName cn_14 = true := by first | (simp [plainName, overriddenIn]; done) | decide +kernel
theorem ef_ci (m : MethodId) (p0 p1 : Int32) (w_3 : Value) (hw_SIOOBE_FORMATTER : w_3.isRef = true) : entryFrame m #[(.int p0), (.int p1), w_3] 3 = mkF m 0 #[vI p0, vI p1, .val w_3] [] := by
  rcases ref_cases hw_SIOOBE_FORMATTER with rfl | ⟨_, rfl⟩ <;> first | (simp [entryFrame, mkF, argsToLocals, Value.category]; done) | rfl
def f_ci (w_0 w_1 : Addr) (w_2 : Int32) (w_3 : Value) (p0 p1 : Int32) : Int32 := p0
def Q_ci (Z : State) (w_0 w_1 : Addr) (w_2 : Int32) (w_3 : Value) (p0 p1 : Int32) (h0 : Heap) (n0 : Nat) (v : Option Value) (h : Heap) (L : List Loc) : Prop := v = some (.int (f_ci w_0 w_1 w_2 w_3 p0 p1)) ∧ Fr n0 L ∧ h = h0
theorem rm_ci (l : Launch) (Z : State) (a0 : Array Value) (hw : HW Z a0) (ws : List Jvm.Cond) (w_0 w_1 : Addr) (w_2 : Int32) (w_3 : Value) (p0 p1 : Int32) (h0 : Heap) (n0 : Nat) (Z0 : n0 ≤ h0.size) (ST : own_St Z w_0 w_1 w_2 w_3) (O0 : Old Z n0 h0) (h1 : ¬ (p0 < (0 : Int32))) (h2 : p0 < p1) :
    own_Met l y_7 jdk_41_method_11_code 3 (some .int) ws rr_ci Z #[(.int p0), (.int p1), w_3] h0 (Q_ci Z w_0 w_1 w_2 w_3 p0 p1 h0 n0) := by
  refine MetFree.of_bodySF (plainFor_of_name pn_2) hisR ?_
  intro p e s m args below meth c s₁ Bd hml0 hP hK
  obtain ⟨rfl, hZ, hh⟩ := hP
  have hx := Bd.exec
  have hby := Bd.bytes
  have B := @hb _ _ hby
  have hml : c.maxLocals = 3 := hml0
  have hown : s.vm.findClass cn_14 = some m.cls := findClass_of_methodNamed Bd.named
  have X0 : Stand p l e rr_ci s m #[(.int p0), (.int p1), w_3] below meth c s₁ [] 0 0 := Stand.of_body Bd
  have e0 : s₁.heap = h0 := by rw [← hh, Bd.state]; rfl
  have N0 := Fr.nil n0
  obtain ⟨G, step, ret, fin⟩ := own_openX X0 (rr_ci.cells) (rr_ci.slots) (Q_ci Z w_0 w_1 w_2 w_3 p0 p1 h0 n0) Bd.notSynchronized
  refine fin (g := entryFrame m #[(.int p0), (.int p1), w_3] 3) ?_
  rw [ef_ci m p0 p1 w_3 ST.k6]
  refine step (fun _ => XS.iloadN X0.here hx rfl (B d7_0) rfl) ?_
  refine step (fun _ => XS.ifNo X0.here hx rfl (B d7_1) rfl ((if0 _ _).trans (flt h1).1)) ?_
  refine step (fun _ => XS.iloadN X0.here hx rfl (B d7_4) rfl) ?_
  refine step (fun _ => XS.iloadN X0.here hx rfl (B d7_5) rfl) ?_
  refine step (fun _ => XS.icmpYes X0.here hx rfl (pc0 := 6) (pc' := 16) rfl (B d7_6) rfl (tlt h2).1 (by decide) (by decide)) ?_
  refine step (fun _ => XS.iloadN X0.here hx rfl (B d7_16) rfl) ?_
  show G s₁ (mkF m 17 #[vI p0, vI p1, .val w_3] [(.int p0)])
  exact ret (v := some (.int p0)) X0 (fun h => by rw [Bd.returns] at h; cases h) (fun fs hr => retI X0 hx Bd.returns (B d7_17) hr) e0 ⟨rfl, N0, rfl⟩ (by decide) (by decide)
theorem d8_0 : decode qc8 0 = .ok (.iload_n 0, 1) := by decide +kernel
theorem d8_1 : decode qc8 1 = .ok (.iload_n 1, 1) := by decide +kernel
theorem d8_2 : decode qc8 2 = .ok (.getstatic 1053, 3) := by decide +kernel
theorem ww210 (hw : HW Z a0) : Cond.before (Cond.fieldLink cn_2 1053 cn_14 "SIOOBE_FORMATTER" "Ljava/util/function/BiFunction;") a0 Z = true := own_w hw 210 rfl
theorem d8_5 : decode qc8 5 = .ok (.invokestatic 1059, 3) := by decide +kernel
theorem ww212 (hw : HW Z a0) : Cond.before (Cond.methodLink cn_2 1059 ({ cls := cn_14, name := "checkIndex", desc := cn_22 } : MethodName)) a0 Z = true := own_w hw 212 rfl
theorem ww214 (hw : HW Z a0) : Cond.before (Cond.code ({ cls := cn_14, name := "checkIndex", desc := cn_22 } : MethodName) jdk_41_method_11_code 3 (Option.some FieldType.int)) a0 Z = true := own_w hw 214 rfl
theorem ww211 (hw : HW Z a0) : Cond.before (Cond.initialized cn_14) a0 Z = true := own_w hw 211 rfl
theorem pd_4 : parseMethodDescriptor cn_22 = some ⟨[.int, .int, (.object "java/util/function/BiFunction")], some .int⟩ := by decide +kernel
theorem ww213 (hw : HW Z a0) : Cond.before (Cond.static ({ cls := cn_14, name := "checkIndex", desc := cn_22 } : MethodName)) a0 Z = true := own_w hw 213 rfl
theorem d8_8 : decode qc8 8 = .ok (.pop, 1) := by decide +kernel
theorem d8_9 : decode qc8 9 = .ok (.return_, 1) := by decide +kernel
abbrev rr_cs : Room := { frames := 1, cells := 0, slots := 0, locals := 14 }
abbrev y_8 : MethodName := ⟨cn_2, "checkIndex", "(II)V"⟩
theorem ef_cs (m : MethodId) (p0 p1 : Int32) : entryFrame m #[(.int p0), (.int p1)] 2 = mkF m 0 #[vI p0, vI p1] [] := by first | (simp [entryFrame, mkF, argsToLocals, Value.category]; done) | rfl
def Q_cs (Z : State) (w_0 w_1 : Addr) (w_2 : Int32) (w_3 : Value) (p0 p1 : Int32) (h0 : Heap) (n0 : Nat) (v : Option Value) (h : Heap) (L : List Loc) : Prop := v = none ∧ Fr n0 L ∧ h = h0
theorem rm_cs (l : Launch) (Z : State) (a0 : Array Value) (hw : HW Z a0) (ws : List Jvm.Cond) (w_0 w_1 : Addr) (w_2 : Int32) (w_3 : Value) (p0 p1 : Int32) (h0 : Heap) (n0 : Nat) (Z0 : n0 ≤ h0.size) (ST : own_St Z w_0 w_1 w_2 w_3) (O0 : Old Z n0 h0) (h1 : ¬ (p0 < (0 : Int32))) (h2 : p0 < p1) :
    own_Met l y_8 jdk_42_method_155_code 2 none ws rr_cs Z #[(.int p0), (.int p1)] h0 (Q_cs Z w_0 w_1 w_2 w_3 p0 p1 h0 n0) := by
  refine MetFree.of_bodySF (plainFor_of_name pn_0) hisR ?_
  intro p e s m args below meth c s₁ Bd hml0 hP hK
  obtain ⟨rfl, hZ, hh⟩ := hP
  have hx := Bd.exec
  have hby := Bd.bytes
  have B := @hb _ _ hby
  have hml : c.maxLocals = 2 := hml0
  have hown : s.vm.findClass cn_2 = some m.cls := findClass_of_methodNamed Bd.named
  have X0 : Stand p l e rr_cs s m #[(.int p0), (.int p1)] below meth c s₁ [] 0 0 := Stand.of_body Bd
  have e0 : s₁.heap = h0 := by rw [← hh, Bd.state]; rfl
  have N0 := Fr.nil n0
  obtain ⟨G, step, ret, fin⟩ := own_openX X0 (rr_cs.cells) (rr_cs.slots) (Q_cs Z w_0 w_1 w_2 w_3 p0 p1 h0 n0) Bd.notSynchronized
  refine fin (g := entryFrame m #[(.int p0), (.int p1)] 2) ?_
  rw [ef_cs m p0 p1]
  refine step (fun _ => XS.iloadN X0.here hx rfl (B d8_0) rfl) ?_
  refine step (fun _ => XS.iloadN X0.here hx rfl (B d8_1) rfl) ?_
  obtain ⟨T1, X1, e1, st1⟩ := getS2 X0 hx hZ hown (host := "") (Or.inl (ww210 hw)) Via.refl e0 (Sta.ext O0.2 ST.k5) (g := (mkF m 2 #[vI p0, vI p1] [(.int p1), (.int p0)])) rfl (B d8_2)
  refine step st1 ?_
  have hK2 := (backOf (R := rr_cs) (p := p) (e := e) (below := below) (s := s) (args := #[(.int p0), (.int p1)]) (len := 3) (W := 0) (rm_ci l Z a0 hw [] w_0 w_1 w_2 w_3 p0 p1 h0 n0 (own_old_le O0) ST O0 (h1 : ¬ (p0 < (0 : Int32))) (h2 : p0 < p1)) hZ (ww214 hw) (ww211 hw) (by decide) (by decide))
  obtain ⟨_, _, ⟨T2, L2, k2, n2⟩, -, X2, ⟨Lc2, hQ2, l2, y2, z2⟩, st2⟩ := Jvm.LawKit.callS X1 hx (y := y_7) hown (mvT hZ (ww212 hw)) (mvT hZ (ww213 hw)) (mvT hZ (ww211 hw)) (mvT hZ (ww214 hw)) (by decide) hK2 (g := (mkF m 5 #[vI p0, vI p1] [w_3, (.int p1), (.int p0)])) rfl (by rw [hml]; rfl) (argsL := [(.int p0), (.int p1), w_3]) (rest := []) (lenOf pd_4 rfl) rfl (by show 2 * 0 + _ ≤ _; exact Nat.le_of_eq rfl) (B d8_5) (fun _ _ => ⟨rfl, e1, (by decide : 0 + 0 ≤ _), (by decide : 0 + 0 ≤ _)⟩)
  dsimp only [Pt.U, Pt.locs, Pt.cells, Pt.slots] at X2 l2 y2 z2 st2 hQ2
  subst l2 y2 z2
  obtain ⟨rfl, N2q, e2⟩ := hQ2
  have N2 := Fr.app N0 N2q
  obtain ⟨lc2, X2, N2⟩ := own_gen X2 N2
  refine step (fun t k => st2 t k) ?_
  have r3 : (f_ci w_0 w_1 w_2 w_3 p0 p1) = p0 := rfl
  rw [r3]
  refine step (fun _ => XS.pop X2.here hx rfl (B d8_8) rfl rfl) ?_
  exact ret (v := none) X2 (fun _ => rfl) (fun fs hr => X2.returnOut hx Bd.returns (B d8_9) hr) e2 ⟨rfl, N2, rfl⟩ (by decide) (by decide)
theorem d9_0 : decode qc9 0 = .ok (.iload_n 1, 1) := by decide +kernel
theorem d9_1 : decode qc9 1 = .ok (.aload_n 0, 1) := by decide +kernel
theorem d9_2 : decode qc9 2 = .ok (.arraylength, 1) := by decide +kernel
theorem d9_3 : decode qc9 3 = .ok (.invokestatic 9, 3) := by decide +kernel
theorem ww207 (hw : HW Z a0) : Cond.before (Cond.methodLink cn_10 9 ({ cls := cn_2, name := "checkIndex", desc := "(II)V" } : MethodName)) a0 Z = true := own_w hw 207 rfl
theorem ww209 (hw : HW Z a0) : Cond.before (Cond.code ({ cls := cn_2, name := "checkIndex", desc := "(II)V" } : MethodName) jdk_42_method_155_code 2 (Option.none : Option Jvm.ClassFile.FieldType)) a0 Z = true := own_w hw 209 rfl
theorem pd_5 : parseMethodDescriptor "(II)V" = some ⟨[.int, .int], none⟩ := by decide +kernel
theorem ww208 (hw : HW Z a0) : Cond.before (Cond.static ({ cls := cn_2, name := "checkIndex", desc := "(II)V" } : MethodName)) a0 Z = true := own_w hw 208 rfl
theorem d9_6 : decode qc9 6 = .ok (.aload_n 0, 1) := by decide +kernel
theorem d9_7 : decode qc9 7 = .ok (.iload_n 1, 1) := by decide +kernel
theorem d9_8 : decode qc9 8 = .ok (.baload, 1) := by decide +kernel
theorem d9_9 : decode qc9 9 = .ok (.sipush 255, 3) := by decide +kernel
theorem d9_12 : decode qc9 12 = .ok (.iand, 1) := by decide +kernel
theorem d9_13 : decode qc9 13 = .ok (.i2c, 1) := by decide +kernel
theorem d9_14 : decode qc9 14 = .ok (.ireturn, 1) := by decide +kernel
abbrev rr_l1 : Room := { frames := 2, cells := 0, slots := 0, locals := 27 }
abbrev y_9 : MethodName := ⟨cn_10, "charAt", "([BI)C"⟩
theorem ef_l1 (m : MethodId) (o0 : Addr) (p1 : Int32) : entryFrame m #[(.ref o0), (.int p1)] 2 = mkF m 0 #[vR o0, vI p1] [] := by first | (simp [entryFrame, mkF, argsToLocals, Value.category]; done) | rfl
def f_l1 (w_0 w_1 : Addr) (w_2 : Int32) (w_3 : Value) (o0 : Addr) (p1 : Int32) (kk : ClassId) (n : Int32) (ds : List Int32) : Int32 := (ds.getD p1.toNatClampNeg 0)
def Q_l1 (Z : State) (w_0 w_1 : Addr) (w_2 : Int32) (w_3 : Value) (o0 : Addr) (p1 : Int32) (kk : ClassId) (n : Int32) (ds : List Int32) (h0 : Heap) (n0 : Nat) (v : Option Value) (h : Heap) (L : List Loc) : Prop := v = some (.int (f_l1 w_0 w_1 w_2 w_3 o0 p1 kk n ds)) ∧ Fr n0 L ∧ h = h0
theorem rm_l1 (l : Launch) (Z : State) (a0 : Array Value) (hw : HW Z a0) (ws : List Jvm.Cond) (w_0 w_1 : Addr) (w_2 : Int32) (w_3 : Value) (o0 : Addr) (p1 : Int32) (kk : ClassId) (n : Int32) (ds : List Int32) (h0 : Heap) (n0 : Nat) (Z0 : n0 ≤ h0.size) (ST : own_St Z w_0 w_1 w_2 w_3) (O0 : Old Z n0 h0) (Va : Arv Z h0 o0 kk .byte n (own_by ds) (.int 0)) (hok : own_ok n ds) (h1 : ¬ (p1 < (0 : Int32))) (h2 : p1 < n) :
    own_Met l y_9 jdk_43_method_2_code 2 (some .char) ws rr_l1 Z #[(.ref o0), (.int p1)] h0 (Q_l1 Z w_0 w_1 w_2 w_3 o0 p1 kk n ds h0 n0) := by
  refine MetFree.of_bodySF (plainFor_of_name pn_1) hisR ?_
  intro p e s m args below meth c s₁ Bd hml0 hP hK
  obtain ⟨rfl, hZ, hh⟩ := hP
  have hx := Bd.exec
  have hby := Bd.bytes
  have B := @hb _ _ hby
  have hml : c.maxLocals = 2 := hml0
  have hown : s.vm.findClass cn_10 = some m.cls := findClass_of_methodNamed Bd.named
  have X0 : Stand p l e rr_l1 s m #[(.ref o0), (.int p1)] below meth c s₁ [] 0 0 := Stand.of_body Bd
  have e0 : s₁.heap = h0 := by rw [← hh, Bd.state]; rfl
  have N0 := Fr.nil n0
  obtain ⟨G, step, ret, fin⟩ := own_openX X0 (rr_l1.cells) (rr_l1.slots) (Q_l1 Z w_0 w_1 w_2 w_3 o0 p1 kk n ds h0 n0) Bd.notSynchronized
  refine fin (g := entryFrame m #[(.ref o0), (.int p1)] 2) ?_
  rw [ef_l1 m o0 p1]
  refine step (fun _ => XS.iloadN X0.here hx rfl (B d9_0) rfl) ?_
  refine step (fun _ => XS.aloadN X0.here hx rfl (B d9_1) rfl rfl) ?_
  have q1 := own_len X0 hx hZ e0 Va (g := (mkF m 2 #[vR o0, vI p1] [(.ref o0), (.int p1)])) rfl rfl (B d9_2)
  refine step q1 ?_
  have hK2 := (backOf (R := rr_l1) (p := p) (e := e) (below := below) (s := s) (args := #[(.ref o0), (.int p1)]) (len := 3) (W := 0) (rm_cs l Z a0 hw [] w_0 w_1 w_2 w_3 p1 n h0 n0 (own_old_le O0) ST O0 (h1 : ¬ (p1 < (0 : Int32))) (h2 : p1 < n)) hZ (ww209 hw) (ww2 hw) (by decide) (by decide))
  obtain ⟨_, _, ⟨T2, L2, k2, n2⟩, -, X2, ⟨Lc2, hQ2, l2, y2, z2⟩, st2⟩ := Jvm.LawKit.callS X0 hx (y := y_8) hown (mvT hZ (ww207 hw)) (mvT hZ (ww208 hw)) (mvT hZ (ww2 hw)) (mvT hZ (ww209 hw)) (by decide) hK2 (g := (mkF m 3 #[vR o0, vI p1] [(.int n), (.int p1)])) rfl (by rw [hml]; rfl) (argsL := [(.int p1), (.int n)]) (rest := []) (lenOf pd_5 rfl) rfl (by show 2 * 0 + _ ≤ _; exact Nat.le_of_eq rfl) (B d9_3) (fun _ _ => ⟨rfl, e0, (by decide : 0 + 0 ≤ _), (by decide : 0 + 0 ≤ _)⟩)
  dsimp only [Pt.U, Pt.locs, Pt.cells, Pt.slots] at X2 l2 y2 z2 st2 hQ2
  subst l2 y2 z2
  obtain ⟨rfl, N2q, e2⟩ := hQ2
  have N2 := Fr.app N0 N2q
  obtain ⟨lc2, X2, N2⟩ := own_gen X2 N2
  refine step (fun t k => st2 t k) ?_
  refine step (fun _ => XS.aloadN X2.here hx rfl (B d9_6) rfl rfl) ?_
  refine step (fun _ => XS.iloadN X2.here hx rfl (B d9_7) rfl) ?_
  have q3 := own_ldB X2 hx hZ e2 Va (j := p1) (v := (.int (own_lo (ds.getD p1.toNatClampNeg 0)))) ⟨h1, h2⟩ (own_gb hok h1 h2) (g := (mkF m 8 #[vR o0, vI p1] [(.int p1), (.ref o0)])) rfl rfl (B d9_8)
  refine step q3 ?_
  refine step (fun _ => XS.sipush X2.here hx rfl (B d9_9)) ?_
  refine step (fun _ => XS.iand X2.here hx rfl (B d9_12) rfl) ?_
  show G T2 (mkF m 13 #[vR o0, vI p1] [(.int ((own_lo (ds.getD p1.toNatClampNeg 0)) &&& (255 : Int32)))])
  rw [own_lo255 (own_lg hok h1 h2)]
  refine step (fun _ => XS.i2c X2.here hx rfl (B d9_13) rfl) ?_
  show G T2 (mkF m 14 #[vR o0, vI p1] [(.int ((ds.getD p1.toNatClampNeg 0).toUInt32.toUInt16.toUInt32.toInt32))])
  rw [own_i2c (own_lg hok h1 h2)]
  exact ret (v := some (.int (ds.getD p1.toNatClampNeg 0))) X2 (fun h => by rw [Bd.returns] at h; cases h) (fun fs hr => retN X2 hx (t := .char) Bd.returns (by simp) (B d9_14) (by rw [own_narc (own_lg hok h1 h2)]; exact hr)) e2 ⟨rfl, N2, rfl⟩ (by decide) (by decide)
theorem d10_0 : decode qc10 0 = .ok (.aload_n 0, 1) := by decide +kernel
theorem d10_1 : decode qc10 1 = .ok (.invokevirtual 492, 3) := by decide +kernel
theorem ww199 (hw : HW Z a0) : Cond.before (Cond.methodLink cn_2 492 ({ cls := cn_2, name := "isLatin1", desc := "()Z" } : MethodName)) a0 Z = true := own_w hw 199 rfl
theorem ww202 (hw : HW Z a0) : Cond.before (Cond.selects cn_2 ({ cls := cn_2, name := "isLatin1", desc := "()Z" } : MethodName) ({ cls := cn_2, name := "isLatin1", desc := "()Z" } : MethodName)) a0 Z = true := own_w hw 202 rfl
theorem ww203 (hw : HW Z a0) : Cond.before (Cond.code ({ cls := cn_2, name := "isLatin1", desc := "()Z" } : MethodName) jdk_42_method_154_code 1 (Option.some FieldType.boolean)) a0 Z = true := own_w hw 203 rfl
theorem pd_6 : parseMethodDescriptor "()Z" = some ⟨[], some .boolean⟩ := by decide +kernel
theorem ww200 (hw : HW Z a0) : Cond.before (Cond.declares ({ cls := cn_2, name := "isLatin1", desc := "()Z" } : MethodName)) a0 Z = true := own_w hw 200 rfl
theorem ww201 (hw : HW Z a0) : Cond.before (Cond.instanceMethod ({ cls := cn_2, name := "isLatin1", desc := "()Z" } : MethodName)) a0 Z = true := own_w hw 201 rfl
theorem d10_4 : decode qc10 4 = .ok (.ifCond .eq 12, 3) := by decide +kernel
theorem d10_7 : decode qc10 7 = .ok (.aload_n 0, 1) := by decide +kernel
theorem d10_8 : decode qc10 8 = .ok (.getfield 9, 3) := by decide +kernel
theorem d10_11 : decode qc10 11 = .ok (.iload_n 1, 1) := by decide +kernel
theorem d10_12 : decode qc10 12 = .ok (.invokestatic 495, 3) := by decide +kernel
theorem ww204 (hw : HW Z a0) : Cond.before (Cond.methodLink cn_2 495 ({ cls := cn_10, name := "charAt", desc := "([BI)C" } : MethodName)) a0 Z = true := own_w hw 204 rfl
theorem ww206 (hw : HW Z a0) : Cond.before (Cond.code ({ cls := cn_10, name := "charAt", desc := "([BI)C" } : MethodName) jdk_43_method_2_code 2 (Option.some FieldType.char)) a0 Z = true := own_w hw 206 rfl
theorem pd_7 : parseMethodDescriptor "([BI)C" = some ⟨[(.array .byte), .int], some .char⟩ := by decide +kernel
theorem ww205 (hw : HW Z a0) : Cond.before (Cond.static ({ cls := cn_10, name := "charAt", desc := "([BI)C" } : MethodName)) a0 Z = true := own_w hw 205 rfl
theorem d10_15 : decode qc10 15 = .ok (.ireturn, 1) := by decide +kernel
abbrev rr_ch : Room := { frames := 3, cells := 0, slots := 0, locals := 40 }
abbrev y_10 : MethodName := ⟨cn_2, "charAt", "(I)C"⟩
theorem ef_ch (m : MethodId) (o0 : Addr) (p1 : Int32) : entryFrame m #[(.ref o0), (.int p1)] 2 = mkF m 0 #[vR o0, vI p1] [] := by first | (simp [entryFrame, mkF, argsToLocals, Value.category]; done) | rfl
def f_ch (w_0 w_1 : Addr) (w_2 : Int32) (w_3 : Value) (o0 : Addr) (p1 : Int32) (t : Addr) (kk : ClassId) (n : Int32) (ds : List Int32) : Int32 := (ds.getD p1.toNatClampNeg 0)
def Q_ch (Z : State) (w_0 w_1 : Addr) (w_2 : Int32) (w_3 : Value) (o0 : Addr) (p1 : Int32) (t : Addr) (kk : ClassId) (n : Int32) (ds : List Int32) (h0 : Heap) (n0 : Nat) (v : Option Value) (h : Heap) (L : List Loc) : Prop := v = some (.int (f_ch w_0 w_1 w_2 w_3 o0 p1 t kk n ds)) ∧ Fr n0 L ∧ h = h0
theorem rm_ch (l : Launch) (Z : State) (a0 : Array Value) (hw : HW Z a0) (ws : List Jvm.Cond) (w_0 w_1 : Addr) (w_2 : Int32) (w_3 : Value) (o0 : Addr) (p1 : Int32) (t : Addr) (kk : ClassId) (n : Int32) (ds : List Int32) (h0 : Heap) (n0 : Nat) (Z0 : n0 ≤ h0.size) (ST : own_St Z w_0 w_1 w_2 w_3) (O0 : Old Z n0 h0) (Es : Exa Z h0 o0 cn_2) (Fv : Fld Z h0 o0 cn_2 "value" "[B" (.ref t)) (Fc : Fld Z h0 o0 cn_2 "coder" "B" (.int 0)) (Va : Arv Z h0 t kk .byte n (own_by ds) (.int 0)) (hok : own_ok n ds) (h1 : ¬ (p1 < (0 : Int32))) (h2 : p1 < n) :
    own_Met l y_10 jdk_42_method_56_code 2 (some .char) ws rr_ch Z #[(.ref o0), (.int p1)] h0 (Q_ch Z w_0 w_1 w_2 w_3 o0 p1 t kk n ds h0 n0) := by
  refine MetFree.of_bodySF (plainFor_of_name pn_0) hisR ?_
  intro p e s m args below meth c s₁ Bd hml0 hP hK
  obtain ⟨rfl, hZ, hh⟩ := hP
  have hx := Bd.exec
  have hby := Bd.bytes
  have B := @hb _ _ hby
  have hml : c.maxLocals = 2 := hml0
  have hown : s.vm.findClass cn_2 = some m.cls := findClass_of_methodNamed Bd.named
  have X0 : Stand p l e rr_ch s m #[(.ref o0), (.int p1)] below meth c s₁ [] 0 0 := Stand.of_body Bd
  have e0 : s₁.heap = h0 := by rw [← hh, Bd.state]; rfl
  have N0 := Fr.nil n0
  obtain ⟨G, step, ret, fin⟩ := own_openX X0 (rr_ch.cells) (rr_ch.slots) (Q_ch Z w_0 w_1 w_2 w_3 o0 p1 t kk n ds h0 n0) Bd.notSynchronized
  refine fin (g := entryFrame m #[(.ref o0), (.int p1)] 2) ?_
  rw [ef_ch m o0 p1]
  refine step (fun _ => XS.aloadN X0.here hx rfl (B d10_0) rfl rfl) ?_
  have hK1 := (backOf (R := rr_ch) (p := p) (e := e) (below := below) (s := s) (args := #[(.ref o0), (.int p1)]) (len := 3) (W := 0) (rm_la l Z a0 hw [] w_0 w_1 w_2 w_3 o0 h0 n0 (own_old_le O0) ST O0 Fc) hZ (ww203 hw) (ww2 hw) (by decide) (by decide))
  obtain ⟨cq1, kq1, q1a, q1b, q1c⟩ := isOf hZ e0 Es
  obtain ⟨_, _, ⟨T1, L1, k1, n1⟩, -, X1, ⟨Lc1, hQ1, l1, y1, z1⟩, st1⟩ := X0.virtualBack hx (y := y_6) (z := y_6) hown (mvT hZ (ww199 hw)) (mvT hZ (ww200 hw)) (notFace_of_selects (args := #[]) (mvT hZ (ww202 hw))) (mvT hZ (ww202 hw)) (mvT hZ (ww201 hw)) (by decide) hK1 q1a q1c (g := (mkF m 1 #[vR o0, vI p1] [(.ref o0)])) rfl (by rw [hml]; rfl) (Steps.refl _) (argsL := []) (rest := []) (lenOf pd_6 rfl) rfl (by show 2 * 0 + _ ≤ _; exact Nat.le_of_eq rfl) (B d10_1) (fun _ _ => ⟨rfl, e0, (by decide : 0 + 0 ≤ _), (by decide : 0 + 0 ≤ _)⟩)
  dsimp only [Pt.U, Pt.locs, Pt.cells, Pt.slots] at X1 l1 y1 z1 st1 hQ1
  subst l1 y1 z1
  obtain ⟨rfl, N1q, e1⟩ := hQ1
  have N1 := Fr.app N0 N1q
  obtain ⟨lc1, X1, N1⟩ := own_gen X1 N1
  refine step (fun t k => st1.trans k) ?_
  have r2 : (f_la w_0 w_1 w_2 w_3 o0) = (1 : Int32) := rfl
  rw [r2]
  refine step (fun _ => XS.ifNo X1.here hx rfl (B d10_4) rfl ((if0 _ _).trans (feq (by decide : ¬ ((1 : Int32) = (0 : Int32)))).1)) ?_
  refine step (fun _ => XS.aloadN X1.here hx rfl (B d10_7) rfl rfl) ?_
  obtain ⟨T3, X3, e3, st3⟩ := getF X1 hx hZ hown (host := "") (Or.inl (ww22 hw)) Via.refl e1 Fv (g := (mkF m 8 #[vR o0, vI p1] [(.ref o0)])) rfl rfl (B d10_8)
  refine step st3 ?_
  refine step (fun _ => XS.iloadN X3.here hx rfl (B d10_11) rfl) ?_
  have hK4 := (backOf (R := rr_ch) (p := p) (e := e) (below := below) (s := s) (args := #[(.ref o0), (.int p1)]) (len := 3) (W := 0) (rm_l1 l Z a0 hw [] w_0 w_1 w_2 w_3 t p1 kk n ds h0 n0 (own_old_le O0) ST O0 Va hok (h1 : ¬ (p1 < (0 : Int32))) (h2 : p1 < n)) hZ (ww206 hw) (ww7 hw) (by decide) (by decide))
  obtain ⟨_, _, ⟨T4, L4, k4, n4⟩, -, X4, ⟨Lc4, hQ4, l4, y4, z4⟩, st4⟩ := Jvm.LawKit.callS X3 hx (y := y_9) hown (mvT hZ (ww204 hw)) (mvT hZ (ww205 hw)) (mvT hZ (ww7 hw)) (mvT hZ (ww206 hw)) (by decide) hK4 (g := (mkF m 12 #[vR o0, vI p1] [(.int p1), (.ref t)])) rfl (by rw [hml]; rfl) (argsL := [(.ref t), (.int p1)]) (rest := []) (lenOf pd_7 rfl) rfl (by show 2 * 0 + _ ≤ _; exact Nat.le_of_eq rfl) (B d10_12) (fun _ _ => ⟨rfl, e3, (by decide : 0 + 0 ≤ _), (by decide : 0 + 0 ≤ _)⟩)
  dsimp only [Pt.U, Pt.locs, Pt.cells, Pt.slots] at X4 l4 y4 z4 st4 hQ4
  subst l4 y4 z4
  obtain ⟨rfl, N4q, e4⟩ := hQ4
  have N4 := Fr.app N1 N4q
  obtain ⟨lc4, X4, N4⟩ := own_gen X4 N4
  refine step (fun t k => st4 t k) ?_
  have r5 : (f_l1 w_0 w_1 w_2 w_3 t p1 kk n ds) = (ds.getD p1.toNatClampNeg 0) := rfl
  rw [r5]
  exact ret (v := some (.int (ds.getD p1.toNatClampNeg 0))) X4 (fun h => by rw [Bd.returns] at h; cases h) (fun fs hr => retN X4 hx (t := .char) Bd.returns (by simp) (B d10_15) (by rw [own_narc (own_lg hok h1 h2)]; exact hr)) e4 ⟨rfl, N4, rfl⟩ (by decide) (by decide)
theorem d11_0 : decode qc11 0 = .ok (.aload_n 0, 1) := by decide +kernel
theorem d11_1 : decode qc11 1 = .ok (.invokespecial 3, 3) := by decide +kernel
theorem ww88 (hw : HW Z a0) : Cond.before (Cond.methodLink cn_0 3 ({ cls := cn_15, name := "<init>", desc := "()V" } : MethodName)) a0 Z = true := own_w hw 88 rfl
theorem d11_4 : decode qc11 4 = .ok (.getstatic 18, 3) := by decide +kernel
theorem ww89 (hw : HW Z a0) : Cond.before (Cond.fieldLink cn_0 18 cn_2 "COMPACT_STRINGS" "Z") a0 Z = true := own_w hw 89 rfl
theorem d11_7 : decode qc11 7 = .ok (.ifCond .eq 18, 3) := by decide +kernel
theorem d11_10 : decode qc11 10 = .ok (.aload_n 0, 1) := by decide +kernel
theorem d11_11 : decode qc11 11 = .ok (.iload_n 1, 1) := by decide +kernel
theorem d11_12 : decode qc11 12 = .ok (.newarray .byte, 2) := by decide +kernel
theorem d11_14 : decode qc11 14 = .ok (.putfield 15, 3) := by decide +kernel
theorem ww90 (hw : HW Z a0) : Cond.before (Cond.fieldLink cn_0 15 cn_0 "value" "[B") a0 Z = true := own_w hw 90 rfl
theorem ww91 (hw : HW Z a0) : Cond.before (Cond.lays cn_4 cn_0 "value" "[B") a0 Z = true := own_w hw 91 rfl
theorem ww77 (hw : HW Z a0) : Cond.before (Cond.instantiable cn_4 4) a0 Z = true := own_w hw 77 rfl
theorem d11_17 : decode qc11 17 = .ok (.aload_n 0, 1) := by decide +kernel
theorem d11_18 : decode qc11 18 = .ok (.iconst 0, 1) := by decide +kernel
theorem d11_19 : decode qc11 19 = .ok (.putfield 22, 3) := by decide +kernel
theorem ww92 (hw : HW Z a0) : Cond.before (Cond.fieldLink cn_0 22 cn_0 "coder" "B") a0 Z = true := own_w hw 92 rfl
theorem ww93 (hw : HW Z a0) : Cond.before (Cond.lays cn_4 cn_0 "coder" "B") a0 Z = true := own_w hw 93 rfl
theorem d11_22 : decode qc11 22 = .ok (.goto 16, 3) := by decide +kernel
theorem d11_38 : decode qc11 38 = .ok (.return_, 1) := by decide +kernel
theorem ww115 (hw : HW Z a0) : Cond.before (Cond.lays cn_4 cn_0 "count" "I") a0 Z = true := own_w hw 115 rfl
abbrev rr_ai : Room := { frames := 1, cells := 1, slots := 16, locals := 12 }
abbrev y_11 : MethodName := ⟨cn_0, "<init>", "(I)V"⟩
theorem pn_3 : plainName cn_0 = true := by first | (simp [plainName, overriddenIn]; done) | decide +kernel
theorem ef_ai (m : MethodId) (o0 : Addr) : entryFrame m #[(.ref o0), (.int 16)] 2 = mkF m 0 #[vR o0, vI 16] [] := by first | (simp [entryFrame, mkF, argsToLocals, Value.category]; done) | rfl
def Q_ai (Z : State) (w_0 w_1 : Addr) (w_2 : Int32) (w_3 : Value) (o0 : Addr) (h0 : Heap) (n0 : Nat) (v : Option Value) (h : Heap) (L : List Loc) : Prop := ∃ a : Addr, ∃ ka : ClassId, v = none ∧ Fr n0 L ∧ Keep h0 h [o0] ∧ h0.size ≤ a ∧ Exa Z h o0 cn_4 ∧ Fld Z h o0 cn_0 "value" "[B" (.ref a) ∧ Fld Z h o0 cn_0 "coder" "B" (.int 0) ∧ Fld Z h o0 cn_0 "count" "I" (.int 0) ∧ Exa Z h a "[B" ∧ Arv Z h a ka .byte (16 : Int32) [(.int 0), (.int 0), (.int 0), (.int 0), (.int 0), (.int 0), (.int 0), (.int 0), (.int 0), (.int 0), (.int 0), (.int 0), (.int 0), (.int 0), (.int 0), (.int 0)] (.int 0)
theorem rm_ai (l : Launch) (Z : State) (a0 : Array Value) (hw : HW Z a0) (ws : List Jvm.Cond) (w_0 w_1 : Addr) (w_2 : Int32) (w_3 : Value) (o0 : Addr) (h0 : Heap) (n0 : Nat) (Z0 : n0 ≤ h0.size) (ST : own_St Z w_0 w_1 w_2 w_3) (O0 : Old Z n0 h0) (Ex : Exa Z h0 o0 cn_4) (geo : n0 ≤ o0) (Fa : Fld Z h0 o0 cn_0 "value" "[B" .null) (Fb : Fld Z h0 o0 cn_0 "coder" "B" (.int 0)) (Fn : Fld Z h0 o0 cn_0 "count" "I" (.int 0)) :
    own_Met l y_11 jdk_68_method_2_code 2 none ws rr_ai Z #[(.ref o0), (.int 16)] h0 (Q_ai Z w_0 w_1 w_2 w_3 o0 h0 n0) := by
  refine MetFree.of_bodySF (plainFor_of_name pn_3) hisR ?_
  intro p e s m args below meth c s₁ Bd hml0 hP hK
  obtain ⟨rfl, hZ, hh⟩ := hP
  have hx := Bd.exec
  have hby := Bd.bytes
  have B := @hb _ _ hby
  have hml : c.maxLocals = 2 := hml0
  have hown : s.vm.findClass cn_0 = some m.cls := findClass_of_methodNamed Bd.named
  have X0 : Stand p l e rr_ai s m #[(.ref o0), (.int 16)] below meth c s₁ [] 0 0 := Stand.of_body Bd
  have e0 : s₁.heap = h0 := by rw [← hh, Bd.state]; rfl
  have N0 := Fr.nil n0
  have K0 : Keep h0 h0 [o0] := Keep.refl _ _
  obtain ⟨G, step, ret, fin⟩ := own_openX X0 (rr_ai.cells) (rr_ai.slots) (Q_ai Z w_0 w_1 w_2 w_3 o0 h0 n0) Bd.notSynchronized
  refine fin (g := entryFrame m #[(.ref o0), (.int 16)] 2) ?_
  rw [ef_ai m o0]
  refine step (fun _ => XS.aloadN X0.here hx rfl (B d11_0) rfl rfl) ?_
  obtain ⟨T1, X1, e1, st1⟩ := initO X0 hx hZ hown (ww88 hw) (ww20 hw) (ww21 hw) e0 (g := (mkF m 1 #[vR o0, vI 16] [(.ref o0)])) rfl (by rw [hml]; rfl) rfl (B d11_1) (by decide) (W := 0) (by show 2 * 0 + _ ≤ _; exact Nat.le_of_eq rfl) (by decide)
  refine step st1 ?_
  obtain ⟨T2, X2, e2, st2⟩ := getS2 X1 hx hZ hown (host := "") (Or.inl (ww89 hw)) Via.refl e1 (Sta.ext O0.2 ST.k4) (g := (mkF m 4 #[vR o0, vI 16] [])) rfl (B d11_4)
  refine step st2 ?_
  refine step (fun _ => XS.ifNo X2.here hx rfl (B d11_7) rfl ((if0 _ _).trans (feq ST.k7).1)) ?_
  refine step (fun _ => XS.aloadN X2.here hx rfl (B d11_10) rfl rfl) ?_
  refine step (fun _ => XS.iloadN X2.here hx rfl (B d11_11) rfl) ?_
  obtain ⟨T3, h3, k3, X3, e3, E3, A3, B3, st3⟩ := newPE (aty := .byte) X2 hx hZ (ww14 hw) e2 (g := (mkF m 12 #[vR o0, vI 16] [(.int 16), (.ref o0)])) rfl (B d11_12) rfl (by decide) (cap := 16) (by decide) (by decide) (by decide) (by decide) (ad := "[B") (by decide)
  obtain ⟨b3, g3⟩ : ∃ z, z = h0.size := ⟨_, rfl⟩
  rw [← g3] at A3 B3 st3
  have V3 : Arv Z h3 b3 k3 .byte (16 : Int32) [(.int 0), (.int 0), (.int 0), (.int 0), (.int 0), (.int 0), (.int 0), (.int 0), (.int 0), (.int 0), (.int 0), (.int 0), (.int 0), (.int 0), (.int 0), (.int 0)] (.int 0) := (Arv.new A3 (by decide)).pad (pad_rep [] (.int 0) 16)
  have sz_b3 : h0.size ≤ b3 := Nat.le_trans K0.1 (Nat.le_of_eq g3.symm)
  have lt_o0_b3 : o0 < b3 := Nat.lt_of_lt_of_le Ex.lt (Nat.le_of_eq g3.symm)
  have K3 : Keep h0 h3 [o0] := K0.ext E3
  refine step st3 ?_
  have f5 := (Fld.ext E3 Fa)
  have f6 := (Exa.ext E3 Ex)
  obtain ⟨T4, h4, X4, e4, W4, st4⟩ := putF X3 hx hZ hown (host := "") (Or.inl (ww90 hw)) Via.refl e3 f5 f6 (Or.inl (ww91 hw)) (ww77 hw) (ty := (.array .byte)) (by decide) rfl rfl (g := (mkF m 14 #[vR o0, vI 16] [(.ref b3), (.ref o0)])) rfl rfl (B d11_14)
  have F4 : Fld Z h4 o0 cn_0 "value" "[B" (.ref b3) := Fld.same W4 f5
  have N4 := Fr.snoc X4 N0 geo
  obtain ⟨lc4, X4, N4⟩ := own_gen X4 N4
  have K4 : Keep h0 h4 [o0] := K3.wr W4 (Or.inl (List.mem_of_getElem? (i := 0) rfl))
  refine step st4 ?_
  refine step (fun _ => XS.aloadN X4.here hx rfl (B d11_17) rfl rfl) ?_
  refine step (fun _ => XS.iconst X4.here hx rfl (B d11_18)) ?_
  have f8 := (Fld.other W4 (Fld.ext E3 Fb) (Or.inr (slot_ne (Or.inl (ww93 hw)) (Or.inl (ww91 hw)) (by decide) (t := .byte) (t' := (.array .byte)) (by decide) (by decide))))
  have f9 := (Exa.wr W4 f6)
  obtain ⟨T7, h7, X7, e7, W7, st7⟩ := putFN X4 hx hZ hown (ww92 hw) Via.refl e4 f8 f9 (Or.inl (ww93 hw)) (ww77 hw) (ty := .byte) (v' := (.int (nar .byte (0 : Int32)))) (by decide) rfl (fits_nar_byte _) (g := (mkF m 19 #[vR o0, vI 16] [(.int 0), (.ref o0)])) rfl rfl (B d11_19)
  have F7 : Fld Z h7 o0 cn_0 "coder" "B" (.int 0) := Fld.same W7 f8
  have N7 := Fr.snoc X7 N4 geo
  obtain ⟨lc7, X7, N7⟩ := own_gen X7 N7
  have K7 : Keep h0 h7 [o0] := K4.wr W7 (Or.inl (List.mem_of_getElem? (i := 0) rfl))
  refine step st7 ?_
  refine step (fun _ => XS.goto X7.here hx rfl (pc0 := 22) (pc' := 38) rfl (B d11_22) (by decide) (by decide)) ?_
  have f10 := (Exa.wr W7 f9)
  have f11 := (Fld.other W7 F4 (Or.inr (slot_ne (Or.inl (ww91 hw)) (Or.inl (ww93 hw)) (by decide) (t := (.array .byte)) (t' := .byte) (by decide) (by decide))))
  have f12 := (Fld.other W7 (Fld.other W4 (Fld.ext E3 Fn) (Or.inr (slot_ne (Or.inl (ww115 hw)) (Or.inl (ww91 hw)) (by decide) (t := .int) (t' := (.array .byte)) (by decide) (by decide)))) (Or.inr (slot_ne (Or.inl (ww115 hw)) (Or.inl (ww93 hw)) (by decide) (t := .int) (t' := .byte) (by decide) (by decide))))
  have f13 := (Exa.wr W7 (Exa.wr W4 B3))
  have f14 := (Arv.other (Arv.other V3 W4 (Nat.ne_of_gt lt_o0_b3)) W7 (Nat.ne_of_gt lt_o0_b3))
  exact ret (v := none) X7 (fun _ => rfl) (fun fs hr => X7.returnOut hx Bd.returns (B d11_38) hr) e7 ⟨b3, k3, rfl, N7, K7, sz_b3, f10, f11, F7, f12, f13, f14⟩ (by decide) (by decide)
theorem d12_0 : decode qc12 0 = .ok (.aload_n 0, 1) := by decide +kernel
theorem d12_1 : decode qc12 1 = .ok (.bipush 16, 2) := by decide +kernel
theorem d12_3 : decode qc12 3 = .ok (.invokespecial 1, 3) := by decide +kernel
theorem ww82 (hw : HW Z a0) : Cond.before (Cond.methodLink cn_4 1 ({ cls := cn_0, name := "<init>", desc := "(I)V" } : MethodName)) a0 Z = true := own_w hw 82 rfl
theorem ww87 (hw : HW Z a0) : Cond.before (Cond.code ({ cls := cn_0, name := "<init>", desc := "(I)V" } : MethodName) jdk_68_method_2_code 2 (Option.none : Option Jvm.ClassFile.FieldType)) a0 Z = true := own_w hw 87 rfl
theorem ww86 (hw : HW Z a0) : Cond.before (Cond.initialized cn_0) a0 Z = true := own_w hw 86 rfl
theorem pd_8 : parseMethodDescriptor "(I)V" = some ⟨[.int], none⟩ := by decide +kernel
theorem ww83 (hw : HW Z a0) : Cond.before (Cond.instanceMethod ({ cls := cn_0, name := "<init>", desc := "(I)V" } : MethodName)) a0 Z = true := own_w hw 83 rfl
theorem d12_6 : decode qc12 6 = .ok (.return_, 1) := by decide +kernel
abbrev rr_si : Room := { frames := 2, cells := 1, slots := 16, locals := 25 }
abbrev y_12 : MethodName := ⟨cn_4, "<init>", "()V"⟩
theorem pn_4 : plainName cn_4 = true := by first | (simp [plainName, overriddenIn]; done) | decide +kernel
theorem ef_si (m : MethodId) (o0 : Addr) : entryFrame m #[(.ref o0)] 1 = mkF m 0 #[vR o0] [] := by first | (simp [entryFrame, mkF, argsToLocals, Value.category]; done) | rfl
def Q_si (Z : State) (w_0 w_1 : Addr) (w_2 : Int32) (w_3 : Value) (o0 : Addr) (h0 : Heap) (n0 : Nat) (v : Option Value) (h : Heap) (L : List Loc) : Prop := ∃ a : Addr, ∃ ka : ClassId, v = none ∧ Fr n0 L ∧ Keep h0 h [o0] ∧ h0.size ≤ a ∧ Exa Z h o0 cn_4 ∧ Fld Z h o0 cn_0 "value" "[B" (.ref a) ∧ Fld Z h o0 cn_0 "coder" "B" (.int 0) ∧ Fld Z h o0 cn_0 "count" "I" (.int 0) ∧ Exa Z h a "[B" ∧ Arv Z h a ka .byte (16 : Int32) [(.int 0), (.int 0), (.int 0), (.int 0), (.int 0), (.int 0), (.int 0), (.int 0), (.int 0), (.int 0), (.int 0), (.int 0), (.int 0), (.int 0), (.int 0), (.int 0)] (.int 0)
theorem rm_si (l : Launch) (Z : State) (a0 : Array Value) (hw : HW Z a0) (ws : List Jvm.Cond) (w_0 w_1 : Addr) (w_2 : Int32) (w_3 : Value) (o0 : Addr) (h0 : Heap) (n0 : Nat) (Z0 : n0 ≤ h0.size) (ST : own_St Z w_0 w_1 w_2 w_3) (O0 : Old Z n0 h0) (Ex : Exa Z h0 o0 cn_4) (geo : n0 ≤ o0) (Fa : Fld Z h0 o0 cn_0 "value" "[B" .null) (Fb : Fld Z h0 o0 cn_0 "coder" "B" (.int 0)) (Fn : Fld Z h0 o0 cn_0 "count" "I" (.int 0)) :
    own_Met l y_12 jdk_67_method_1_code 1 none ws rr_si Z #[(.ref o0)] h0 (Q_si Z w_0 w_1 w_2 w_3 o0 h0 n0) := by
  refine MetFree.of_bodySF (plainFor_of_name pn_4) hisR ?_
  intro p e s m args below meth c s₁ Bd hml0 hP hK
  obtain ⟨rfl, hZ, hh⟩ := hP
  have hx := Bd.exec
  have hby := Bd.bytes
  have B := @hb _ _ hby
  have hml : c.maxLocals = 1 := hml0
  have hown : s.vm.findClass cn_4 = some m.cls := findClass_of_methodNamed Bd.named
  have X0 : Stand p l e rr_si s m #[(.ref o0)] below meth c s₁ [] 0 0 := Stand.of_body Bd
  have e0 : s₁.heap = h0 := by rw [← hh, Bd.state]; rfl
  have N0 := Fr.nil n0
  have K0 : Keep h0 h0 [o0] := Keep.refl _ _
  obtain ⟨G, step, ret, fin⟩ := own_openX X0 (rr_si.cells) (rr_si.slots) (Q_si Z w_0 w_1 w_2 w_3 o0 h0 n0) Bd.notSynchronized
  refine fin (g := entryFrame m #[(.ref o0)] 1) ?_
  rw [ef_si m o0]
  refine step (fun _ => XS.aloadN X0.here hx rfl (B d12_0) rfl rfl) ?_
  refine step (fun _ => XS.bipush X0.here hx rfl (B d12_1)) ?_
  show G s₁ (mkF m 3 #[vR o0] [(.int 16), (.ref o0)])
  have hK1 := (backOf (R := rr_si) (p := p) (e := e) (below := below) (s := s) (args := #[(.ref o0)]) (len := 3) (W := 0) (rm_ai l Z a0 hw [] w_0 w_1 w_2 w_3 o0 h0 n0 (own_old_le O0) ST O0 Ex geo Fa Fb Fn) hZ (ww87 hw) (ww86 hw) (by decide) (by decide))
  obtain ⟨_, _, ⟨T1, L1, k1, n1⟩, -, X1, ⟨Lc1, hQ1, l1, y1, z1⟩, st1⟩ := X0.specialBack hx (y := y_11) rfl hown (mvT hZ (ww82 hw)) (mvT hZ (ww83 hw)) (mvT hZ (ww87 hw)) (by decide) hK1 (g := (mkF m 3 #[vR o0] [(.int 16), (.ref o0)])) rfl (by rw [hml]; rfl) (Steps.refl _) (a := o0) (argsL := [(.int 16)]) (rest := []) (lenOf pd_8 rfl) rfl (by show 2 * 0 + _ ≤ _; exact Nat.le_of_eq rfl) (B d12_3) (fun _ _ => ⟨rfl, e0, (by decide : 0 + 1 ≤ _), (by decide : 0 + 16 ≤ _)⟩)
  dsimp only [Pt.U, Pt.locs, Pt.cells, Pt.slots] at X1 l1 y1 z1 st1 hQ1
  subst l1 y1 z1
  obtain ⟨a_1, ka_1, rfl, N1q, K1q, Y1_0, Y1_1, Y1_2, Y1_3, Y1_4, Y1_5, Y1_6⟩ := hQ1
  have N1 := Fr.app N0 N1q
  obtain ⟨lc1, X1, N1⟩ := own_gen X1 N1
  have K1 : Keep h0 T1.heap [o0] := K0.trans K1q (allS (Or.inl (List.mem_of_getElem? (i := 0) rfl)) all0)
  have sz_a_1 : h0.size ≤ a_1 := Nat.le_trans K0.1 Y1_0
  refine step (fun t k => st1.trans k) ?_
  exact ret (v := none) X1 (fun _ => rfl) (fun fs hr => X1.returnOut hx Bd.returns (B d12_6) hr) rfl ⟨a_1, ka_1, rfl, N1, K1, sz_a_1, Y1_1, Y1_2, Y1_3, Y1_4, Y1_5, Y1_6⟩ (by decide) (by decide)
theorem own_ne_exa {Z : State} {h : Heap} {a b : Addr} {C D : String} (E : Exa Z h a C) (F : Exa Z h b D) (hn : C ≠ D) : a ≠ b := by
  rintro rfl
  obtain ⟨c1, k1, e1, e2, -⟩ := E
  obtain ⟨c2, k2, f1, f2, -⟩ := F
  cases e1.symm.trans f1
  obtain ⟨k3, q1, q2⟩ := Vm.findClass_spec e2
  obtain ⟨k4, q3, q4⟩ := Vm.findClass_spec f2
  cases q1.symm.trans q3
  exact hn (q2.symm.trans q4)
theorem own_decl {Z : State} {a0 : Array Value} {y : MethodName} {bytes : ByteArray} {maxL : Nat} {ret : Option FieldType} (wi : (Cond.instanceMethod y).before a0 Z = true) (wc : (Cond.code y bytes maxL ret).before a0 Z = true) : (Cond.declares y).before a0 Z = true := by
  obtain ⟨mk, methM, hnamed, hmethM, hstM, habM⟩ := Cond.instanceMethod_spec wi
  obtain ⟨m2, cM, q1, -, -, -, -, -, -, hsig⟩ := Cond.code_spec hnamed wc
  cases hmethM.symm.trans q1
  simp [Cond.before, Cond.holds, Cond.value, hnamed, hmethM, hstM, hsig]
theorem own_nf {s : State} {args : Array Value} {y y' : MethodName} (nf : NotFace s y') (hd : (Cond.declares y').before args s = true) (hc : y'.cls = y.cls) : NotFace s y := fun r0 h0 => by
  obtain ⟨r1, r, hn, -⟩ := Cond.declares_spec hd
  obtain ⟨kr, hkr, hi⟩ := nf r1 hn
  have e1 := findClass_of_methodNamed h0
  have e2 := findClass_of_methodNamed hn
  rw [hc] at e2
  have e3 : r1.cls = r0.cls := Option.some.inj (e2.symm.trans e1)
  exact ⟨kr, e3 ▸ hkr, hi⟩
theorem own_same {Z : State} {a0 : Array Value} {C : String} {y y' : MethodName} (wd : (Cond.declares y).before a0 Z = true) (ws : (Cond.selects C y' y').before a0 Z = true) (w' : (Cond.declares y').before a0 Z = true) (hc : y'.cls = y.cls) (hy : y.cls ≠ "java/lang/invoke/MethodHandle" ∧ y.cls ≠ "java/lang/invoke/VarHandle") : (Cond.sameMethod y.cls y.cls y.name y.desc).before a0 Z = true := by
  obtain ⟨r0, r, hn, -⟩ := Cond.declares_spec wd
  obtain ⟨kr, hkr, hi⟩ := own_nf (y := y) (notFace_of_selects ws) w' hc r0 hn
  have hf := State.methodFound?_of_named hn hy
  have c1 := findClass_of_methodNamed hn
  have hn' : Z.methodNamed? ⟨y.cls, y.name, y.desc⟩ = some r0 := hn
  simp [Cond.before, Cond.holds, Cond.value, c1, hf, hn', hkr, hi]
theorem own_z16 {Z : State} {h : Heap} {a : Addr} {k : ClassId} (V : Arv Z h a k .byte (16 : Int32) [(.int 0), (.int 0), (.int 0), (.int 0), (.int 0), (.int 0), (.int 0), (.int 0), (.int 0), (.int 0), (.int 0), (.int 0), (.int 0), (.int 0), (.int 0), (.int 0)] (.int 0)) : Arv Z h a k .byte (16 : Int32) (own_by []) (.int 0) := V.pad (fun i => (pad_rep [] (.int 0) 16 i).symm)
theorem own_sb0 : own_sbp (0 : Int32) (16 : Int32) [] := ⟨by decide, fun _ q => (nomatch q), Or.inl rfl, by decide⟩
theorem own_kin {x a : Addr} {P : Prop} {L : List Addr} (h : x = a ∨ P) (m : a ∈ L) : x ∈ L ∨ P := by
  rcases h with rfl | h
  · exact Or.inl m
  · exact Or.inr h
theorem own_nefr {x a a2 : Addr} {N : Nat} (h : x ≠ a) (hl : x < N) (fr : a2 = a ∨ N ≤ a2) : x ≠ a2 := by
  rcases fr with rfl | q
  · exact h
  · exact Nat.ne_of_lt (Nat.lt_of_lt_of_le hl q)
theorem own_sub0 (n : Int32) : n - (0 : Int32) = n := by
  have c1 := c_isub n (0 : Int32)
  have q0 : (0 : Int32).toInt = 0 := by decide
  have r1 := rng32 n
  have r2 := rng32 (n - (0 : Int32))
  rw [own_xeq]
  omega
def own_fit (p q : Int32) (cs ds : List Int32) : Prop := ¬ p < 0 ∧ p.toNatClampNeg = (own_by cs).length ∧ (own_by cs).length + (own_by ds).length ≤ q.toNatClampNeg
theorem own_qi {q : Int32} (h : q = (16 : Int32) ∨ q = (34 : Int32)) : q.toInt = q.toNatClampNeg ∧ (q.toInt = 16 ∨ q.toInt = 34) := by rcases h with rfl | rfl <;> decide
theorem own_ci {c q : Int32} {cs : List Int32} (h : own_sbp c q cs) : c.toInt = cs.length := by
  have z := (own_sbn h).2.2.2.2.2
  rw [h.1]
  exact own_oi (by omega)
theorem own_ni {n : Int32} {ds : List Int32} (h : own_ok n ds) : n.toInt = ds.length := by
  have z := h.2.2
  rw [h.1]
  exact own_oi (by omega)
theorem own_cni {c q n : Int32} {cs ds : List Int32} (h : own_sbp c q cs) (k : own_ok n ds) : (c + n).toInt = cs.length + ds.length := by
  have z1 := (own_sbn h).2.2.2.2.2
  have z2 := k.2.2
  have e1 := own_ci h
  have e2 := own_ni k
  have c1 := c_iadd c n
  have r1 := rng32 (c + n)
  omega
theorem own_nogrow {c q n : Int32} {cs ds : List Int32} (h : own_sbp c q cs) (k : own_ok n ds) (f : cs.length + ds.length ≤ q.toNatClampNeg) : ¬ (0 : Int32) < ((c + n) - q) := by
  have e1 := own_cni h k
  have e2 := own_qi h.2.2.1
  have q0 : (0 : Int32).toInt = 0 := by decide
  have c1 := c_isub (c + n) q
  have r1 := rng32 ((c + n) - q)
  rw [own_xlt]
  omega
theorem own_fitN {c q n : Int32} {cs ds : List Int32} (h : own_sbp c q cs) (k : own_ok n ds) (f : cs.length + ds.length ≤ q.toNatClampNeg) : own_fit c q cs ds := by
  refine ⟨(own_sbn h).1, (own_sbn h).2.1, ?_⟩
  rw [own_bl, own_bl]
  exact f
theorem own_sbN {c q q2 n : Int32} {cs ds : List Int32} (h : own_sbp c q cs) (k : own_ok n ds) (h2 : q2 = (16 : Int32) ∨ q2 = (34 : Int32)) (f : cs.length + ds.length ≤ q2.toNatClampNeg) : own_sbp (c + n) q2 (cs ++ ds) := by
  have e1 := own_cni h k
  have z1 := (own_sbn h).2.2.2.2.2
  have z2 := k.2.2
  refine ⟨?_, fun x hx => (List.mem_append.mp hx).elim (h.2.1 x) (k.2.1 x), h2, by rw [List.length_append]; exact f⟩
  rw [own_xeq, e1, List.length_append, own_oi (by omega)]
  omega
def own_eg (n0 N : Nat) (a a2 : Addr) (q2 x : Int32) : Prop := (n0 ≤ a2 ∧ (a2 = a ∨ N ≤ a2)) ∧ (q2 = (16 : Int32) ∨ q2 = (34 : Int32)) ∧ x.toInt ≤ q2.toInt
theorem own_q16 {c q x : Int32} {cs : List Int32} (h : own_sbp c q cs) (l : ¬ x < 0 ∧ ¬ (33 : Int32) < x) (g : (0 : Int32) < (x - q)) : q = (16 : Int32) := by
  have e2 := own_qi h.2.2.1
  have q0 : (0 : Int32).toInt = 0 := by decide
  have q1 : (33 : Int32).toInt = 33 := by decide
  have q2 : (16 : Int32).toInt = 16 := by decide
  have c1 := c_isub x q
  have r1 := rng32 (x - q)
  rw [own_xlt, own_xlt] at l
  rw [own_xlt] at g
  rw [own_xeq]
  omega
theorem own_ngle {c q x : Int32} {cs : List Int32} (h : own_sbp c q cs) (l : ¬ x < 0 ∧ ¬ (33 : Int32) < x) (g : ¬ (0 : Int32) < (x - q)) : x.toInt ≤ q.toInt := by
  have e2 := own_qi h.2.2.1
  have q0 : (0 : Int32).toInt = 0 := by decide
  have q1 : (33 : Int32).toInt = 33 := by decide
  have c1 := c_isub x q
  have r1 := rng32 (x - q)
  rw [own_xlt, own_xlt] at l
  rw [own_xlt] at g
  omega
theorem own_l18 {x : Int32} (l : ¬ x < 0 ∧ ¬ (33 : Int32) < x) : (x - (16 : Int32)) < (18 : Int32) := by
  have q0 : (0 : Int32).toInt = 0 := by decide
  have q1 : (33 : Int32).toInt = 33 := by decide
  have q2 : (16 : Int32).toInt = 16 := by decide
  have q3 : (18 : Int32).toInt = 18 := by decide
  have c1 := c_isub x (16 : Int32)
  have r1 := rng32 (x - (16 : Int32))
  rw [own_xlt, own_xlt] at l
  rw [own_xlt]
  omega
theorem own_l34 {x : Int32} (l : ¬ x < 0 ∧ ¬ (33 : Int32) < x) : x.toInt ≤ (34 : Int32).toInt := by
  have q1 : (33 : Int32).toInt = 33 := by decide
  have q2 : (34 : Int32).toInt = 34 := by decide
  rw [own_xlt, own_xlt] at l
  omega
theorem own_lim {c q n : Int32} {cs ds : List Int32} (h : own_sbp c q cs) (k : own_ok n ds) (f : cs.length + ds.length ≤ 33) : ¬ (c + n) < 0 ∧ ¬ (33 : Int32) < (c + n) := by
  have e1 := own_cni h k
  have q0 : (0 : Int32).toInt = 0 := by decide
  have q1 : (33 : Int32).toInt = 33 := by decide
  rw [own_xlt, own_xlt]
  omega
theorem own_egf {n0 N : Nat} {a a2 : Addr} {c q q2 n : Int32} {cs ds : List Int32} (h : own_sbp c q cs) (k : own_ok n ds) (g : own_eg n0 N a a2 q2 (c + n)) : cs.length + ds.length ≤ q2.toNatClampNeg := by
  have e1 := own_cni h k
  have e2 := own_qi g.2.1
  have e3 := g.2.2
  omega
theorem own_fitG {n0 N : Nat} {a a2 : Addr} {c q q2 n : Int32} {cs ds : List Int32} (h : own_sbp c q cs) (k : own_ok n ds) (g : own_eg n0 N a a2 q2 (c + n)) : own_fit c q2 cs ds := by
  refine ⟨(own_sbn h).1, (own_sbn h).2.1, ?_⟩
  rw [own_bl, own_bl]
  exact own_egf h k g
theorem d13_0 : decode qc13 0 = .ok (.aload_n 0, 1) := by decide +kernel
theorem d13_1 : decode qc13 1 = .ok (.getfield 15, 3) := by decide +kernel
theorem d13_4 : decode qc13 4 = .ok (.arraylength, 1) := by decide +kernel
theorem d13_5 : decode qc13 5 = .ok (.aload_n 0, 1) := by decide +kernel
theorem d13_6 : decode qc13 6 = .ok (.getfield 22, 3) := by decide +kernel
theorem d13_9 : decode qc13 9 = .ok (.ishr, 1) := by decide +kernel
theorem d13_10 : decode qc13 10 = .ok (.istore_n 2, 1) := by decide +kernel
theorem d13_11 : decode qc13 11 = .ok (.iload_n 1, 1) := by decide +kernel
theorem d13_12 : decode qc13 12 = .ok (.iload_n 2, 1) := by decide +kernel
theorem d13_13 : decode qc13 13 = .ok (.isub, 1) := by decide +kernel
theorem d13_14 : decode qc13 14 = .ok (.ifCond .le 24, 3) := by decide +kernel
theorem d13_38 : decode qc13 38 = .ok (.return_, 1) := by decide +kernel
abbrev rr_ecN : Room := { frames := 0, cells := 0, slots := 0, locals := 0 }
abbrev y_13 : MethodName := ⟨cn_0, "ensureCapacityInternal", "(I)V"⟩
theorem ef_ecN (m : MethodId) (o0 : Addr) (p1 : Int32) : entryFrame m #[(.ref o0), (.int p1)] 3 = mkF m 0 #[vR o0, vI p1, u_] [] := by first | (simp [entryFrame, mkF, argsToLocals, Value.category]; done) | rfl
def Q_ecN (Z : State) (w_0 w_1 : Addr) (w_2 : Int32) (w_3 : Value) (o0 : Addr) (p1 : Int32) (a : Addr) (ka : ClassId) (q cn : Int32) (cs : List Int32) (h0 : Heap) (n0 : Nat) (v : Option Value) (h : Heap) (L : List Loc) : Prop := v = none ∧ Fr n0 L ∧ h = h0
theorem rm_ecN (l : Launch) (Z : State) (a0 : Array Value) (hw : HW Z a0) (ws : List Jvm.Cond) (w_0 w_1 : Addr) (w_2 : Int32) (w_3 : Value) (o0 : Addr) (p1 : Int32) (a : Addr) (ka : ClassId) (q cn : Int32) (cs : List Int32) (h0 : Heap) (n0 : Nat) (Z0 : n0 ≤ h0.size) (ST : own_St Z w_0 w_1 w_2 w_3) (O0 : Old Z n0 h0) (Eb : Exa Z h0 o0 cn_4) (Fbv : Fld Z h0 o0 cn_0 "value" "[B" (.ref a)) (Fbc : Fld Z h0 o0 cn_0 "coder" "B" (.int 0)) (Fbn : Fld Z h0 o0 cn_0 "count" "I" (.int cn)) (Vb : Arv Z h0 a ka .byte q (own_by cs) (.int 0)) (Ea : Exa Z h0 a "[B") (hsb : own_sbp cn q cs) (hn : ¬ ((0 : Int32) < (p1 - q))) :
    own_Met l y_13 jdk_68_method_9_code 3 none ws rr_ecN Z #[(.ref o0), (.int p1)] h0 (Q_ecN Z w_0 w_1 w_2 w_3 o0 p1 a ka q cn cs h0 n0) := by
  refine MetFree.of_bodySF (plainFor_of_name pn_3) hisR ?_
  intro p e s m args below meth c s₁ Bd hml0 hP hK
  obtain ⟨rfl, hZ, hh⟩ := hP
  have hx := Bd.exec
  have hby := Bd.bytes
  have B := @hb _ _ hby
  have hml : c.maxLocals = 3 := hml0
  have hown : s.vm.findClass cn_0 = some m.cls := findClass_of_methodNamed Bd.named
  have X0 : Stand p l e rr_ecN s m #[(.ref o0), (.int p1)] below meth c s₁ [] 0 0 := Stand.of_body Bd
  have e0 : s₁.heap = h0 := by rw [← hh, Bd.state]; rfl
  have N0 := Fr.nil n0
  obtain ⟨G, step, ret, fin⟩ := own_openX X0 (rr_ecN.cells) (rr_ecN.slots) (Q_ecN Z w_0 w_1 w_2 w_3 o0 p1 a ka q cn cs h0 n0) Bd.notSynchronized
  refine fin (g := entryFrame m #[(.ref o0), (.int p1)] 3) ?_
  rw [ef_ecN m o0 p1]
  refine step (fun _ => XS.aloadN X0.here hx rfl (B d13_0) rfl rfl) ?_
  obtain ⟨T1, X1, e1, st1⟩ := getF X0 hx hZ hown (host := "") (Or.inl (ww90 hw)) Via.refl e0 Fbv (g := (mkF m 1 #[vR o0, vI p1, u_] [(.ref o0)])) rfl rfl (B d13_1)
  refine step st1 ?_
  have q2 := own_len X1 hx hZ e1 Vb (g := (mkF m 4 #[vR o0, vI p1, u_] [(.ref a)])) rfl rfl (B d13_4)
  refine step q2 ?_
  refine step (fun _ => XS.aloadN X1.here hx rfl (B d13_5) rfl rfl) ?_
  obtain ⟨T3, X3, e3, st3⟩ := getF X1 hx hZ hown (host := "") (Or.inl (ww92 hw)) Via.refl e1 Fbc (g := (mkF m 6 #[vR o0, vI p1, u_] [(.ref o0), (.int q)])) rfl rfl (B d13_6)
  refine step st3 ?_
  refine step (fun _ => XS.ishr X3.here hx rfl (B d13_9) rfl) ?_
  show G T3 (mkF m 10 #[vR o0, vI p1, u_] [(.int (q >>> ((0 : Int32) &&& 31)))])
  rw [own_shr0]
  refine step (fun _ => XS.istoreN X3.here hx rfl (B d13_10) rfl (l' := #[vR o0, vI p1, vI q]) rfl) ?_
  refine step (fun _ => XS.iloadN X3.here hx rfl (B d13_11) rfl) ?_
  refine step (fun _ => XS.iloadN X3.here hx rfl (B d13_12) rfl) ?_
  refine step (fun _ => XS.isub X3.here hx rfl (B d13_13) rfl) ?_
  refine step (fun _ => XS.ifYes X3.here hx rfl (pc0 := 14) (pc' := 38) rfl (B d13_14) rfl ((if0 _ _).trans (flt hn).2.2.2) (by decide) (by decide)) ?_
  exact ret (v := none) X3 (fun _ => rfl) (fun fs hr => X3.returnOut hx Bd.returns (B d13_38) hr) e3 ⟨rfl, N0, rfl⟩ (by decide) (by decide)
theorem d14_0 : decode qc14 0 = .ok (.iload_n 0, 1) := by decide +kernel
theorem d14_1 : decode qc14 1 = .ok (.iload_n 1, 1) := by decide +kernel
theorem d14_2 : decode qc14 2 = .ok (.if_icmp .lt 7, 3) := by decide +kernel
theorem d14_9 : decode qc14 9 = .ok (.iload_n 1, 1) := by decide +kernel
theorem d14_10 : decode qc14 10 = .ok (.ireturn, 1) := by decide +kernel
theorem d14_5 : decode qc14 5 = .ok (.iload_n 0, 1) := by decide +kernel
theorem d14_6 : decode qc14 6 = .ok (.goto 4, 3) := by decide +kernel
abbrev rr_max : Room := { frames := 0, cells := 0, slots := 0, locals := 0 }
abbrev y_14 : MethodName := ⟨cn_24, "max", "(II)I"⟩
theorem ef_max (m : MethodId) (p0 p1 : Int32) : entryFrame m #[(.int p0), (.int p1)] 2 = mkF m 0 #[vI p0, vI p1] [] := by first | (simp [entryFrame, mkF, argsToLocals, Value.category]; done) | rfl
def f_max  (p0 p1 : Int32) : Int32 := (if p0 < p1 then p1 else p0)
def Q_max (Z : State)  (p0 p1 : Int32) (h0 : Heap) (n0 : Nat) (v : Option Value) (h : Heap) (L : List Loc) : Prop := v = some (.int (f_max p0 p1)) ∧ Fr n0 L ∧ h = h0
theorem rm_max (l : Launch) (Z : State) (a0 : Array Value) (hw : HW Z a0) (ws : List Jvm.Cond)  (p0 p1 : Int32) (h0 : Heap) (n0 : Nat) (Z0 : n0 ≤ h0.size) (O0 : Old Z n0 h0) :
    own_Met l y_14 jdk_29_method_65_code 2 (some .int) ws rr_max Z #[(.int p0), (.int p1)] h0 (Q_max Z p0 p1 h0 n0) := by
  refine MetFree.of_bodySF (Jvm.Free.JP.mathPlain rfl (by decide +kernel)) hisR ?_
  intro p e s m args below meth c s₁ Bd hml0 hP hK
  obtain ⟨rfl, hZ, hh⟩ := hP
  have hx := Bd.exec
  have hby := Bd.bytes
  have B := @hb _ _ hby
  have hml : c.maxLocals = 2 := hml0
  have hown : s.vm.findClass cn_24 = some m.cls := findClass_of_methodNamed Bd.named
  have X0 : Stand p l e rr_max s m #[(.int p0), (.int p1)] below meth c s₁ [] 0 0 := Stand.of_body Bd
  have e0 : s₁.heap = h0 := by rw [← hh, Bd.state]; rfl
  have N0 := Fr.nil n0
  obtain ⟨G, step, ret, fin⟩ := own_openX X0 (rr_max.cells) (rr_max.slots) (Q_max Z p0 p1 h0 n0) Bd.notSynchronized
  refine fin (g := entryFrame m #[(.int p0), (.int p1)] 2) ?_
  rw [ef_max m p0 p1]
  refine step (fun _ => XS.iloadN X0.here hx rfl (B d14_0) rfl) ?_
  refine step (fun _ => XS.iloadN X0.here hx rfl (B d14_1) rfl) ?_
  by_cases hc1 : p0 < p1
  · skip
    refine step (fun _ => XS.icmpYes X0.here hx rfl (pc0 := 2) (pc' := 9) rfl (B d14_2) rfl (tlt hc1).1 (by decide) (by decide)) ?_
    refine step (fun _ => XS.iloadN X0.here hx rfl (B d14_9) rfl) ?_
    exact ret (v := some (.int p1)) X0 (fun h => by rw [Bd.returns] at h; cases h) (fun fs hr => retI X0 hx Bd.returns (B d14_10) hr) e0 ⟨by unfold f_max; rw [if_pos hc1], N0, rfl⟩ (by decide) (by decide)
  · skip
    refine step (fun _ => XS.icmpNo X0.here hx rfl (B d14_2) rfl (flt hc1).1) ?_
    refine step (fun _ => XS.iloadN X0.here hx rfl (B d14_5) rfl) ?_
    show G s₁ (mkF m 6 #[vI p0, vI p1] [(.int p0)])
    refine step (fun _ => XS.goto X0.here hx rfl (pc0 := 6) (pc' := 10) rfl (B d14_6) (by decide) (by decide)) ?_
    exact ret (v := some (.int p0)) X0 (fun h => by rw [Bd.returns] at h; cases h) (fun fs hr => retI X0 hx Bd.returns (B d14_10) hr) e0 ⟨by unfold f_max; rw [if_neg hc1], N0, rfl⟩ (by decide) (by decide)
theorem d15_0 : decode qc15 0 = .ok (.iload_n 0, 1) := by decide +kernel
theorem d15_1 : decode qc15 1 = .ok (.iload_n 1, 1) := by decide +kernel
theorem d15_2 : decode qc15 2 = .ok (.if_icmp .gt 7, 3) := by decide +kernel
theorem d15_9 : decode qc15 9 = .ok (.iload_n 1, 1) := by decide +kernel
theorem d15_10 : decode qc15 10 = .ok (.ireturn, 1) := by decide +kernel
theorem d15_5 : decode qc15 5 = .ok (.iload_n 0, 1) := by decide +kernel
theorem d15_6 : decode qc15 6 = .ok (.goto 4, 3) := by decide +kernel
abbrev rr_min : Room := { frames := 0, cells := 0, slots := 0, locals := 0 }
abbrev y_15 : MethodName := ⟨cn_24, "min", "(II)I"⟩
theorem ef_min (m : MethodId) (p0 p1 : Int32) : entryFrame m #[(.int p0), (.int p1)] 2 = mkF m 0 #[vI p0, vI p1] [] := by first | (simp [entryFrame, mkF, argsToLocals, Value.category]; done) | rfl
def f_min  (p0 p1 : Int32) : Int32 := (if p1 < p0 then p1 else p0)
def Q_min (Z : State)  (p0 p1 : Int32) (h0 : Heap) (n0 : Nat) (v : Option Value) (h : Heap) (L : List Loc) : Prop := v = some (.int (f_min p0 p1)) ∧ Fr n0 L ∧ h = h0
theorem rm_min (l : Launch) (Z : State) (a0 : Array Value) (hw : HW Z a0) (ws : List Jvm.Cond)  (p0 p1 : Int32) (h0 : Heap) (n0 : Nat) (Z0 : n0 ≤ h0.size) (O0 : Old Z n0 h0) :
    own_Met l y_15 jdk_29_method_69_code 2 (some .int) ws rr_min Z #[(.int p0), (.int p1)] h0 (Q_min Z p0 p1 h0 n0) := by
  refine MetFree.of_bodySF (Jvm.Free.JP.mathPlain rfl (by decide +kernel)) hisR ?_
  intro p e s m args below meth c s₁ Bd hml0 hP hK
  obtain ⟨rfl, hZ, hh⟩ := hP
  have hx := Bd.exec
  have hby := Bd.bytes
  have B := @hb _ _ hby
  have hml : c.maxLocals = 2 := hml0
  have hown : s.vm.findClass cn_24 = some m.cls := findClass_of_methodNamed Bd.named
  have X0 : Stand p l e rr_min s m #[(.int p0), (.int p1)] below meth c s₁ [] 0 0 := Stand.of_body Bd
  have e0 : s₁.heap = h0 := by rw [← hh, Bd.state]; rfl
  have N0 := Fr.nil n0
  obtain ⟨G, step, ret, fin⟩ := own_openX X0 (rr_min.cells) (rr_min.slots) (Q_min Z p0 p1 h0 n0) Bd.notSynchronized
  refine fin (g := entryFrame m #[(.int p0), (.int p1)] 2) ?_
  rw [ef_min m p0 p1]
  refine step (fun _ => XS.iloadN X0.here hx rfl (B d15_0) rfl) ?_
  refine step (fun _ => XS.iloadN X0.here hx rfl (B d15_1) rfl) ?_
  by_cases hc1 : p1 < p0
  · skip
    refine step (fun _ => XS.icmpYes X0.here hx rfl (pc0 := 2) (pc' := 9) rfl (B d15_2) rfl (tlt hc1).2.2.1 (by decide) (by decide)) ?_
    refine step (fun _ => XS.iloadN X0.here hx rfl (B d15_9) rfl) ?_
    exact ret (v := some (.int p1)) X0 (fun h => by rw [Bd.returns] at h; cases h) (fun fs hr => retI X0 hx Bd.returns (B d15_10) hr) e0 ⟨by unfold f_min; rw [if_pos hc1], N0, rfl⟩ (by decide) (by decide)
  · skip
    refine step (fun _ => XS.icmpNo X0.here hx rfl (B d15_2) rfl (flt hc1).2.2.1) ?_
    refine step (fun _ => XS.iloadN X0.here hx rfl (B d15_5) rfl) ?_
    show G s₁ (mkF m 6 #[vI p0, vI p1] [(.int p0)])
    refine step (fun _ => XS.goto X0.here hx rfl (pc0 := 6) (pc' := 10) rfl (B d15_6) (by decide) (by decide)) ?_
    exact ret (v := some (.int p0)) X0 (fun h => by rw [Bd.returns] at h; cases h) (fun fs hr => retI X0 hx Bd.returns (B d15_10) hr) e0 ⟨by unfold f_min; rw [if_neg hc1], N0, rfl⟩ (by decide) (by decide)
theorem d16_0 : decode qc16 0 = .ok (.iload_n 0, 1) := by decide +kernel
theorem d16_1 : decode qc16 1 = .ok (.iload_n 1, 1) := by decide +kernel
theorem d16_2 : decode qc16 2 = .ok (.iload_n 2, 1) := by decide +kernel
theorem d16_3 : decode qc16 3 = .ok (.invokestatic 194, 3) := by decide +kernel
theorem ww248 (hw : HW Z a0) : Cond.before (Cond.methodLink cn_17 194 ({ cls := cn_24, name := "max", desc := "(II)I" } : MethodName)) a0 Z = true := own_w hw 248 rfl
theorem ww250 (hw : HW Z a0) : Cond.before (Cond.code ({ cls := cn_24, name := "max", desc := "(II)I" } : MethodName) jdk_29_method_65_code 2 (Option.some FieldType.int)) a0 Z = true := own_w hw 250 rfl
theorem ww185 (hw : HW Z a0) : Cond.before (Cond.initialized cn_24) a0 Z = true := own_w hw 185 rfl
theorem pd_9 : parseMethodDescriptor "(II)I" = some ⟨[.int, .int], some .int⟩ := by decide +kernel
theorem ww249 (hw : HW Z a0) : Cond.before (Cond.static ({ cls := cn_24, name := "max", desc := "(II)I" } : MethodName)) a0 Z = true := own_w hw 249 rfl
theorem d16_6 : decode qc16 6 = .ok (.iadd, 1) := by decide +kernel
theorem d16_7 : decode qc16 7 = .ok (.istore_n 3, 1) := by decide +kernel
theorem d16_8 : decode qc16 8 = .ok (.iconst 0, 1) := by decide +kernel
theorem d16_9 : decode qc16 9 = .ok (.iload_n 3, 1) := by decide +kernel
theorem d16_10 : decode qc16 10 = .ok (.if_icmp .ge 11, 3) := by decide +kernel
theorem d16_13 : decode qc16 13 = .ok (.iload_n 3, 1) := by decide +kernel
theorem d16_14 : decode qc16 14 = .ok (.ldc 200, 2) := by decide +kernel
theorem ww251 (hw : HW Z a0) : Cond.before (Cond.constant cn_17 200 (2147483639 : Int32)) a0 Z = true := own_w hw 251 rfl
theorem d16_16 : decode qc16 16 = .ok (.if_icmp .gt 5, 3) := by decide +kernel
theorem d16_19 : decode qc16 19 = .ok (.iload_n 3, 1) := by decide +kernel
theorem d16_20 : decode qc16 20 = .ok (.ireturn, 1) := by decide +kernel
abbrev rr_nl : Room := { frames := 1, cells := 0, slots := 0, locals := 14 }
abbrev y_16 : MethodName := ⟨cn_17, "newLength", "(III)I"⟩
theorem pn_5 : plainName cn_17 = true := by first | (simp [plainName, overriddenIn]; done) | decide +kernel
theorem ef_nl (m : MethodId) (p1 : Int32) : entryFrame m #[(.int 16), (.int p1), (.int 18)] 4 = mkF m 0 #[vI 16, vI p1, vI 18, u_] [] := by first | (simp [entryFrame, mkF, argsToLocals, Value.category]; done) | rfl
def f_nl  (p1 : Int32) : Int32 := (34 : Int32)
def Q_nl (Z : State)  (p1 : Int32) (h0 : Heap) (n0 : Nat) (v : Option Value) (h : Heap) (L : List Loc) : Prop := v = some (.int (f_nl p1)) ∧ Fr n0 L ∧ h = h0
theorem rm_nl (l : Launch) (Z : State) (a0 : Array Value) (hw : HW Z a0) (ws : List Jvm.Cond)  (p1 : Int32) (h0 : Heap) (n0 : Nat) (Z0 : n0 ≤ h0.size) (O0 : Old Z n0 h0) (h18 : p1 < (18 : Int32)) :
    own_Met l y_16 jdk_48_method_27_code 4 (some .int) ws rr_nl Z #[(.int 16), (.int p1), (.int 18)] h0 (Q_nl Z p1 h0 n0) := by
  refine MetFree.of_bodySF (plainFor_of_name pn_5) hisR ?_
  intro p e s m args below meth c s₁ Bd hml0 hP hK
  obtain ⟨rfl, hZ, hh⟩ := hP
  have hx := Bd.exec
  have hby := Bd.bytes
  have B := @hb _ _ hby
  have hml : c.maxLocals = 4 := hml0
  have hown : s.vm.findClass cn_17 = some m.cls := findClass_of_methodNamed Bd.named
  have X0 : Stand p l e rr_nl s m #[(.int 16), (.int p1), (.int 18)] below meth c s₁ [] 0 0 := Stand.of_body Bd
  have e0 : s₁.heap = h0 := by rw [← hh, Bd.state]; rfl
  have N0 := Fr.nil n0
  obtain ⟨G, step, ret, fin⟩ := own_openX X0 (rr_nl.cells) (rr_nl.slots) (Q_nl Z p1 h0 n0) Bd.notSynchronized
  refine fin (g := entryFrame m #[(.int 16), (.int p1), (.int 18)] 4) ?_
  rw [ef_nl m p1]
  refine step (fun _ => XS.iloadN X0.here hx rfl (B d16_0) rfl) ?_
  refine step (fun _ => XS.iloadN X0.here hx rfl (B d16_1) rfl) ?_
  refine step (fun _ => XS.iloadN X0.here hx rfl (B d16_2) rfl) ?_
  have hK1 := (backOf (R := rr_nl) (p := p) (e := e) (below := below) (s := s) (args := #[(.int 16), (.int p1), (.int 18)]) (len := 3) (W := 1) (rm_max l Z a0 hw [] p1 (18 : Int32) h0 n0 (own_old_le O0) O0) hZ (ww250 hw) (ww185 hw) (by decide) (by decide))
  obtain ⟨_, _, ⟨T1, L1, k1, n1⟩, -, X1, ⟨Lc1, hQ1, l1, y1, z1⟩, st1⟩ := Jvm.LawKit.callS X0 hx (y := y_14) hown (mvT hZ (ww248 hw)) (mvT hZ (ww249 hw)) (mvT hZ (ww185 hw)) (mvT hZ (ww250 hw)) (by decide) hK1 (g := (mkF m 3 #[vI 16, vI p1, vI 18, u_] [(.int 18), (.int p1), (.int 16)])) rfl (by rw [hml]; rfl) (argsL := [(.int p1), (.int 18)]) (rest := [(.int 16)]) (lenOf pd_9 rfl) rfl (by show 2 * 0 + _ ≤ _; exact Nat.le_of_eq rfl) (B d16_3) (fun _ _ => ⟨rfl, e0, (by decide : 0 + 0 ≤ _), (by decide : 0 + 0 ≤ _)⟩)
  dsimp only [Pt.U, Pt.locs, Pt.cells, Pt.slots] at X1 l1 y1 z1 st1 hQ1
  subst l1 y1 z1
  obtain ⟨rfl, N1q, e1⟩ := hQ1
  have N1 := Fr.app N0 N1q
  obtain ⟨lc1, X1, N1⟩ := own_gen X1 N1
  refine step (fun t k => st1 t k) ?_
  have r2 : (f_max p1 (18 : Int32)) = (18 : Int32) := by
    unfold f_max
    rw [if_pos h18]
  rw [r2]
  refine step (fun _ => XS.iadd X1.here hx rfl (B d16_6) rfl) ?_
  show G T1 (mkF m 7 #[vI 16, vI p1, vI 18, u_] [(.int ((16 : Int32) + (18 : Int32)))])
  rw [(by decide : ((16 : Int32) + (18 : Int32)) = (34 : Int32))]
  refine step (fun _ => XS.istoreN X1.here hx rfl (B d16_7) rfl (l' := #[vI 16, vI p1, vI 18, vI 34]) rfl) ?_
  refine step (fun _ => XS.iconst X1.here hx rfl (B d16_8)) ?_
  refine step (fun _ => XS.iloadN X1.here hx rfl (B d16_9) rfl) ?_
  refine step (fun _ => XS.icmpNo X1.here hx rfl (B d16_10) rfl (tlt (by decide : (0 : Int32) < (34 : Int32))).2.1) ?_
  refine step (fun _ => XS.iloadN X1.here hx rfl (B d16_13) rfl) ?_
  have q3 := X1.ldcInt hx hown (mvT hZ (ww251 hw)) (g := (mkF m 14 #[vI 16, vI p1, vI 18, vI 34] [(.int 34)])) rfl (B d16_14)
  refine step q3 ?_
  refine step (fun _ => XS.icmpNo X1.here hx rfl (B d16_16) rfl (flt (by decide : ¬ ((2147483639 : Int32) < (34 : Int32)))).2.2.1) ?_
  refine step (fun _ => XS.iloadN X1.here hx rfl (B d16_19) rfl) ?_
  exact ret (v := some (.int 34)) X1 (fun h => by rw [Bd.returns] at h; cases h) (fun fs hr => retI X1 hx Bd.returns (B d16_20) hr) e1 ⟨rfl, N1, rfl⟩ (by decide) (by decide)
theorem d17_0 : decode qc17 0 = .ok (.aload_n 0, 1) := by decide +kernel
theorem d17_1 : decode qc17 1 = .ok (.getfield 15, 3) := by decide +kernel
theorem d17_4 : decode qc17 4 = .ok (.arraylength, 1) := by decide +kernel
theorem d17_5 : decode qc17 5 = .ok (.istore_n 2, 1) := by decide +kernel
theorem d17_6 : decode qc17 6 = .ok (.iload_n 1, 1) := by decide +kernel
theorem d17_7 : decode qc17 7 = .ok (.aload_n 0, 1) := by decide +kernel
theorem d17_8 : decode qc17 8 = .ok (.getfield 22, 3) := by decide +kernel
theorem d17_11 : decode qc17 11 = .ok (.ishl, 1) := by decide +kernel
theorem d17_12 : decode qc17 12 = .ok (.istore_n 3, 1) := by decide +kernel
theorem d17_13 : decode qc17 13 = .ok (.iload_n 3, 1) := by decide +kernel
theorem d17_14 : decode qc17 14 = .ok (.iload_n 2, 1) := by decide +kernel
theorem d17_15 : decode qc17 15 = .ok (.isub, 1) := by decide +kernel
theorem d17_16 : decode qc17 16 = .ok (.istore 4, 2) := by decide +kernel
theorem d17_18 : decode qc17 18 = .ok (.iload_n 2, 1) := by decide +kernel
theorem d17_19 : decode qc17 19 = .ok (.iload 4, 2) := by decide +kernel
theorem d17_21 : decode qc17 21 = .ok (.iload_n 2, 1) := by decide +kernel
theorem d17_22 : decode qc17 22 = .ok (.iconst 2, 1) := by decide +kernel
theorem d17_23 : decode qc17 23 = .ok (.aload_n 0, 1) := by decide +kernel
theorem d17_24 : decode qc17 24 = .ok (.getfield 22, 3) := by decide +kernel
theorem d17_27 : decode qc17 27 = .ok (.ishl, 1) := by decide +kernel
theorem d17_28 : decode qc17 28 = .ok (.iadd, 1) := by decide +kernel
theorem d17_29 : decode qc17 29 = .ok (.invokestatic 114, 3) := by decide +kernel
theorem ww244 (hw : HW Z a0) : Cond.before (Cond.methodLink cn_0 114 ({ cls := cn_17, name := "newLength", desc := "(III)I" } : MethodName)) a0 Z = true := own_w hw 244 rfl
theorem ww247 (hw : HW Z a0) : Cond.before (Cond.code ({ cls := cn_17, name := "newLength", desc := "(III)I" } : MethodName) jdk_48_method_27_code 4 (Option.some FieldType.int)) a0 Z = true := own_w hw 247 rfl
theorem ww246 (hw : HW Z a0) : Cond.before (Cond.initialized cn_17) a0 Z = true := own_w hw 246 rfl
theorem pd_10 : parseMethodDescriptor "(III)I" = some ⟨[.int, .int, .int], some .int⟩ := by decide +kernel
theorem ww245 (hw : HW Z a0) : Cond.before (Cond.static ({ cls := cn_17, name := "newLength", desc := "(III)I" } : MethodName)) a0 Z = true := own_w hw 245 rfl
theorem d17_32 : decode qc17 32 = .ok (.istore 5, 2) := by decide +kernel
theorem d17_34 : decode qc17 34 = .ok (.iload 5, 2) := by decide +kernel
theorem d17_36 : decode qc17 36 = .ok (.ldc 39, 2) := by decide +kernel
theorem ww252 (hw : HW Z a0) : Cond.before (Cond.constant cn_0 39 (2147483647 : Int32)) a0 Z = true := own_w hw 252 rfl
theorem d17_38 : decode qc17 38 = .ok (.if_icmp .ne 13, 3) := by decide +kernel
theorem d17_51 : decode qc17 51 = .ok (.iload 5, 2) := by decide +kernel
theorem d17_53 : decode qc17 53 = .ok (.aload_n 0, 1) := by decide +kernel
theorem d17_54 : decode qc17 54 = .ok (.getfield 22, 3) := by decide +kernel
theorem d17_57 : decode qc17 57 = .ok (.ishr, 1) := by decide +kernel
theorem d17_58 : decode qc17 58 = .ok (.ireturn, 1) := by decide +kernel
abbrev rr_nc : Room := { frames := 2, cells := 0, slots := 0, locals := 29 }
abbrev y_17 : MethodName := ⟨cn_0, "newCapacity", "(I)I"⟩
theorem ef_nc (m : MethodId) (o0 : Addr) (p1 : Int32) : entryFrame m #[(.ref o0), (.int p1)] 6 = mkF m 0 #[vR o0, vI p1, u_, u_, u_, u_] [] := by first | (simp [entryFrame, mkF, argsToLocals, Value.category]; done) | rfl
def f_nc (w_0 w_1 : Addr) (w_2 : Int32) (w_3 : Value) (o0 : Addr) (p1 : Int32) (a : Addr) (ka : ClassId) (cs : List Int32) : Int32 := (34 : Int32)
def Q_nc (Z : State) (w_0 w_1 : Addr) (w_2 : Int32) (w_3 : Value) (o0 : Addr) (p1 : Int32) (a : Addr) (ka : ClassId) (cs : List Int32) (h0 : Heap) (n0 : Nat) (v : Option Value) (h : Heap) (L : List Loc) : Prop := v = some (.int (f_nc w_0 w_1 w_2 w_3 o0 p1 a ka cs)) ∧ Fr n0 L ∧ h = h0
theorem rm_nc (l : Launch) (Z : State) (a0 : Array Value) (hw : HW Z a0) (ws : List Jvm.Cond) (w_0 w_1 : Addr) (w_2 : Int32) (w_3 : Value) (o0 : Addr) (p1 : Int32) (a : Addr) (ka : ClassId) (cs : List Int32) (h0 : Heap) (n0 : Nat) (Z0 : n0 ≤ h0.size) (ST : own_St Z w_0 w_1 w_2 w_3) (O0 : Old Z n0 h0) (Eb : Exa Z h0 o0 cn_4) (Fbv : Fld Z h0 o0 cn_0 "value" "[B" (.ref a)) (Fbc : Fld Z h0 o0 cn_0 "coder" "B" (.int 0)) (Vb : Arv Z h0 a ka .byte (16 : Int32) (own_by cs) (.int 0)) (hcs : cs.length ≤ 16) (hlim : ¬ p1 < 0 ∧ ¬ (33 : Int32) < p1) :
    own_Met l y_17 jdk_68_method_10_code 6 (some .int) ws rr_nc Z #[(.ref o0), (.int p1)] h0 (Q_nc Z w_0 w_1 w_2 w_3 o0 p1 a ka cs h0 n0) := by
  refine MetFree.of_bodySF (plainFor_of_name pn_3) hisR ?_
  intro p e s m args below meth c s₁ Bd hml0 hP hK
  obtain ⟨rfl, hZ, hh⟩ := hP
  have hx := Bd.exec
  have hby := Bd.bytes
  have B := @hb _ _ hby
  have hml : c.maxLocals = 6 := hml0
  have hown : s.vm.findClass cn_0 = some m.cls := findClass_of_methodNamed Bd.named
  have X0 : Stand p l e rr_nc s m #[(.ref o0), (.int p1)] below meth c s₁ [] 0 0 := Stand.of_body Bd
  have e0 : s₁.heap = h0 := by rw [← hh, Bd.state]; rfl
  have N0 := Fr.nil n0
  obtain ⟨G, step, ret, fin⟩ := own_openX X0 (rr_nc.cells) (rr_nc.slots) (Q_nc Z w_0 w_1 w_2 w_3 o0 p1 a ka cs h0 n0) Bd.notSynchronized
  refine fin (g := entryFrame m #[(.ref o0), (.int p1)] 6) ?_
  rw [ef_nc m o0 p1]
  refine step (fun _ => XS.aloadN X0.here hx rfl (B d17_0) rfl rfl) ?_
  obtain ⟨T1, X1, e1, st1⟩ := getF X0 hx hZ hown (host := "") (Or.inl (ww90 hw)) Via.refl e0 Fbv (g := (mkF m 1 #[vR o0, vI p1, u_, u_, u_, u_] [(.ref o0)])) rfl rfl (B d17_1)
  refine step st1 ?_
  have q2 := own_len X1 hx hZ e1 Vb (g := (mkF m 4 #[vR o0, vI p1, u_, u_, u_, u_] [(.ref a)])) rfl rfl (B d17_4)
  refine step q2 ?_
  refine step (fun _ => XS.istoreN X1.here hx rfl (B d17_5) rfl (l' := #[vR o0, vI p1, vI 16, u_, u_, u_]) rfl) ?_
  refine step (fun _ => XS.iloadN X1.here hx rfl (B d17_6) rfl) ?_
  refine step (fun _ => XS.aloadN X1.here hx rfl (B d17_7) rfl rfl) ?_
  obtain ⟨T3, X3, e3, st3⟩ := getF X1 hx hZ hown (host := "") (Or.inl (ww92 hw)) Via.refl e1 Fbc (g := (mkF m 8 #[vR o0, vI p1, vI 16, u_, u_, u_] [(.ref o0), (.int p1)])) rfl rfl (B d17_8)
  refine step st3 ?_
  refine step (fun _ => XS.ishl X3.here hx rfl (B d17_11) rfl) ?_
  show G T3 (mkF m 12 #[vR o0, vI p1, vI 16, u_, u_, u_] [(.int (p1 <<< ((0 : Int32) &&& 31)))])
  rw [own_shl0]
  refine step (fun _ => XS.istoreN X3.here hx rfl (B d17_12) rfl (l' := #[vR o0, vI p1, vI 16, vI p1, u_, u_]) rfl) ?_
  refine step (fun _ => XS.iloadN X3.here hx rfl (B d17_13) rfl) ?_
  refine step (fun _ => XS.iloadN X3.here hx rfl (B d17_14) rfl) ?_
  refine step (fun _ => XS.isub X3.here hx rfl (B d17_15) rfl) ?_
  refine step (fun _ => XS.istore X3.here hx rfl (B d17_16) rfl (l' := #[vR o0, vI p1, vI 16, vI p1, vI ((p1 - (16 : Int32))), u_]) rfl) ?_
  refine step (fun _ => XS.iloadN X3.here hx rfl (B d17_18) rfl) ?_
  show G T3 (mkF m 19 #[vR o0, vI p1, vI 16, vI p1, vI ((p1 - (16 : Int32))), u_] [(.int 16)])
  refine step (fun _ => XS.iload X3.here hx rfl (B d17_19) rfl) ?_
  refine step (fun _ => XS.iloadN X3.here hx rfl (B d17_21) rfl) ?_
  refine step (fun _ => XS.iconst X3.here hx rfl (B d17_22)) ?_
  show G T3 (mkF m 23 #[vR o0, vI p1, vI 16, vI p1, vI ((p1 - (16 : Int32))), u_] [(.int 2), (.int 16), (.int (p1 - (16 : Int32))), (.int 16)])
  obtain ⟨z2, hz2⟩ := own_ex (2 : Int32)
  rw [← hz2]
  refine step (fun _ => XS.aloadN X3.here hx rfl (B d17_23) rfl rfl) ?_
  obtain ⟨T4, X4, e4, st4⟩ := getF X3 hx hZ hown (host := "") (Or.inl (ww92 hw)) Via.refl e3 Fbc (g := (mkF m 24 #[vR o0, vI p1, vI 16, vI p1, vI ((p1 - (16 : Int32))), u_] [(.ref o0), (.int z2), (.int 16), (.int (p1 - (16 : Int32))), (.int 16)])) rfl rfl (B d17_24)
  refine step st4 ?_
  refine step (fun _ => XS.ishl X4.here hx rfl (B d17_27) rfl) ?_
  show G T4 (mkF m 28 #[vR o0, vI p1, vI 16, vI p1, vI ((p1 - (16 : Int32))), u_] [(.int (z2 <<< ((0 : Int32) &&& 31))), (.int 16), (.int (p1 - (16 : Int32))), (.int 16)])
  rw [own_shl0]
  show G T4 (mkF m 28 #[vR o0, vI p1, vI 16, vI p1, vI ((p1 - (16 : Int32))), u_] [(.int z2), (.int 16), (.int (p1 - (16 : Int32))), (.int 16)])
  rw [hz2]
  refine step (fun _ => XS.iadd X4.here hx rfl (B d17_28) rfl) ?_
  show G T4 (mkF m 29 #[vR o0, vI p1, vI 16, vI p1, vI ((p1 - (16 : Int32))), u_] [(.int ((16 : Int32) + (2 : Int32))), (.int (p1 - (16 : Int32))), (.int 16)])
  rw [(by decide : ((16 : Int32) + (2 : Int32)) = (18 : Int32))]
  have hK5 := (backOf (R := rr_nc) (p := p) (e := e) (below := below) (s := s) (args := #[(.ref o0), (.int p1)]) (len := 3) (W := 0) (rm_nl l Z a0 hw [] (p1 - (16 : Int32)) h0 n0 (own_old_le O0) O0 ((own_l18 hlim) : (p1 - (16 : Int32)) < (18 : Int32))) hZ (ww247 hw) (ww246 hw) (by decide) (by decide))
  obtain ⟨_, _, ⟨T5, L5, k5, n5⟩, -, X5, ⟨Lc5, hQ5, l5, y5, z5⟩, st5⟩ := Jvm.LawKit.callS X4 hx (y := y_16) hown (mvT hZ (ww244 hw)) (mvT hZ (ww245 hw)) (mvT hZ (ww246 hw)) (mvT hZ (ww247 hw)) (by decide) hK5 (g := (mkF m 29 #[vR o0, vI p1, vI 16, vI p1, vI ((p1 - (16 : Int32))), u_] [(.int 18), (.int (p1 - (16 : Int32))), (.int 16)])) rfl (by rw [hml]; rfl) (argsL := [(.int 16), (.int (p1 - (16 : Int32))), (.int 18)]) (rest := []) (lenOf pd_10 rfl) rfl (by show 2 * 0 + _ ≤ _; exact Nat.le_of_eq rfl) (B d17_29) (fun _ _ => ⟨rfl, e4, (by decide : 0 + 0 ≤ _), (by decide : 0 + 0 ≤ _)⟩)
  dsimp only [Pt.U, Pt.locs, Pt.cells, Pt.slots] at X5 l5 y5 z5 st5 hQ5
  subst l5 y5 z5
  obtain ⟨rfl, N5q, e5⟩ := hQ5
  have N5 := Fr.app N0 N5q
  obtain ⟨lc5, X5, N5⟩ := own_gen X5 N5
  refine step (fun t k => st5 t k) ?_
  have r6 : (f_nl (p1 - (16 : Int32))) = (34 : Int32) := rfl
  rw [r6]
  refine step (fun _ => XS.istore X5.here hx rfl (B d17_32) rfl (l' := #[vR o0, vI p1, vI 16, vI p1, vI ((p1 - (16 : Int32))), vI 34]) rfl) ?_
  refine step (fun _ => XS.iload X5.here hx rfl (B d17_34) rfl) ?_
  have q7 := X5.ldcInt hx hown (mvT hZ (ww252 hw)) (g := (mkF m 36 #[vR o0, vI p1, vI 16, vI p1, vI ((p1 - (16 : Int32))), vI 34] [(.int 34)])) rfl (B d17_36)
  refine step q7 ?_
  refine step (fun _ => XS.icmpYes X5.here hx rfl (pc0 := 38) (pc' := 51) rfl (B d17_38) rfl (feq (by decide : ¬ ((34 : Int32) = (2147483647 : Int32)))).2 (by decide) (by decide)) ?_
  refine step (fun _ => XS.iload X5.here hx rfl (B d17_51) rfl) ?_
  show G T5 (mkF m 53 #[vR o0, vI p1, vI 16, vI p1, vI ((p1 - (16 : Int32))), vI 34] [(.int 34)])
  obtain ⟨z34, hz34⟩ := own_ex (34 : Int32)
  rw [← hz34]
  refine step (fun _ => XS.aloadN X5.here hx rfl (B d17_53) rfl rfl) ?_
  obtain ⟨T8, X8, e8, st8⟩ := getF X5 hx hZ hown (host := "") (Or.inl (ww92 hw)) Via.refl e5 Fbc (g := (mkF m 54 #[vR o0, vI p1, vI 16, vI p1, vI ((p1 - (16 : Int32))), vI z34] [(.ref o0), (.int z34)])) rfl rfl (B d17_54)
  refine step st8 ?_
  refine step (fun _ => XS.ishr X8.here hx rfl (B d17_57) rfl) ?_
  show G T8 (mkF m 58 #[vR o0, vI p1, vI 16, vI p1, vI ((p1 - (16 : Int32))), vI z34] [(.int (z34 >>> ((0 : Int32) &&& 31)))])
  rw [own_shr0]
  show G T8 (mkF m 58 #[vR o0, vI p1, vI 16, vI p1, vI ((p1 - (16 : Int32))), vI z34] [(.int z34)])
  rw [hz34]
  exact ret (v := some (.int 34)) X8 (fun h => by rw [Bd.returns] at h; cases h) (fun fs hr => retI X8 hx Bd.returns (B d17_58) hr) e8 ⟨rfl, N5, rfl⟩ (by decide) (by decide)
theorem own_p16 {Z : State} {h : Heap} {a : Addr} {k : ClassId} {z : Int32} {cs : List Int32} (V : Arv Z h a k .byte z (own_by cs) (.int 0)) (hl : cs.length ≤ 16) : Arv Z h a k .byte z (own_by cs ++ List.replicate (16 - cs.length) (.int 0)) (.int 0) ∧ (own_by cs ++ List.replicate (16 - cs.length) (Value.int 0)).length = 16 := by
  refine ⟨V.pad (pad_rep _ _ _), ?_⟩
  rw [List.length_append, own_bl, List.length_replicate]
  omega
theorem d18_0 : decode qc18 0 = .ok (.iload_n 1, 1) := by decide +kernel
theorem d18_1 : decode qc18 1 = .ok (.aload_n 0, 1) := by decide +kernel
theorem d18_2 : decode qc18 2 = .ok (.arraylength, 1) := by decide +kernel
theorem d18_3 : decode qc18 3 = .ok (.if_icmp .ne 11, 3) := by decide +kernel
theorem d18_14 : decode qc18 14 = .ok (.iload_n 1, 1) := by decide +kernel
theorem d18_15 : decode qc18 15 = .ok (.newarray .byte, 2) := by decide +kernel
theorem d18_17 : decode qc18 17 = .ok (.astore_n 2, 1) := by decide +kernel
theorem d18_18 : decode qc18 18 = .ok (.aload_n 0, 1) := by decide +kernel
theorem d18_19 : decode qc18 19 = .ok (.iconst 0, 1) := by decide +kernel
theorem d18_20 : decode qc18 20 = .ok (.aload_n 2, 1) := by decide +kernel
theorem d18_21 : decode qc18 21 = .ok (.iconst 0, 1) := by decide +kernel
theorem d18_22 : decode qc18 22 = .ok (.aload_n 0, 1) := by decide +kernel
theorem d18_23 : decode qc18 23 = .ok (.arraylength, 1) := by decide +kernel
theorem d18_24 : decode qc18 24 = .ok (.iload_n 1, 1) := by decide +kernel
theorem d18_25 : decode qc18 25 = .ok (.invokestatic 304, 3) := by decide +kernel
theorem ww183 (hw : HW Z a0) : Cond.before (Cond.methodLink cn_9 304 ({ cls := cn_24, name := "min", desc := "(II)I" } : MethodName)) a0 Z = true := own_w hw 183 rfl
theorem ww186 (hw : HW Z a0) : Cond.before (Cond.code ({ cls := cn_24, name := "min", desc := "(II)I" } : MethodName) jdk_29_method_69_code 2 (Option.some FieldType.int)) a0 Z = true := own_w hw 186 rfl
theorem ww184 (hw : HW Z a0) : Cond.before (Cond.static ({ cls := cn_24, name := "min", desc := "(II)I" } : MethodName)) a0 Z = true := own_w hw 184 rfl
theorem d18_28 : decode qc18 28 = .ok (.invokestatic 150, 3) := by decide +kernel
theorem ww187 (hw : HW Z a0) : Cond.before (Cond.methodLink cn_9 150 ({ cls := cn_30, name := "arraycopy", desc := "(Ljava/lang/Object;ILjava/lang/Object;II)V" } : MethodName)) a0 Z = true := own_w hw 187 rfl
theorem ww140 (hw : HW Z a0) : Cond.before (Cond.native ({ cls := cn_30, name := "arraycopy", desc := "(Ljava/lang/Object;ILjava/lang/Object;II)V" } : MethodName)) a0 Z = true := own_w hw 140 rfl
theorem ww138 (hw : HW Z a0) : Cond.before (Cond.static ({ cls := cn_30, name := "arraycopy", desc := "(Ljava/lang/Object;ILjava/lang/Object;II)V" } : MethodName)) a0 Z = true := own_w hw 138 rfl
theorem ww139 (hw : HW Z a0) : Cond.before (Cond.initialized cn_30) a0 Z = true := own_w hw 139 rfl
theorem d18_31 : decode qc18 31 = .ok (.aload_n 2, 1) := by decide +kernel
theorem d18_32 : decode qc18 32 = .ok (.areturn, 1) := by decide +kernel
abbrev rr_cof : Room := { frames := 1, cells := 1, slots := 34, locals := 18 }
abbrev y_18 : MethodName := ⟨cn_9, "copyOf", "([BI)[B"⟩
theorem pn_6 : plainName cn_9 = true := by first | (simp [plainName, overriddenIn]; done) | decide +kernel
theorem ef_cof (m : MethodId) (o0 : Addr) : entryFrame m #[(.ref o0), (.int 34)] 3 = mkF m 0 #[vR o0, vI 34, u_] [] := by first | (simp [entryFrame, mkF, argsToLocals, Value.category]; done) | rfl
def Q_cof (Z : State) (w_0 w_1 : Addr) (w_2 : Int32) (w_3 : Value) (o0 : Addr) (ka : ClassId) (cs : List Int32) (h0 : Heap) (n0 : Nat) (v : Option Value) (h : Heap) (L : List Loc) : Prop := ∃ b : Addr, ∃ kb : ClassId, v = some (.ref b) ∧ Fr n0 L ∧ Keep h0 h [] ∧ h0.size ≤ b ∧ Exa Z h b "[B" ∧ Arv Z h b kb .byte (34 : Int32) (own_by cs) (.int 0)
theorem rm_cof (l : Launch) (Z : State) (a0 : Array Value) (hw : HW Z a0) (ws : List Jvm.Cond) (w_0 w_1 : Addr) (w_2 : Int32) (w_3 : Value) (o0 : Addr) (ka : ClassId) (cs : List Int32) (h0 : Heap) (n0 : Nat) (Z0 : n0 ≤ h0.size) (ST : own_St Z w_0 w_1 w_2 w_3) (O0 : Old Z n0 h0) (Vb : Arv Z h0 o0 ka .byte (16 : Int32) (own_by cs) (.int 0)) (hcs : cs.length ≤ 16) :
    own_Met l y_18 jdk_65_method_121_code 3 (some (.array .byte)) ws rr_cof Z #[(.ref o0), (.int 34)] h0 (Q_cof Z w_0 w_1 w_2 w_3 o0 ka cs h0 n0) := by
  refine MetFree.of_bodySF (plainFor_of_name pn_6) hisR ?_
  intro p e s m args below meth c s₁ Bd hml0 hP hK
  obtain ⟨rfl, hZ, hh⟩ := hP
  have hx := Bd.exec
  have hby := Bd.bytes
  have B := @hb _ _ hby
  have hml : c.maxLocals = 3 := hml0
  have hown : s.vm.findClass cn_9 = some m.cls := findClass_of_methodNamed Bd.named
  have X0 : Stand p l e rr_cof s m #[(.ref o0), (.int 34)] below meth c s₁ [] 0 0 := Stand.of_body Bd
  have e0 : s₁.heap = h0 := by rw [← hh, Bd.state]; rfl
  have N0 := Fr.nil n0
  have K0 : Keep h0 h0 [] := Keep.refl _ _
  obtain ⟨G, step, ret, fin⟩ := own_openX X0 (rr_cof.cells) (rr_cof.slots) (Q_cof Z w_0 w_1 w_2 w_3 o0 ka cs h0 n0) Bd.notSynchronized
  refine fin (g := entryFrame m #[(.ref o0), (.int 34)] 3) ?_
  rw [ef_cof m o0]
  refine step (fun _ => XS.iloadN X0.here hx rfl (B d18_0) rfl) ?_
  refine step (fun _ => XS.aloadN X0.here hx rfl (B d18_1) rfl rfl) ?_
  have q1 := own_len X0 hx hZ e0 Vb (g := (mkF m 2 #[vR o0, vI 34, u_] [(.ref o0), (.int 34)])) rfl rfl (B d18_2)
  refine step q1 ?_
  refine step (fun _ => XS.icmpYes X0.here hx rfl (pc0 := 3) (pc' := 14) rfl (B d18_3) rfl (feq (by decide : ¬ ((34 : Int32) = (16 : Int32)))).2 (by decide) (by decide)) ?_
  refine step (fun _ => XS.iloadN X0.here hx rfl (B d18_14) rfl) ?_
  obtain ⟨T2, h2, k2, X2, e2, E2, A2, B2, st2⟩ := newPE (aty := .byte) X0 hx hZ (ww14 hw) e0 (g := (mkF m 15 #[vR o0, vI 34, u_] [(.int 34)])) rfl (B d18_15) rfl (by decide) (cap := 34) (by decide) (by decide) (by decide) (by decide) (ad := "[B") (by decide)
  obtain ⟨b2, g2⟩ : ∃ z, z = h0.size := ⟨_, rfl⟩
  rw [← g2] at A2 B2 st2
  have V2 : Arv Z h2 b2 k2 .byte (34 : Int32) [(.int 0), (.int 0), (.int 0), (.int 0), (.int 0), (.int 0), (.int 0), (.int 0), (.int 0), (.int 0), (.int 0), (.int 0), (.int 0), (.int 0), (.int 0), (.int 0), (.int 0), (.int 0), (.int 0), (.int 0), (.int 0), (.int 0), (.int 0), (.int 0), (.int 0), (.int 0), (.int 0), (.int 0), (.int 0), (.int 0), (.int 0), (.int 0), (.int 0), (.int 0)] (.int 0) := (Arv.new A2 (by decide)).pad (pad_rep [] (.int 0) 34)
  have ge_b2 : n0 ≤ b2 := Nat.le_trans (own_old_le O0) (Nat.le_of_eq g2.symm)
  have sz_b2 : h0.size ≤ b2 := Nat.le_trans K0.1 (Nat.le_of_eq g2.symm)
  have O2 := O0.ext E2
  have K2 : Keep h0 h2 [] := K0.ext E2
  refine step st2 ?_
  refine step (fun _ => XS.astoreN X2.here hx rfl (B d18_17) rfl rfl (l' := #[vR o0, vI 34, vR b2]) rfl) ?_
  refine step (fun _ => XS.aloadN X2.here hx rfl (B d18_18) rfl rfl) ?_
  refine step (fun _ => XS.iconst X2.here hx rfl (B d18_19)) ?_
  refine step (fun _ => XS.aloadN X2.here hx rfl (B d18_20) rfl rfl) ?_
  refine step (fun _ => XS.iconst X2.here hx rfl (B d18_21)) ?_
  show G T2 (mkF m 22 #[vR o0, vI 34, vR b2] [(.int 0), (.ref b2), (.int 0), (.ref o0)])
  refine step (fun _ => XS.aloadN X2.here hx rfl (B d18_22) rfl rfl) ?_
  have f3 := (Vb.ext E2)
  have q4 := own_len X2 hx hZ e2 f3 (g := (mkF m 23 #[vR o0, vI 34, vR b2] [(.ref o0), (.int 0), (.ref b2), (.int 0), (.ref o0)])) rfl rfl (B d18_23)
  refine step q4 ?_
  refine step (fun _ => XS.iloadN X2.here hx rfl (B d18_24) rfl) ?_
  have hK5 := (backOf (R := rr_cof) (p := p) (e := e) (below := below) (s := s) (args := #[(.ref o0), (.int 34)]) (len := 3) (W := 4) (rm_min l Z a0 hw [] (16 : Int32) (34 : Int32) h2 n0 (own_old_le O2) O2) hZ (ww186 hw) (ww185 hw) (by decide) (by decide))
  obtain ⟨_, _, ⟨T5, L5, k5, n5⟩, -, X5, ⟨Lc5, hQ5, l5, y5, z5⟩, st5⟩ := Jvm.LawKit.callS X2 hx (y := y_15) hown (mvT hZ (ww183 hw)) (mvT hZ (ww184 hw)) (mvT hZ (ww185 hw)) (mvT hZ (ww186 hw)) (by decide) hK5 (g := (mkF m 25 #[vR o0, vI 34, vR b2] [(.int 34), (.int 16), (.int 0), (.ref b2), (.int 0), (.ref o0)])) rfl (by rw [hml]; rfl) (argsL := [(.int 16), (.int 34)]) (rest := [(.int 0), (.ref b2), (.int 0), (.ref o0)]) (lenOf pd_9 rfl) rfl (by show 2 * 0 + _ ≤ _; exact Nat.le_of_eq rfl) (B d18_25) (fun _ _ => ⟨rfl, e2, (by decide : 1 + 0 ≤ _), (by decide : 34 + 0 ≤ _)⟩)
  dsimp only [Pt.U, Pt.locs, Pt.cells, Pt.slots] at X5 l5 y5 z5 st5 hQ5
  subst l5 y5 z5
  obtain ⟨rfl, N5q, e5⟩ := hQ5
  have N5 := Fr.app N0 N5q
  obtain ⟨lc5, X5, N5⟩ := own_gen X5 N5
  refine step (fun t k => st5 t k) ?_
  have r6 : (f_min (16 : Int32) (34 : Int32)) = (16 : Int32) := by
    unfold f_min
    rw [if_neg (by decide : ¬ ((34 : Int32) < (16 : Int32)))]
  rw [r6]
  obtain ⟨VA7, le7⟩ := own_p16 f3 hcs
  have VB7 : Arv Z h2 b2 k2 .byte (34 : Int32) [] (.int 0) := V2.pad (fun i => (pad_rep [] (.int 0) 34 i).symm)
  obtain ⟨T7, h7, lc7, X7, e7, N7, Kw7, V7, st7⟩ := own_cpE X5 hx hZ hown (ww187 hw) (ww140 hw) (ww138 hw) (ww139 hw) e5 VA7 VB7 (by decide) (by decide) (by decide) (by rw [le7]; decide) (by rw [le7]; decide) (by rw [le7]; decide) N5 ge_b2 (g := (mkF m 28 #[vR o0, vI 34, vR b2] [(.int 16), (.int 0), (.ref b2), (.int 0), (.ref o0)])) rfl (by rw [hml]; rfl) rfl (B d18_28) (by decide) (W := 0) (by show 2 * 0 + _ ≤ _; exact Nat.le_of_eq rfl) (by decide)
  have K7 : Keep h0 h7 [] := K2.trans Kw7 (allS (Or.inr sz_b2) all0)
  refine step st7 ?_
  have V7b : Arv Z h7 b2 k2 .byte (34 : Int32) (own_by cs) (.int 0) := V7.pad (fun i => (pad_rep (own_by cs) (.int 0) (16 - cs.length) i).symm)
  refine step (fun _ => XS.aloadN X7.here hx rfl (B d18_31) rfl rfl) ?_
  have f8 := (Exa.keep B2 Kw7)
  exact ret (v := some (.ref b2)) X7 (fun h => by rw [Bd.returns] at h; cases h) (fun fs hr => retA X7 hx Bd.returns rfl rfl (B d18_32) hr) e7 ⟨b2, k2, rfl, N7, K7, sz_b2, f8, V7b⟩ (by decide) (by decide)
theorem d13_17 : decode qc13 17 = .ok (.aload_n 0, 1) := by decide +kernel
theorem d13_18 : decode qc13 18 = .ok (.aload_n 0, 1) := by decide +kernel
theorem d13_19 : decode qc13 19 = .ok (.getfield 15, 3) := by decide +kernel
theorem d13_22 : decode qc13 22 = .ok (.aload_n 0, 1) := by decide +kernel
theorem d13_23 : decode qc13 23 = .ok (.iload_n 1, 1) := by decide +kernel
theorem d13_24 : decode qc13 24 = .ok (.invokevirtual 104, 3) := by decide +kernel
theorem ww239 (hw : HW Z a0) : Cond.before (Cond.methodLink cn_0 104 ({ cls := cn_0, name := "newCapacity", desc := "(I)I" } : MethodName)) a0 Z = true := own_w hw 239 rfl
theorem ww243 (hw : HW Z a0) : Cond.before (Cond.code ({ cls := cn_0, name := "newCapacity", desc := "(I)I" } : MethodName) jdk_68_method_10_code 6 (Option.some FieldType.int)) a0 Z = true := own_w hw 243 rfl
theorem pd_11 : parseMethodDescriptor "(I)I" = some ⟨[.int], some .int⟩ := by decide +kernel
theorem ww242 (hw : HW Z a0) : Cond.before (Cond.selects cn_4 ({ cls := cn_0, name := "newCapacity", desc := "(I)I" } : MethodName) ({ cls := cn_0, name := "newCapacity", desc := "(I)I" } : MethodName)) a0 Z = true := own_w hw 242 rfl
theorem ww240 (hw : HW Z a0) : Cond.before (Cond.instanceMethod ({ cls := cn_0, name := "newCapacity", desc := "(I)I" } : MethodName)) a0 Z = true := own_w hw 240 rfl
theorem d13_27 : decode qc13 27 = .ok (.aload_n 0, 1) := by decide +kernel
theorem d13_28 : decode qc13 28 = .ok (.getfield 22, 3) := by decide +kernel
theorem d13_31 : decode qc13 31 = .ok (.ishl, 1) := by decide +kernel
theorem d13_32 : decode qc13 32 = .ok (.invokestatic 108, 3) := by decide +kernel
theorem ww253 (hw : HW Z a0) : Cond.before (Cond.methodLink cn_0 108 ({ cls := cn_9, name := "copyOf", desc := "([BI)[B" } : MethodName)) a0 Z = true := own_w hw 253 rfl
theorem ww255 (hw : HW Z a0) : Cond.before (Cond.code ({ cls := cn_9, name := "copyOf", desc := "([BI)[B" } : MethodName) jdk_65_method_121_code 3 (Option.some (FieldType.array FieldType.byte))) a0 Z = true := own_w hw 255 rfl
theorem ww175 (hw : HW Z a0) : Cond.before (Cond.initialized cn_9) a0 Z = true := own_w hw 175 rfl
theorem pd_12 : parseMethodDescriptor "([BI)[B" = some ⟨[(.array .byte), .int], some (.array .byte)⟩ := by decide +kernel
theorem ww254 (hw : HW Z a0) : Cond.before (Cond.static ({ cls := cn_9, name := "copyOf", desc := "([BI)[B" } : MethodName)) a0 Z = true := own_w hw 254 rfl
theorem d13_35 : decode qc13 35 = .ok (.putfield 15, 3) := by decide +kernel
abbrev rr_ecG : Room := { frames := 3, cells := 1, slots := 34, locals := 48 }
theorem ef_ecG (m : MethodId) (o0 : Addr) (p1 : Int32) : entryFrame m #[(.ref o0), (.int p1)] 3 = mkF m 0 #[vR o0, vI p1, u_] [] := by first | (simp [entryFrame, mkF, argsToLocals, Value.category]; done) | rfl
def Q_ecG (Z : State) (w_0 w_1 : Addr) (w_2 : Int32) (w_3 : Value) (o0 : Addr) (p1 : Int32) (a : Addr) (ka : ClassId) (q cn : Int32) (cs : List Int32) (h0 : Heap) (n0 : Nat) (v : Option Value) (h : Heap) (L : List Loc) : Prop := ∃ a2 : Addr, ∃ k2 : ClassId, ∃ q2 : Int32, v = none ∧ Fr n0 L ∧ Keep h0 h [o0] ∧ Exa Z h o0 cn_4 ∧ Fld Z h o0 cn_0 "value" "[B" (.ref a2) ∧ Fld Z h o0 cn_0 "coder" "B" (.int 0) ∧ Fld Z h o0 cn_0 "count" "I" (.int cn) ∧ Exa Z h a2 "[B" ∧ Arv Z h a2 k2 .byte q2 (own_by cs) (.int 0) ∧ own_eg n0 h0.size a a2 q2 p1
theorem rm_ecG (l : Launch) (Z : State) (a0 : Array Value) (hw : HW Z a0) (ws : List Jvm.Cond) (w_0 w_1 : Addr) (w_2 : Int32) (w_3 : Value) (o0 : Addr) (p1 : Int32) (a : Addr) (ka : ClassId) (q cn : Int32) (cs : List Int32) (h0 : Heap) (n0 : Nat) (Z0 : n0 ≤ h0.size) (ST : own_St Z w_0 w_1 w_2 w_3) (O0 : Old Z n0 h0) (Eb : Exa Z h0 o0 cn_4) (Fbv : Fld Z h0 o0 cn_0 "value" "[B" (.ref a)) (Fbc : Fld Z h0 o0 cn_0 "coder" "B" (.int 0)) (Fbn : Fld Z h0 o0 cn_0 "count" "I" (.int cn)) (Vb : Arv Z h0 a ka .byte q (own_by cs) (.int 0)) (Ea : Exa Z h0 a "[B") (hsb : own_sbp cn q cs) (geo : n0 ≤ o0) (gea : n0 ≤ a) (hlim : ¬ p1 < 0 ∧ ¬ (33 : Int32) < p1) :
    own_Met l y_13 jdk_68_method_9_code 3 none ws rr_ecG Z #[(.ref o0), (.int p1)] h0 (Q_ecG Z w_0 w_1 w_2 w_3 o0 p1 a ka q cn cs h0 n0) := by
  refine MetFree.of_bodySF (plainFor_of_name pn_3) hisR ?_
  intro p e s m args below meth c s₁ Bd hml0 hP hK
  obtain ⟨rfl, hZ, hh⟩ := hP
  have hx := Bd.exec
  have hby := Bd.bytes
  have B := @hb _ _ hby
  have hml : c.maxLocals = 3 := hml0
  have hown : s.vm.findClass cn_0 = some m.cls := findClass_of_methodNamed Bd.named
  have X0 : Stand p l e rr_ecG s m #[(.ref o0), (.int p1)] below meth c s₁ [] 0 0 := Stand.of_body Bd
  have e0 : s₁.heap = h0 := by rw [← hh, Bd.state]; rfl
  have N0 := Fr.nil n0
  have K0 : Keep h0 h0 [o0] := Keep.refl _ _
  obtain ⟨G, step, ret, fin⟩ := own_openX X0 (rr_ecG.cells) (rr_ecG.slots) (Q_ecG Z w_0 w_1 w_2 w_3 o0 p1 a ka q cn cs h0 n0) Bd.notSynchronized
  refine fin (g := entryFrame m #[(.ref o0), (.int p1)] 3) ?_
  rw [ef_ecG m o0 p1]
  refine step (fun _ => XS.aloadN X0.here hx rfl (B d13_0) rfl rfl) ?_
  obtain ⟨T1, X1, e1, st1⟩ := getF X0 hx hZ hown (host := "") (Or.inl (ww90 hw)) Via.refl e0 Fbv (g := (mkF m 1 #[vR o0, vI p1, u_] [(.ref o0)])) rfl rfl (B d13_1)
  refine step st1 ?_
  have q2 := own_len X1 hx hZ e1 Vb (g := (mkF m 4 #[vR o0, vI p1, u_] [(.ref a)])) rfl rfl (B d13_4)
  refine step q2 ?_
  refine step (fun _ => XS.aloadN X1.here hx rfl (B d13_5) rfl rfl) ?_
  obtain ⟨T3, X3, e3, st3⟩ := getF X1 hx hZ hown (host := "") (Or.inl (ww92 hw)) Via.refl e1 Fbc (g := (mkF m 6 #[vR o0, vI p1, u_] [(.ref o0), (.int q)])) rfl rfl (B d13_6)
  refine step st3 ?_
  refine step (fun _ => XS.ishr X3.here hx rfl (B d13_9) rfl) ?_
  show G T3 (mkF m 10 #[vR o0, vI p1, u_] [(.int (q >>> ((0 : Int32) &&& 31)))])
  rw [own_shr0]
  refine step (fun _ => XS.istoreN X3.here hx rfl (B d13_10) rfl (l' := #[vR o0, vI p1, vI q]) rfl) ?_
  refine step (fun _ => XS.iloadN X3.here hx rfl (B d13_11) rfl) ?_
  refine step (fun _ => XS.iloadN X3.here hx rfl (B d13_12) rfl) ?_
  refine step (fun _ => XS.isub X3.here hx rfl (B d13_13) rfl) ?_
  by_cases hc4 : (0 : Int32) < (p1 - q)
  · skip
    refine step (fun _ => XS.ifNo X3.here hx rfl (B d13_14) rfl ((if0 _ _).trans (tlt hc4).2.2.2)) ?_
    obtain rfl : q = (16 : Int32) := own_q16 hsb hlim hc4
    have hcs16 : cs.length ≤ 16 := hsb.2.2.2
    refine step (fun _ => XS.aloadN X3.here hx rfl (B d13_17) rfl rfl) ?_
    show G T3 (mkF m 18 #[vR o0, vI p1, vI 16] [(.ref o0)])
    refine step (fun _ => XS.aloadN X3.here hx rfl (B d13_18) rfl rfl) ?_
    obtain ⟨T5, X5, e5, st5⟩ := getF X3 hx hZ hown (host := "") (Or.inl (ww90 hw)) Via.refl e3 Fbv (g := (mkF m 19 #[vR o0, vI p1, vI 16] [(.ref o0), (.ref o0)])) rfl rfl (B d13_19)
    refine step st5 ?_
    refine step (fun _ => XS.aloadN X5.here hx rfl (B d13_22) rfl rfl) ?_
    refine step (fun _ => XS.iloadN X5.here hx rfl (B d13_23) rfl) ?_
    have hK6 := (backOf (R := rr_ecG) (p := p) (e := e) (below := below) (s := s) (args := #[(.ref o0), (.int p1)]) (len := 3) (W := 2) (rm_nc l Z a0 hw [] w_0 w_1 w_2 w_3 o0 p1 a ka cs h0 n0 (own_old_le O0) ST O0 Eb Fbv Fbc Vb hcs16 hlim) hZ (ww243 hw) (ww86 hw) (by decide) (by decide))
    obtain ⟨cq6, kq6, q6a, q6b, q6c⟩ := isOf hZ e5 Eb
    obtain ⟨_, _, ⟨T6, L6, k6, n6⟩, -, X6, ⟨Lc6, hQ6, l6, y6, z6⟩, st6⟩ := X5.virtualBack hx (y := y_17) (z := y_17) hown (mvT hZ (ww239 hw)) (mvT hZ (own_decl (ww240 hw) (ww243 hw))) (notFace_of_selects (args := #[]) (mvT hZ (ww242 hw))) (mvT hZ (ww242 hw)) (mvT hZ (ww240 hw)) (by decide) hK6 q6a q6c (g := (mkF m 24 #[vR o0, vI p1, vI 16] [(.int p1), (.ref o0), (.ref a), (.ref o0)])) rfl (by rw [hml]; rfl) (Steps.refl _) (argsL := [(.int p1)]) (rest := [(.ref a), (.ref o0)]) (lenOf pd_11 rfl) rfl (by show 2 * 0 + _ ≤ _; exact Nat.le_of_eq rfl) (B d13_24) (fun _ _ => ⟨rfl, e5, (by decide : 0 + 0 ≤ _), (by decide : 0 + 0 ≤ _)⟩)
    dsimp only [Pt.U, Pt.locs, Pt.cells, Pt.slots] at X6 l6 y6 z6 st6 hQ6
    subst l6 y6 z6
    obtain ⟨rfl, N6q, e6⟩ := hQ6
    have N6 := Fr.app N0 N6q
    obtain ⟨lc6, X6, N6⟩ := own_gen X6 N6
    refine step (fun t k => st6.trans k) ?_
    have r7 : (f_nc w_0 w_1 w_2 w_3 o0 p1 a ka cs) = (34 : Int32) := rfl
    rw [r7]
    show G T6 (mkF m 27 #[vR o0, vI p1, vI 16] [(.int 34), (.ref a), (.ref o0)])
    obtain ⟨z34, hz34⟩ := own_ex (34 : Int32)
    rw [← hz34]
    refine step (fun _ => XS.aloadN X6.here hx rfl (B d13_27) rfl rfl) ?_
    obtain ⟨T8, X8, e8, st8⟩ := getF X6 hx hZ hown (host := "") (Or.inl (ww92 hw)) Via.refl e6 Fbc (g := (mkF m 28 #[vR o0, vI p1, vI 16] [(.ref o0), (.int z34), (.ref a), (.ref o0)])) rfl rfl (B d13_28)
    refine step st8 ?_
    refine step (fun _ => XS.ishl X8.here hx rfl (B d13_31) rfl) ?_
    show G T8 (mkF m 32 #[vR o0, vI p1, vI 16] [(.int (z34 <<< ((0 : Int32) &&& 31))), (.ref a), (.ref o0)])
    rw [own_shl0]
    show G T8 (mkF m 32 #[vR o0, vI p1, vI 16] [(.int z34), (.ref a), (.ref o0)])
    rw [hz34]
    have hK9 := (backOf (R := rr_ecG) (p := p) (e := e) (below := below) (s := s) (args := #[(.ref o0), (.int p1)]) (len := 3) (W := 1) (rm_cof l Z a0 hw [] w_0 w_1 w_2 w_3 a ka cs h0 n0 (own_old_le O0) ST O0 Vb hcs16) hZ (ww255 hw) (ww175 hw) (by decide) (by decide))
    obtain ⟨_, _, ⟨T9, L9, k9, n9⟩, -, X9, ⟨Lc9, hQ9, l9, y9, z9⟩, st9⟩ := Jvm.LawKit.callS X8 hx (y := y_18) hown (mvT hZ (ww253 hw)) (mvT hZ (ww254 hw)) (mvT hZ (ww175 hw)) (mvT hZ (ww255 hw)) (by decide) hK9 (g := (mkF m 32 #[vR o0, vI p1, vI 16] [(.int 34), (.ref a), (.ref o0)])) rfl (by rw [hml]; rfl) (argsL := [(.ref a), (.int 34)]) (rest := [(.ref o0)]) (lenOf pd_12 rfl) rfl (by show 2 * 0 + _ ≤ _; exact Nat.le_of_eq rfl) (B d13_32) (fun _ _ => ⟨rfl, e8, (by decide : 0 + 1 ≤ _), (by decide : 0 + 34 ≤ _)⟩)
    dsimp only [Pt.U, Pt.locs, Pt.cells, Pt.slots] at X9 l9 y9 z9 st9 hQ9
    subst l9 y9 z9
    obtain ⟨b9, kb_9, rfl, N9q, K9q, Y9_0, Y9_1, Y9_2⟩ := hQ9
    have N9 := Fr.app N6 N9q
    obtain ⟨lc9, X9, N9⟩ := own_gen X9 N9
    have K9 : Keep h0 T9.heap [o0] := K0.trans K9q all0
    have ge_b9 : n0 ≤ b9 := Nat.le_trans (own_old_le O0) Y9_0
    have sz_b9 : h0.size ≤ b9 := Nat.le_trans K0.1 Y9_0
    have lt_o0_b9 : o0 < b9 := Nat.lt_of_lt_of_le Eb.lt Y9_0
    refine step (fun t k => st9 t k) ?_
    have f11 := (Fld.keep Fbv K9q nin0)
    have f12 := (Exa.keep Eb K9q)
    obtain ⟨T10, h10, X10, e10, W10, st10⟩ := putF X9 hx hZ hown (host := "") (Or.inl (ww90 hw)) Via.refl rfl f11 f12 (Or.inl (ww91 hw)) (ww77 hw) (ty := (.array .byte)) (by decide) rfl rfl (g := (mkF m 35 #[vR o0, vI p1, vI 16] [(.ref b9), (.ref o0)])) rfl rfl (B d13_35)
    have F10 : Fld Z h10 o0 cn_0 "value" "[B" (.ref b9) := Fld.same W10 f11
    have N10 := Fr.snoc X10 N9 geo
    obtain ⟨lc10, X10, N10⟩ := own_gen X10 N10
    have K10 : Keep h0 h10 [o0] := K9.wr W10 (Or.inl (List.mem_of_getElem? (i := 0) rfl))
    refine step st10 ?_
    have f13 := (Exa.wr W10 f12)
    have f14 := (Fld.other W10 (Fld.keep Fbc K9q nin0) (Or.inr (slot_ne (Or.inl (ww93 hw)) (Or.inl (ww91 hw)) (by decide) (t := .byte) (t' := (.array .byte)) (by decide) (by decide))))
    have f15 := (Fld.other W10 (Fld.keep Fbn K9q nin0) (Or.inr (slot_ne (Or.inl (ww115 hw)) (Or.inl (ww91 hw)) (by decide) (t := .int) (t' := (.array .byte)) (by decide) (by decide))))
    have f16 := (Exa.wr W10 Y9_1)
    have f17 := (Arv.other Y9_2 W10 (Nat.ne_of_gt lt_o0_b9))
    exact ret (v := none) X10 (fun _ => rfl) (fun fs hr => X10.returnOut hx Bd.returns (B d13_38) hr) e10 ⟨b9, kb_9, (34 : Int32), rfl, N10, K10, f13, F10, f14, f15, f16, f17, ⟨⟨ge_b9, Or.inr sz_b9⟩, Or.inr rfl, own_l34 hlim⟩⟩ (by decide) (by decide)
  · skip
    refine step (fun _ => XS.ifYes X3.here hx rfl (pc0 := 14) (pc' := 38) rfl (B d13_14) rfl ((if0 _ _).trans (flt hc4).2.2.2) (by decide) (by decide)) ?_
    exact ret (v := none) X3 (fun _ => rfl) (fun fs hr => X3.returnOut hx Bd.returns (B d13_38) hr) e3 ⟨a, ka, q, rfl, N0, K0, Eb, Fbv, Fbc, Fbn, Ea, Vb, ⟨⟨gea, Or.inl rfl⟩, hsb.2.2.1, own_ngle hsb hlim hc4⟩⟩ (by decide) (by decide)
theorem d19_0 : decode qc19 0 = .ok (.getstatic 18, 3) := by decide +kernel
theorem d19_3 : decode qc19 3 = .ok (.ifCond .eq 18, 3) := by decide +kernel
theorem d19_6 : decode qc19 6 = .ok (.aload_n 0, 1) := by decide +kernel
theorem d19_7 : decode qc19 7 = .ok (.getfield 22, 3) := by decide +kernel
theorem d19_10 : decode qc19 10 = .ok (.aload_n 1, 1) := by decide +kernel
theorem d19_11 : decode qc19 11 = .ok (.invokevirtual 40, 3) := by decide +kernel
theorem ww131 (hw : HW Z a0) : Cond.before (Cond.methodLink cn_0 40 ({ cls := cn_2, name := "coder", desc := "()B" } : MethodName)) a0 Z = true := own_w hw 131 rfl
theorem d19_14 : decode qc19 14 = .ok (.if_icmp .eq 7, 3) := by decide +kernel
theorem d19_21 : decode qc19 21 = .ok (.return_, 1) := by decide +kernel
abbrev rr_inf : Room := { frames := 1, cells := 0, slots := 0, locals := 13 }
abbrev y_19 : MethodName := ⟨cn_0, "inflateIfNeededFor", cn_26⟩
theorem ef_inf (m : MethodId) (o0 o1 : Addr) : entryFrame m #[(.ref o0), (.ref o1)] 2 = mkF m 0 #[vR o0, vR o1] [] := by first | (simp [entryFrame, mkF, argsToLocals, Value.category]; done) | rfl
def Q_inf (Z : State) (w_0 w_1 : Addr) (w_2 : Int32) (w_3 : Value) (o0 o1 : Addr) (h0 : Heap) (n0 : Nat) (v : Option Value) (h : Heap) (L : List Loc) : Prop := v = none ∧ Fr n0 L ∧ h = h0
theorem rm_inf (l : Launch) (Z : State) (a0 : Array Value) (hw : HW Z a0) (ws : List Jvm.Cond) (w_0 w_1 : Addr) (w_2 : Int32) (w_3 : Value) (o0 o1 : Addr) (h0 : Heap) (n0 : Nat) (Z0 : n0 ≤ h0.size) (ST : own_St Z w_0 w_1 w_2 w_3) (O0 : Old Z n0 h0) (Fbc : Fld Z h0 o0 cn_0 "coder" "B" (.int 0)) (Es : Exa Z h0 o1 cn_2) (Fc : Fld Z h0 o1 cn_2 "coder" "B" (.int 0)) :
    own_Met l y_19 jdk_68_method_71_code 2 none ws rr_inf Z #[(.ref o0), (.ref o1)] h0 (Q_inf Z w_0 w_1 w_2 w_3 o0 o1 h0 n0) := by
  refine MetFree.of_bodySF (plainFor_of_name pn_3) hisR ?_
  intro p e s m args below meth c s₁ Bd hml0 hP hK
  obtain ⟨rfl, hZ, hh⟩ := hP
  have hx := Bd.exec
  have hby := Bd.bytes
  have B := @hb _ _ hby
  have hml : c.maxLocals = 2 := hml0
  have hown : s.vm.findClass cn_0 = some m.cls := findClass_of_methodNamed Bd.named
  have X0 : Stand p l e rr_inf s m #[(.ref o0), (.ref o1)] below meth c s₁ [] 0 0 := Stand.of_body Bd
  have e0 : s₁.heap = h0 := by rw [← hh, Bd.state]; rfl
  have N0 := Fr.nil n0
  obtain ⟨G, step, ret, fin⟩ := own_openX X0 (rr_inf.cells) (rr_inf.slots) (Q_inf Z w_0 w_1 w_2 w_3 o0 o1 h0 n0) Bd.notSynchronized
  refine fin (g := entryFrame m #[(.ref o0), (.ref o1)] 2) ?_
  rw [ef_inf m o0 o1]
  obtain ⟨T1, X1, e1, st1⟩ := getS2 X0 hx hZ hown (host := "") (Or.inl (ww89 hw)) Via.refl e0 (Sta.ext O0.2 ST.k4) (g := (mkF m 0 #[vR o0, vR o1] [])) rfl (B d19_0)
  refine step st1 ?_
  refine step (fun _ => XS.ifNo X1.here hx rfl (B d19_3) rfl ((if0 _ _).trans (feq ST.k7).1)) ?_
  refine step (fun _ => XS.aloadN X1.here hx rfl (B d19_6) rfl rfl) ?_
  obtain ⟨T2, X2, e2, st2⟩ := getF X1 hx hZ hown (host := "") (Or.inl (ww92 hw)) Via.refl e1 Fbc (g := (mkF m 7 #[vR o0, vR o1] [(.ref o0)])) rfl rfl (B d19_7)
  refine step st2 ?_
  refine step (fun _ => XS.aloadN X2.here hx rfl (B d19_10) rfl rfl) ?_
  have hK3 := (backOf (R := rr_inf) (p := p) (e := e) (below := below) (s := s) (args := #[(.ref o0), (.ref o1)]) (len := 3) (W := 1) (rm_co l Z a0 hw [] w_0 w_1 w_2 w_3 o1 h0 n0 (own_old_le O0) ST O0 Fc) hZ (ww113 hw) (ww2 hw) (by decide) (by decide))
  obtain ⟨cq3, kq3, q3a, q3b, q3c⟩ := isOf hZ e2 Es
  obtain ⟨_, _, ⟨T3, L3, k3, n3⟩, -, X3, ⟨Lc3, hQ3, l3, y3, z3⟩, st3⟩ := X2.virtualBack hx (y := y_0) (z := y_0) hown (mvT hZ (ww131 hw)) (mvT hZ (ww110 hw)) (notFace_of_selects (args := #[]) (mvT hZ (ww112 hw))) (mvT hZ (ww112 hw)) (mvT hZ (ww111 hw)) (by decide) hK3 q3a q3c (g := (mkF m 11 #[vR o0, vR o1] [(.ref o1), (.int 0)])) rfl (by rw [hml]; rfl) (Steps.refl _) (argsL := []) (rest := [(.int 0)]) (lenOf pd_0 rfl) rfl (by show 2 * 0 + _ ≤ _; exact Nat.le_of_eq rfl) (B d19_11) (fun _ _ => ⟨rfl, e2, (by decide : 0 + 0 ≤ _), (by decide : 0 + 0 ≤ _)⟩)
  dsimp only [Pt.U, Pt.locs, Pt.cells, Pt.slots] at X3 l3 y3 z3 st3 hQ3
  subst l3 y3 z3
  obtain ⟨rfl, N3q, e3⟩ := hQ3
  have N3 := Fr.app N0 N3q
  obtain ⟨lc3, X3, N3⟩ := own_gen X3 N3
  refine step (fun t k => st3.trans k) ?_
  have r4 : (f_co w_0 w_1 w_2 w_3 o1) = (0 : Int32) := rfl
  rw [r4]
  refine step (fun _ => XS.icmpYes X3.here hx rfl (pc0 := 14) (pc' := 21) rfl (B d19_14) rfl (teq (by decide : (0 : Int32) = (0 : Int32))).1 (by decide) (by decide)) ?_
  exact ret (v := none) X3 (fun _ => rfl) (fun fs hr => X3.returnOut hx Bd.returns (B d19_21) hr) e3 ⟨rfl, N3, rfl⟩ (by decide) (by decide)
theorem d20_0 : decode qc20 0 = .ok (.aload_n 0, 1) := by decide +kernel
theorem d20_1 : decode qc20 1 = .ok (.invokevirtual 335, 3) := by decide +kernel
theorem d20_4 : decode qc20 4 = .ok (.iload_n 3, 1) := by decide +kernel
theorem d20_5 : decode qc20 5 = .ok (.if_icmp .ne 23, 3) := by decide +kernel
theorem d20_8 : decode qc20 8 = .ok (.aload_n 0, 1) := by decide +kernel
theorem d20_9 : decode qc20 9 = .ok (.getfield 9, 3) := by decide +kernel
theorem d20_12 : decode qc20 12 = .ok (.iconst 0, 1) := by decide +kernel
theorem d20_13 : decode qc20 13 = .ok (.aload_n 1, 1) := by decide +kernel
theorem d20_14 : decode qc20 14 = .ok (.iload_n 2, 1) := by decide +kernel
theorem d20_15 : decode qc20 15 = .ok (.iload_n 3, 1) := by decide +kernel
theorem d20_16 : decode qc20 16 = .ok (.ishl, 1) := by decide +kernel
theorem d20_17 : decode qc20 17 = .ok (.aload_n 0, 1) := by decide +kernel
theorem d20_18 : decode qc20 18 = .ok (.getfield 9, 3) := by decide +kernel
theorem d20_21 : decode qc20 21 = .ok (.arraylength, 1) := by decide +kernel
theorem d20_22 : decode qc20 22 = .ok (.invokestatic 212, 3) := by decide +kernel
theorem ww137 (hw : HW Z a0) : Cond.before (Cond.methodLink cn_2 212 ({ cls := cn_30, name := "arraycopy", desc := "(Ljava/lang/Object;ILjava/lang/Object;II)V" } : MethodName)) a0 Z = true := own_w hw 137 rfl
theorem d20_25 : decode qc20 25 = .ok (.goto 18, 3) := by decide +kernel
theorem d20_43 : decode qc20 43 = .ok (.return_, 1) := by decide +kernel
abbrev rr_gb : Room := { frames := 1, cells := 0, slots := 0, locals := 18 }
abbrev y_20 : MethodName := ⟨cn_2, "getBytes", "([BIB)V"⟩
theorem ef_gb (m : MethodId) (o0 o1 : Addr) (p2 : Int32) : entryFrame m #[(.ref o0), (.ref o1), (.int p2), (.int 0)] 4 = mkF m 0 #[vR o0, vR o1, vI p2, vI 0] [] := by first | (simp [entryFrame, mkF, argsToLocals, Value.category]; done) | rfl
def Q_gb (Z : State) (w_0 w_1 : Addr) (w_2 : Int32) (w_3 : Value) (o0 o1 : Addr) (p2 : Int32) (t : Addr) (kk : ClassId) (n : Int32) (ds : List Int32) (kd : ClassId) (q : Int32) (cs : List Int32) (h0 : Heap) (n0 : Nat) (v : Option Value) (h : Heap) (L : List Loc) : Prop := v = none ∧ Fr n0 L ∧ Keep h0 h [o1] ∧ Arv Z h o1 kd .byte q (own_by (cs ++ ds)) (.int 0)
theorem rm_gb (l : Launch) (Z : State) (a0 : Array Value) (hw : HW Z a0) (ws : List Jvm.Cond) (w_0 w_1 : Addr) (w_2 : Int32) (w_3 : Value) (o0 o1 : Addr) (p2 : Int32) (t : Addr) (kk : ClassId) (n : Int32) (ds : List Int32) (kd : ClassId) (q : Int32) (cs : List Int32) (h0 : Heap) (n0 : Nat) (Z0 : n0 ≤ h0.size) (ST : own_St Z w_0 w_1 w_2 w_3) (O0 : Old Z n0 h0) (Es : Exa Z h0 o0 cn_2) (Fv : Fld Z h0 o0 cn_2 "value" "[B" (.ref t)) (Fc : Fld Z h0 o0 cn_2 "coder" "B" (.int 0)) (Va : Arv Z h0 t kk .byte n (own_by ds) (.int 0)) (hok : own_ok n ds) (Vd : Arv Z h0 o1 kd .byte q (own_by cs) (.int 0)) (gea : n0 ≤ o1) (hfit : own_fit p2 q cs ds) :
    own_Met l y_20 jdk_42_method_147_code 4 none ws rr_gb Z #[(.ref o0), (.ref o1), (.int p2), (.int 0)] h0 (Q_gb Z w_0 w_1 w_2 w_3 o0 o1 p2 t kk n ds kd q cs h0 n0) := by
  refine MetFree.of_bodySF (plainFor_of_name pn_0) hisR ?_
  intro p e s m args below meth c s₁ Bd hml0 hP hK
  obtain ⟨rfl, hZ, hh⟩ := hP
  have hx := Bd.exec
  have hby := Bd.bytes
  have B := @hb _ _ hby
  have hml : c.maxLocals = 4 := hml0
  have hown : s.vm.findClass cn_2 = some m.cls := findClass_of_methodNamed Bd.named
  have X0 : Stand p l e rr_gb s m #[(.ref o0), (.ref o1), (.int p2), (.int 0)] below meth c s₁ [] 0 0 := Stand.of_body Bd
  have e0 : s₁.heap = h0 := by rw [← hh, Bd.state]; rfl
  have N0 := Fr.nil n0
  have K0 : Keep h0 h0 [o1] := Keep.refl _ _
  obtain ⟨G, step, ret, fin⟩ := own_openX X0 (rr_gb.cells) (rr_gb.slots) (Q_gb Z w_0 w_1 w_2 w_3 o0 o1 p2 t kk n ds kd q cs h0 n0) Bd.notSynchronized
  refine fin (g := entryFrame m #[(.ref o0), (.ref o1), (.int p2), (.int 0)] 4) ?_
  rw [ef_gb m o0 o1 p2]
  refine step (fun _ => XS.aloadN X0.here hx rfl (B d20_0) rfl rfl) ?_
  have hK1 := (backOf (R := rr_gb) (p := p) (e := e) (below := below) (s := s) (args := #[(.ref o0), (.ref o1), (.int p2), (.int 0)]) (len := 3) (W := 0) (rm_co l Z a0 hw [] w_0 w_1 w_2 w_3 o0 h0 n0 (own_old_le O0) ST O0 Fc) hZ (ww113 hw) (ww2 hw) (by decide) (by decide))
  obtain ⟨cq1, kq1, q1a, q1b, q1c⟩ := isOf hZ e0 Es
  obtain ⟨_, _, ⟨T1, L1, k1, n1⟩, -, X1, ⟨Lc1, hQ1, l1, y1, z1⟩, st1⟩ := X0.virtualBack hx (y := y_0) (z := y_0) hown (mvT hZ (ww109 hw)) (mvT hZ (ww110 hw)) (notFace_of_selects (args := #[]) (mvT hZ (ww112 hw))) (mvT hZ (ww112 hw)) (mvT hZ (ww111 hw)) (by decide) hK1 q1a q1c (g := (mkF m 1 #[vR o0, vR o1, vI p2, vI 0] [(.ref o0)])) rfl (by rw [hml]; rfl) (Steps.refl _) (argsL := []) (rest := []) (lenOf pd_0 rfl) rfl (by show 2 * 0 + _ ≤ _; exact Nat.le_of_eq rfl) (B d20_1) (fun _ _ => ⟨rfl, e0, (by decide : 0 + 0 ≤ _), (by decide : 0 + 0 ≤ _)⟩)
  dsimp only [Pt.U, Pt.locs, Pt.cells, Pt.slots] at X1 l1 y1 z1 st1 hQ1
  subst l1 y1 z1
  obtain ⟨rfl, N1q, e1⟩ := hQ1
  have N1 := Fr.app N0 N1q
  obtain ⟨lc1, X1, N1⟩ := own_gen X1 N1
  refine step (fun t k => st1.trans k) ?_
  have r2 : (f_co w_0 w_1 w_2 w_3 o0) = (0 : Int32) := rfl
  rw [r2]
  refine step (fun _ => XS.iloadN X1.here hx rfl (B d20_4) rfl) ?_
  refine step (fun _ => XS.icmpNo X1.here hx rfl (B d20_5) rfl (teq (by decide : (0 : Int32) = (0 : Int32))).2) ?_
  refine step (fun _ => XS.aloadN X1.here hx rfl (B d20_8) rfl rfl) ?_
  obtain ⟨T3, X3, e3, st3⟩ := getF X1 hx hZ hown (host := "") (Or.inl (ww22 hw)) Via.refl e1 Fv (g := (mkF m 9 #[vR o0, vR o1, vI p2, vI 0] [(.ref o0)])) rfl rfl (B d20_9)
  refine step st3 ?_
  refine step (fun _ => XS.iconst X3.here hx rfl (B d20_12)) ?_
  refine step (fun _ => XS.aloadN X3.here hx rfl (B d20_13) rfl rfl) ?_
  refine step (fun _ => XS.iloadN X3.here hx rfl (B d20_14) rfl) ?_
  refine step (fun _ => XS.iloadN X3.here hx rfl (B d20_15) rfl) ?_
  refine step (fun _ => XS.ishl X3.here hx rfl (B d20_16) rfl) ?_
  show G T3 (mkF m 17 #[vR o0, vR o1, vI p2, vI 0] [(.int (p2 <<< ((0 : Int32) &&& 31))), (.ref o1), (.int 0), (.ref t)])
  rw [own_shl0]
  refine step (fun _ => XS.aloadN X3.here hx rfl (B d20_17) rfl rfl) ?_
  obtain ⟨T4, X4, e4, st4⟩ := getF X3 hx hZ hown (host := "") (Or.inl (ww22 hw)) Via.refl e3 Fv (g := (mkF m 18 #[vR o0, vR o1, vI p2, vI 0] [(.ref o0), (.int p2), (.ref o1), (.int 0), (.ref t)])) rfl rfl (B d20_18)
  refine step st4 ?_
  have q5 := own_len X4 hx hZ e4 Va (g := (mkF m 21 #[vR o0, vR o1, vI p2, vI 0] [(.ref t), (.int p2), (.ref o1), (.int 0), (.ref t)])) rfl rfl (B d20_21)
  refine step q5 ?_
  obtain ⟨T6, h6, lc6, X6, e6, N6, Kw6, V6, st6⟩ := own_cpE X4 hx hZ hown (ww137 hw) (ww140 hw) (ww138 hw) (ww139 hw) e4 Va Vd hfit.1 (own_okn hok).1 hfit.2.1 (own_okn hok).2 (Nat.le_of_eq (own_okn hok).2.symm) hfit.2.2 N1 gea (g := (mkF m 22 #[vR o0, vR o1, vI p2, vI 0] [(.int n), (.int p2), (.ref o1), (.int 0), (.ref t)])) rfl (by rw [hml]; rfl) rfl (B d20_22) (by decide) (W := 0) (by show 2 * 0 + _ ≤ _; exact Nat.le_of_eq rfl) (by decide)
  have K6 : Keep h0 h6 [o1] := K0.trans Kw6 (allS (Or.inl (List.mem_of_getElem? (i := 0) rfl)) all0)
  refine step st6 ?_
  rw [own_ba] at V6
  refine step (fun _ => XS.goto X6.here hx rfl (pc0 := 25) (pc' := 43) rfl (B d20_25) (by decide) (by decide)) ?_
  exact ret (v := none) X6 (fun _ => rfl) (fun fs hr => X6.returnOut hx Bd.returns (B d20_43) hr) e6 ⟨rfl, N6, K6, V6⟩ (by decide) (by decide)
theorem d21_0 : decode qc21 0 = .ok (.aload_n 0, 1) := by decide +kernel
theorem d21_1 : decode qc21 1 = .ok (.aload_n 2, 1) := by decide +kernel
theorem d21_2 : decode qc21 2 = .ok (.invokevirtual 397, 3) := by decide +kernel
theorem ww126 (hw : HW Z a0) : Cond.before (Cond.methodLink cn_0 397 ({ cls := cn_0, name := "inflateIfNeededFor", desc := cn_26 } : MethodName)) a0 Z = true := own_w hw 126 rfl
theorem ww130 (hw : HW Z a0) : Cond.before (Cond.code ({ cls := cn_0, name := "inflateIfNeededFor", desc := cn_26 } : MethodName) jdk_68_method_71_code 2 (Option.none : Option Jvm.ClassFile.FieldType)) a0 Z = true := own_w hw 130 rfl
theorem pd_13 : parseMethodDescriptor cn_26 = some ⟨[(.object cn_2)], none⟩ := by decide +kernel
theorem ww129 (hw : HW Z a0) : Cond.before (Cond.selects cn_4 ({ cls := cn_0, name := "inflateIfNeededFor", desc := cn_26 } : MethodName) ({ cls := cn_0, name := "inflateIfNeededFor", desc := cn_26 } : MethodName)) a0 Z = true := own_w hw 129 rfl
theorem ww127 (hw : HW Z a0) : Cond.before (Cond.instanceMethod ({ cls := cn_0, name := "inflateIfNeededFor", desc := cn_26 } : MethodName)) a0 Z = true := own_w hw 127 rfl
theorem d21_5 : decode qc21 5 = .ok (.aload_n 2, 1) := by decide +kernel
theorem d21_6 : decode qc21 6 = .ok (.aload_n 0, 1) := by decide +kernel
theorem d21_7 : decode qc21 7 = .ok (.getfield 15, 3) := by decide +kernel
theorem d21_10 : decode qc21 10 = .ok (.iload_n 1, 1) := by decide +kernel
theorem d21_11 : decode qc21 11 = .ok (.aload_n 0, 1) := by decide +kernel
theorem d21_12 : decode qc21 12 = .ok (.getfield 22, 3) := by decide +kernel
theorem d21_15 : decode qc21 15 = .ok (.invokevirtual 399, 3) := by decide +kernel
theorem ww132 (hw : HW Z a0) : Cond.before (Cond.methodLink cn_0 399 ({ cls := cn_2, name := "getBytes", desc := "([BIB)V" } : MethodName)) a0 Z = true := own_w hw 132 rfl
theorem ww135 (hw : HW Z a0) : Cond.before (Cond.selects cn_2 ({ cls := cn_2, name := "getBytes", desc := "([BIB)V" } : MethodName) ({ cls := cn_2, name := "getBytes", desc := "([BIB)V" } : MethodName)) a0 Z = true := own_w hw 135 rfl
theorem ww136 (hw : HW Z a0) : Cond.before (Cond.code ({ cls := cn_2, name := "getBytes", desc := "([BIB)V" } : MethodName) jdk_42_method_147_code 4 (Option.none : Option Jvm.ClassFile.FieldType)) a0 Z = true := own_w hw 136 rfl
theorem pd_14 : parseMethodDescriptor "([BIB)V" = some ⟨[(.array .byte), .int, .byte], none⟩ := by decide +kernel
theorem ww133 (hw : HW Z a0) : Cond.before (Cond.declares ({ cls := cn_2, name := "getBytes", desc := "([BIB)V" } : MethodName)) a0 Z = true := own_w hw 133 rfl
theorem ww134 (hw : HW Z a0) : Cond.before (Cond.instanceMethod ({ cls := cn_2, name := "getBytes", desc := "([BIB)V" } : MethodName)) a0 Z = true := own_w hw 134 rfl
theorem d21_18 : decode qc21 18 = .ok (.return_, 1) := by decide +kernel
abbrev rr_ps : Room := { frames := 2, cells := 0, slots := 0, locals := 33 }
abbrev y_21 : MethodName := ⟨cn_0, "putStringAt", cn_25⟩
theorem ef_ps (m : MethodId) (o0 : Addr) (p1 : Int32) (o2 : Addr) : entryFrame m #[(.ref o0), (.int p1), (.ref o2)] 3 = mkF m 0 #[vR o0, vI p1, vR o2] [] := by first | (simp [entryFrame, mkF, argsToLocals, Value.category]; done) | rfl
def Q_ps (Z : State) (w_0 w_1 : Addr) (w_2 : Int32) (w_3 : Value) (o0 : Addr) (p1 : Int32) (o2 t : Addr) (kk : ClassId) (n : Int32) (ds : List Int32) (a : Addr) (ka : ClassId) (q : Int32) (cs : List Int32) (h0 : Heap) (n0 : Nat) (v : Option Value) (h : Heap) (L : List Loc) : Prop := v = none ∧ Fr n0 L ∧ Keep h0 h [a] ∧ Arv Z h a ka .byte q (own_by (cs ++ ds)) (.int 0)
theorem rm_ps (l : Launch) (Z : State) (a0 : Array Value) (hw : HW Z a0) (ws : List Jvm.Cond) (w_0 w_1 : Addr) (w_2 : Int32) (w_3 : Value) (o0 : Addr) (p1 : Int32) (o2 t : Addr) (kk : ClassId) (n : Int32) (ds : List Int32) (a : Addr) (ka : ClassId) (q : Int32) (cs : List Int32) (h0 : Heap) (n0 : Nat) (Z0 : n0 ≤ h0.size) (ST : own_St Z w_0 w_1 w_2 w_3) (O0 : Old Z n0 h0) (Eb : Exa Z h0 o0 cn_4) (Fbv : Fld Z h0 o0 cn_0 "value" "[B" (.ref a)) (Fbc : Fld Z h0 o0 cn_0 "coder" "B" (.int 0)) (Vb : Arv Z h0 a ka .byte q (own_by cs) (.int 0)) (Es : Exa Z h0 o2 cn_2) (Fv : Fld Z h0 o2 cn_2 "value" "[B" (.ref t)) (Fc : Fld Z h0 o2 cn_2 "coder" "B" (.int 0)) (Va : Arv Z h0 t kk .byte n (own_by ds) (.int 0)) (hok : own_ok n ds) (gea : n0 ≤ a) (hfit : own_fit p1 q cs ds) :
    own_Met l y_21 jdk_68_method_73_code 3 none ws rr_ps Z #[(.ref o0), (.int p1), (.ref o2)] h0 (Q_ps Z w_0 w_1 w_2 w_3 o0 p1 o2 t kk n ds a ka q cs h0 n0) := by
  refine MetFree.of_bodySF (plainFor_of_name pn_3) hisR ?_
  intro p e s m args below meth c s₁ Bd hml0 hP hK
  obtain ⟨rfl, hZ, hh⟩ := hP
  have hx := Bd.exec
  have hby := Bd.bytes
  have B := @hb _ _ hby
  have hml : c.maxLocals = 3 := hml0
  have hown : s.vm.findClass cn_0 = some m.cls := findClass_of_methodNamed Bd.named
  have X0 : Stand p l e rr_ps s m #[(.ref o0), (.int p1), (.ref o2)] below meth c s₁ [] 0 0 := Stand.of_body Bd
  have e0 : s₁.heap = h0 := by rw [← hh, Bd.state]; rfl
  have N0 := Fr.nil n0
  have K0 : Keep h0 h0 [a] := Keep.refl _ _
  obtain ⟨G, step, ret, fin⟩ := own_openX X0 (rr_ps.cells) (rr_ps.slots) (Q_ps Z w_0 w_1 w_2 w_3 o0 p1 o2 t kk n ds a ka q cs h0 n0) Bd.notSynchronized
  refine fin (g := entryFrame m #[(.ref o0), (.int p1), (.ref o2)] 3) ?_
  rw [ef_ps m o0 p1 o2]
  refine step (fun _ => XS.aloadN X0.here hx rfl (B d21_0) rfl rfl) ?_
  refine step (fun _ => XS.aloadN X0.here hx rfl (B d21_1) rfl rfl) ?_
  have hK1 := (backOf (R := rr_ps) (p := p) (e := e) (below := below) (s := s) (args := #[(.ref o0), (.int p1), (.ref o2)]) (len := 3) (W := 0) (rm_inf l Z a0 hw [] w_0 w_1 w_2 w_3 o0 o2 h0 n0 (own_old_le O0) ST O0 Fbc Es Fc) hZ (ww130 hw) (ww86 hw) (by decide) (by decide))
  obtain ⟨cq1, kq1, q1a, q1b, q1c⟩ := isOf hZ e0 Eb
  obtain ⟨_, _, ⟨T1, L1, k1, n1⟩, -, X1, ⟨Lc1, hQ1, l1, y1, z1⟩, st1⟩ := X0.virtualBack hx (y := y_19) (z := y_19) hown (mvT hZ (ww126 hw)) (mvT hZ (own_decl (ww127 hw) (ww130 hw))) (notFace_of_selects (args := #[]) (mvT hZ (ww129 hw))) (mvT hZ (ww129 hw)) (mvT hZ (ww127 hw)) (by decide) hK1 q1a q1c (g := (mkF m 2 #[vR o0, vI p1, vR o2] [(.ref o2), (.ref o0)])) rfl (by rw [hml]; rfl) (Steps.refl _) (argsL := [(.ref o2)]) (rest := []) (lenOf pd_13 rfl) rfl (by show 2 * 0 + _ ≤ _; exact Nat.le_of_eq rfl) (B d21_2) (fun _ _ => ⟨rfl, e0, (by decide : 0 + 0 ≤ _), (by decide : 0 + 0 ≤ _)⟩)
  dsimp only [Pt.U, Pt.locs, Pt.cells, Pt.slots] at X1 l1 y1 z1 st1 hQ1
  subst l1 y1 z1
  obtain ⟨rfl, N1q, e1⟩ := hQ1
  have N1 := Fr.app N0 N1q
  obtain ⟨lc1, X1, N1⟩ := own_gen X1 N1
  refine step (fun t k => st1.trans k) ?_
  refine step (fun _ => XS.aloadN X1.here hx rfl (B d21_5) rfl rfl) ?_
  refine step (fun _ => XS.aloadN X1.here hx rfl (B d21_6) rfl rfl) ?_
  obtain ⟨T2, X2, e2, st2⟩ := getF X1 hx hZ hown (host := "") (Or.inl (ww90 hw)) Via.refl e1 Fbv (g := (mkF m 7 #[vR o0, vI p1, vR o2] [(.ref o0), (.ref o2)])) rfl rfl (B d21_7)
  refine step st2 ?_
  refine step (fun _ => XS.iloadN X2.here hx rfl (B d21_10) rfl) ?_
  refine step (fun _ => XS.aloadN X2.here hx rfl (B d21_11) rfl rfl) ?_
  obtain ⟨T3, X3, e3, st3⟩ := getF X2 hx hZ hown (host := "") (Or.inl (ww92 hw)) Via.refl e2 Fbc (g := (mkF m 12 #[vR o0, vI p1, vR o2] [(.ref o0), (.int p1), (.ref a), (.ref o2)])) rfl rfl (B d21_12)
  refine step st3 ?_
  have hK4 := (backOf (R := rr_ps) (p := p) (e := e) (below := below) (s := s) (args := #[(.ref o0), (.int p1), (.ref o2)]) (len := 3) (W := 0) (rm_gb l Z a0 hw [] w_0 w_1 w_2 w_3 o2 a p1 t kk n ds ka q cs h0 n0 (own_old_le O0) ST O0 Es Fv Fc Va hok Vb gea hfit) hZ (ww136 hw) (ww2 hw) (by decide) (by decide))
  obtain ⟨cq4, kq4, q4a, q4b, q4c⟩ := isOf hZ e3 Es
  obtain ⟨_, _, ⟨T4, L4, k4, n4⟩, -, X4, ⟨Lc4, hQ4, l4, y4, z4⟩, st4⟩ := X3.virtualBack hx (y := y_20) (z := y_20) hown (mvT hZ (ww132 hw)) (mvT hZ (ww133 hw)) (notFace_of_selects (args := #[]) (mvT hZ (ww135 hw))) (mvT hZ (ww135 hw)) (mvT hZ (ww134 hw)) (by decide) hK4 q4a q4c (g := (mkF m 15 #[vR o0, vI p1, vR o2] [(.int 0), (.int p1), (.ref a), (.ref o2)])) rfl (by rw [hml]; rfl) (Steps.refl _) (argsL := [(.ref a), (.int p1), (.int 0)]) (rest := []) (lenOf pd_14 rfl) rfl (by show 2 * 0 + _ ≤ _; exact Nat.le_of_eq rfl) (B d21_15) (fun _ _ => ⟨rfl, e3, (by decide : 0 + 0 ≤ _), (by decide : 0 + 0 ≤ _)⟩)
  dsimp only [Pt.U, Pt.locs, Pt.cells, Pt.slots] at X4 l4 y4 z4 st4 hQ4
  subst l4 y4 z4
  obtain ⟨rfl, N4q, K4q, Y4_0⟩ := hQ4
  have N4 := Fr.app N1 N4q
  obtain ⟨lc4, X4, N4⟩ := own_gen X4 N4
  have K4 : Keep h0 T4.heap [a] := K0.trans K4q (allS (Or.inl (List.mem_of_getElem? (i := 0) rfl)) all0)
  refine step (fun t k => st4.trans k) ?_
  exact ret (v := none) X4 (fun _ => rfl) (fun fs hr => X4.returnOut hx Bd.returns (B d21_18) hr) rfl ⟨rfl, N4, K4, Y4_0⟩ (by decide) (by decide)
theorem d22_0 : decode qc22 0 = .ok (.aload_n 1, 1) := by decide +kernel
theorem d22_1 : decode qc22 1 = .ok (.ifnonnull 8, 3) := by decide +kernel
theorem d22_9 : decode qc22 9 = .ok (.aload_n 1, 1) := by decide +kernel
theorem d22_10 : decode qc22 10 = .ok (.invokevirtual 32, 3) := by decide +kernel
theorem ww104 (hw : HW Z a0) : Cond.before (Cond.methodLink cn_0 32 ({ cls := cn_2, name := "length", desc := "()I" } : MethodName)) a0 Z = true := own_w hw 104 rfl
theorem ww107 (hw : HW Z a0) : Cond.before (Cond.selects cn_2 ({ cls := cn_2, name := "length", desc := "()I" } : MethodName) ({ cls := cn_2, name := "length", desc := "()I" } : MethodName)) a0 Z = true := own_w hw 107 rfl
theorem ww108 (hw : HW Z a0) : Cond.before (Cond.code ({ cls := cn_2, name := "length", desc := "()I" } : MethodName) jdk_42_method_54_code 1 (Option.some FieldType.int)) a0 Z = true := own_w hw 108 rfl
theorem pd_15 : parseMethodDescriptor "()I" = some ⟨[], some .int⟩ := by decide +kernel
theorem ww105 (hw : HW Z a0) : Cond.before (Cond.declares ({ cls := cn_2, name := "length", desc := "()I" } : MethodName)) a0 Z = true := own_w hw 105 rfl
theorem ww106 (hw : HW Z a0) : Cond.before (Cond.instanceMethod ({ cls := cn_2, name := "length", desc := "()I" } : MethodName)) a0 Z = true := own_w hw 106 rfl
theorem d22_13 : decode qc22 13 = .ok (.istore_n 2, 1) := by decide +kernel
theorem d22_14 : decode qc22 14 = .ok (.aload_n 0, 1) := by decide +kernel
theorem d22_15 : decode qc22 15 = .ok (.aload_n 0, 1) := by decide +kernel
theorem d22_16 : decode qc22 16 = .ok (.getfield 79, 3) := by decide +kernel
theorem ww114 (hw : HW Z a0) : Cond.before (Cond.fieldLink cn_0 79 cn_0 "count" "I") a0 Z = true := own_w hw 114 rfl
theorem d22_19 : decode qc22 19 = .ok (.iload_n 2, 1) := by decide +kernel
theorem d22_20 : decode qc22 20 = .ok (.iadd, 1) := by decide +kernel
theorem d22_21 : decode qc22 21 = .ok (.invokevirtual 100, 3) := by decide +kernel
theorem ww116 (hw : HW Z a0) : Cond.before (Cond.methodLink cn_0 100 ({ cls := cn_0, name := "ensureCapacityInternal", desc := "(I)V" } : MethodName)) a0 Z = true := own_w hw 116 rfl
theorem ww120 (hw : HW Z a0) : Cond.before (Cond.code ({ cls := cn_0, name := "ensureCapacityInternal", desc := "(I)V" } : MethodName) jdk_68_method_9_code 3 (Option.none : Option Jvm.ClassFile.FieldType)) a0 Z = true := own_w hw 120 rfl
theorem ww119 (hw : HW Z a0) : Cond.before (Cond.selects cn_4 ({ cls := cn_0, name := "ensureCapacityInternal", desc := "(I)V" } : MethodName) ({ cls := cn_0, name := "ensureCapacityInternal", desc := "(I)V" } : MethodName)) a0 Z = true := own_w hw 119 rfl
theorem ww117 (hw : HW Z a0) : Cond.before (Cond.instanceMethod ({ cls := cn_0, name := "ensureCapacityInternal", desc := "(I)V" } : MethodName)) a0 Z = true := own_w hw 117 rfl
theorem d22_24 : decode qc22 24 = .ok (.aload_n 0, 1) := by decide +kernel
theorem d22_25 : decode qc22 25 = .ok (.aload_n 0, 1) := by decide +kernel
theorem d22_26 : decode qc22 26 = .ok (.getfield 79, 3) := by decide +kernel
theorem d22_29 : decode qc22 29 = .ok (.aload_n 1, 1) := by decide +kernel
theorem d22_30 : decode qc22 30 = .ok (.invokevirtual 208, 3) := by decide +kernel
theorem ww121 (hw : HW Z a0) : Cond.before (Cond.methodLink cn_0 208 ({ cls := cn_0, name := "putStringAt", desc := cn_25 } : MethodName)) a0 Z = true := own_w hw 121 rfl
theorem ww125 (hw : HW Z a0) : Cond.before (Cond.code ({ cls := cn_0, name := "putStringAt", desc := cn_25 } : MethodName) jdk_68_method_73_code 3 (Option.none : Option Jvm.ClassFile.FieldType)) a0 Z = true := own_w hw 125 rfl
theorem pd_16 : parseMethodDescriptor cn_25 = some ⟨[.int, (.object cn_2)], none⟩ := by decide +kernel
theorem ww124 (hw : HW Z a0) : Cond.before (Cond.selects cn_4 ({ cls := cn_0, name := "putStringAt", desc := cn_25 } : MethodName) ({ cls := cn_0, name := "putStringAt", desc := cn_25 } : MethodName)) a0 Z = true := own_w hw 124 rfl
theorem ww122 (hw : HW Z a0) : Cond.before (Cond.instanceMethod ({ cls := cn_0, name := "putStringAt", desc := cn_25 } : MethodName)) a0 Z = true := own_w hw 122 rfl
theorem d22_33 : decode qc22 33 = .ok (.aload_n 0, 1) := by decide +kernel
theorem d22_34 : decode qc22 34 = .ok (.dup, 1) := by decide +kernel
theorem d22_35 : decode qc22 35 = .ok (.getfield 79, 3) := by decide +kernel
theorem d22_38 : decode qc22 38 = .ok (.iload_n 2, 1) := by decide +kernel
theorem d22_39 : decode qc22 39 = .ok (.iadd, 1) := by decide +kernel
theorem d22_40 : decode qc22 40 = .ok (.putfield 79, 3) := by decide +kernel
theorem d22_43 : decode qc22 43 = .ok (.aload_n 0, 1) := by decide +kernel
theorem d22_44 : decode qc22 44 = .ok (.areturn, 1) := by decide +kernel
abbrev rr_apN : Room := { frames := 3, cells := 0, slots := 0, locals := 47 }
abbrev y_22 : MethodName := ⟨cn_0, "append", cn_13⟩
theorem ef_apN (m : MethodId) (o0 o1 : Addr) : entryFrame m #[(.ref o0), (.ref o1)] 3 = mkF m 0 #[vR o0, vR o1, u_] [] := by first | (simp [entryFrame, mkF, argsToLocals, Value.category]; done) | rfl
def Q_apN (Z : State) (w_0 w_1 : Addr) (w_2 : Int32) (w_3 : Value) (o0 o1 t : Addr) (kk : ClassId) (n : Int32) (ds : List Int32) (a : Addr) (ka : ClassId) (q cn : Int32) (cs : List Int32) (h0 : Heap) (n0 : Nat) (v : Option Value) (h : Heap) (L : List Loc) : Prop := v = some (.ref o0) ∧ Fr n0 L ∧ Keep h0 h [o0, a] ∧ Exa Z h o0 cn_4 ∧ Fld Z h o0 cn_0 "value" "[B" (.ref a) ∧ Fld Z h o0 cn_0 "coder" "B" (.int 0) ∧ Fld Z h o0 cn_0 "count" "I" (.int (cn + n)) ∧ Exa Z h a "[B" ∧ Arv Z h a ka .byte q (own_by (cs ++ ds)) (.int 0) ∧ own_sbp (cn + n) q (cs ++ ds)
theorem rm_apN (l : Launch) (Z : State) (a0 : Array Value) (hw : HW Z a0) (ws : List Jvm.Cond) (w_0 w_1 : Addr) (w_2 : Int32) (w_3 : Value) (o0 o1 t : Addr) (kk : ClassId) (n : Int32) (ds : List Int32) (a : Addr) (ka : ClassId) (q cn : Int32) (cs : List Int32) (h0 : Heap) (n0 : Nat) (Z0 : n0 ≤ h0.size) (ST : own_St Z w_0 w_1 w_2 w_3) (O0 : Old Z n0 h0) (Eb : Exa Z h0 o0 cn_4) (Fbv : Fld Z h0 o0 cn_0 "value" "[B" (.ref a)) (Fbc : Fld Z h0 o0 cn_0 "coder" "B" (.int 0)) (Fbn : Fld Z h0 o0 cn_0 "count" "I" (.int cn)) (Vb : Arv Z h0 a ka .byte q (own_by cs) (.int 0)) (Ea : Exa Z h0 a "[B") (hsb : own_sbp cn q cs) (Es : Exa Z h0 o1 cn_2) (Fv : Fld Z h0 o1 cn_2 "value" "[B" (.ref t)) (Fc : Fld Z h0 o1 cn_2 "coder" "B" (.int 0)) (Va : Arv Z h0 t kk .byte n (own_by ds) (.int 0)) (hok : own_ok n ds) (geo : n0 ≤ o0) (gea : n0 ≤ a) (hfit : cs.length + ds.length ≤ q.toNatClampNeg) :
    own_Met l y_22 jdk_68_method_22_code 3 (some (.object cn_0)) ws rr_apN Z #[(.ref o0), (.ref o1)] h0 (Q_apN Z w_0 w_1 w_2 w_3 o0 o1 t kk n ds a ka q cn cs h0 n0) := by
  refine MetFree.of_bodySF (plainFor_of_name pn_3) hisR ?_
  intro p e s m args below meth c s₁ Bd hml0 hP hK
  obtain ⟨rfl, hZ, hh⟩ := hP
  have hx := Bd.exec
  have hby := Bd.bytes
  have B := @hb _ _ hby
  have hml : c.maxLocals = 3 := hml0
  have hown : s.vm.findClass cn_0 = some m.cls := findClass_of_methodNamed Bd.named
  have X0 : Stand p l e rr_apN s m #[(.ref o0), (.ref o1)] below meth c s₁ [] 0 0 := Stand.of_body Bd
  have e0 : s₁.heap = h0 := by rw [← hh, Bd.state]; rfl
  have N0 := Fr.nil n0
  have K0 : Keep h0 h0 [o0, a] := Keep.refl _ _
  obtain ⟨G, step, ret, fin⟩ := own_openX X0 (rr_apN.cells) (rr_apN.slots) (Q_apN Z w_0 w_1 w_2 w_3 o0 o1 t kk n ds a ka q cn cs h0 n0) Bd.notSynchronized
  refine fin (g := entryFrame m #[(.ref o0), (.ref o1)] 3) ?_
  rw [ef_apN m o0 o1]
  have ne_o0_a : o0 ≠ a := own_ne_arv Eb (ww77 hw) Vb
  refine step (fun _ => XS.aloadN X0.here hx rfl (B d22_0) rfl rfl) ?_
  refine step (fun _ => XS.ifnonnullYes X0.here hx rfl (pc0 := 1) (pc' := 9) rfl (B d22_1) rfl (by decide) (by decide)) ?_
  refine step (fun _ => XS.aloadN X0.here hx rfl (B d22_9) rfl rfl) ?_
  have hK1 := (backOf (R := rr_apN) (p := p) (e := e) (below := below) (s := s) (args := #[(.ref o0), (.ref o1)]) (len := 3) (W := 0) (rm_le l Z a0 hw [] w_0 w_1 w_2 w_3 o1 t kk n ds h0 n0 (own_old_le O0) ST O0 Es Fv Fc Va hok) hZ (ww108 hw) (ww2 hw) (by decide) (by decide))
  obtain ⟨cq1, kq1, q1a, q1b, q1c⟩ := isOf hZ e0 Es
  obtain ⟨_, _, ⟨T1, L1, k1, n1⟩, -, X1, ⟨Lc1, hQ1, l1, y1, z1⟩, st1⟩ := X0.virtualBack hx (y := y_1) (z := y_1) hown (mvT hZ (ww104 hw)) (mvT hZ (ww105 hw)) (notFace_of_selects (args := #[]) (mvT hZ (ww107 hw))) (mvT hZ (ww107 hw)) (mvT hZ (ww106 hw)) (by decide) hK1 q1a q1c (g := (mkF m 10 #[vR o0, vR o1, u_] [(.ref o1)])) rfl (by rw [hml]; rfl) (Steps.refl _) (argsL := []) (rest := []) (lenOf pd_15 rfl) rfl (by show 2 * 0 + _ ≤ _; exact Nat.le_of_eq rfl) (B d22_10) (fun _ _ => ⟨rfl, e0, (by decide : 0 + 0 ≤ _), (by decide : 0 + 0 ≤ _)⟩)
  dsimp only [Pt.U, Pt.locs, Pt.cells, Pt.slots] at X1 l1 y1 z1 st1 hQ1
  subst l1 y1 z1
  obtain ⟨rfl, N1q, e1⟩ := hQ1
  have N1 := Fr.app N0 N1q
  obtain ⟨lc1, X1, N1⟩ := own_gen X1 N1
  refine step (fun t k => st1.trans k) ?_
  have r2 : (f_le w_0 w_1 w_2 w_3 o1 t kk n ds) = n := rfl
  rw [r2]
  refine step (fun _ => XS.istoreN X1.here hx rfl (B d22_13) rfl (l' := #[vR o0, vR o1, vI n]) rfl) ?_
  refine step (fun _ => XS.aloadN X1.here hx rfl (B d22_14) rfl rfl) ?_
  refine step (fun _ => XS.aloadN X1.here hx rfl (B d22_15) rfl rfl) ?_
  obtain ⟨T3, X3, e3, st3⟩ := getF X1 hx hZ hown (host := "") (Or.inl (ww114 hw)) Via.refl e1 Fbn (g := (mkF m 16 #[vR o0, vR o1, vI n] [(.ref o0), (.ref o0)])) rfl rfl (B d22_16)
  refine step st3 ?_
  refine step (fun _ => XS.iloadN X3.here hx rfl (B d22_19) rfl) ?_
  refine step (fun _ => XS.iadd X3.here hx rfl (B d22_20) rfl) ?_
  have hK4 := (backOf (R := rr_apN) (p := p) (e := e) (below := below) (s := s) (args := #[(.ref o0), (.ref o1)]) (len := 3) (W := 0) (rm_ecN l Z a0 hw [] w_0 w_1 w_2 w_3 o0 (cn + n) a ka q cn cs h0 n0 (own_old_le O0) ST O0 Eb Fbv Fbc Fbn Vb Ea hsb ((own_nogrow hsb hok hfit) : ¬ ((0 : Int32) < ((cn + n) - q)))) hZ (ww120 hw) (ww86 hw) (by decide) (by decide))
  obtain ⟨cq4, kq4, q4a, q4b, q4c⟩ := isOf hZ e3 Eb
  obtain ⟨_, _, ⟨T4, L4, k4, n4⟩, -, X4, ⟨Lc4, hQ4, l4, y4, z4⟩, st4⟩ := X3.virtualBack hx (y := y_13) (z := y_13) hown (mvT hZ (ww116 hw)) (mvT hZ (own_decl (ww117 hw) (ww120 hw))) (notFace_of_selects (args := #[]) (mvT hZ (ww119 hw))) (mvT hZ (ww119 hw)) (mvT hZ (ww117 hw)) (by decide) hK4 q4a q4c (g := (mkF m 21 #[vR o0, vR o1, vI n] [(.int (cn + n)), (.ref o0)])) rfl (by rw [hml]; rfl) (Steps.refl _) (argsL := [(.int (cn + n))]) (rest := []) (lenOf pd_8 rfl) rfl (by show 2 * 0 + _ ≤ _; exact Nat.le_of_eq rfl) (B d22_21) (fun _ _ => ⟨rfl, e3, (by decide : 0 + 0 ≤ _), (by decide : 0 + 0 ≤ _)⟩)
  dsimp only [Pt.U, Pt.locs, Pt.cells, Pt.slots] at X4 l4 y4 z4 st4 hQ4
  subst l4 y4 z4
  obtain ⟨rfl, N4q, e4⟩ := hQ4
  have N4 := Fr.app N1 N4q
  obtain ⟨lc4, X4, N4⟩ := own_gen X4 N4
  refine step (fun t k => st4.trans k) ?_
  refine step (fun _ => XS.aloadN X4.here hx rfl (B d22_24) rfl rfl) ?_
  refine step (fun _ => XS.aloadN X4.here hx rfl (B d22_25) rfl rfl) ?_
  obtain ⟨T5, X5, e5, st5⟩ := getF X4 hx hZ hown (host := "") (Or.inl (ww114 hw)) Via.refl e4 Fbn (g := (mkF m 26 #[vR o0, vR o1, vI n] [(.ref o0), (.ref o0)])) rfl rfl (B d22_26)
  refine step st5 ?_
  refine step (fun _ => XS.aloadN X5.here hx rfl (B d22_29) rfl rfl) ?_
  have hK6 := (backOf (R := rr_apN) (p := p) (e := e) (below := below) (s := s) (args := #[(.ref o0), (.ref o1)]) (len := 3) (W := 0) (rm_ps l Z a0 hw [] w_0 w_1 w_2 w_3 o0 cn o1 t kk n ds a ka q cs h0 n0 (own_old_le O0) ST O0 Eb Fbv Fbc Vb Es Fv Fc Va hok gea (own_fitN hsb hok hfit)) hZ (ww125 hw) (ww86 hw) (by decide) (by decide))
  obtain ⟨cq6, kq6, q6a, q6b, q6c⟩ := isOf hZ e5 Eb
  obtain ⟨_, _, ⟨T6, L6, k6, n6⟩, -, X6, ⟨Lc6, hQ6, l6, y6, z6⟩, st6⟩ := X5.virtualBack hx (y := y_21) (z := y_21) hown (mvT hZ (ww121 hw)) (mvT hZ (own_decl (ww122 hw) (ww125 hw))) (notFace_of_selects (args := #[]) (mvT hZ (ww124 hw))) (mvT hZ (ww124 hw)) (mvT hZ (ww122 hw)) (by decide) hK6 q6a q6c (g := (mkF m 30 #[vR o0, vR o1, vI n] [(.ref o1), (.int cn), (.ref o0)])) rfl (by rw [hml]; rfl) (Steps.refl _) (argsL := [(.int cn), (.ref o1)]) (rest := []) (lenOf pd_16 rfl) rfl (by show 2 * 0 + _ ≤ _; exact Nat.le_of_eq rfl) (B d22_30) (fun _ _ => ⟨rfl, e5, (by decide : 0 + 0 ≤ _), (by decide : 0 + 0 ≤ _)⟩)
  dsimp only [Pt.U, Pt.locs, Pt.cells, Pt.slots] at X6 l6 y6 z6 st6 hQ6
  subst l6 y6 z6
  obtain ⟨rfl, N6q, K6q, Y6_0⟩ := hQ6
  have N6 := Fr.app N4 N6q
  obtain ⟨lc6, X6, N6⟩ := own_gen X6 N6
  have K6 : Keep h0 T6.heap [o0, a] := K0.trans K6q (allS (Or.inl (List.mem_of_getElem? (i := 1) rfl)) all0)
  refine step (fun t k => st6.trans k) ?_
  refine step (fun _ => XS.aloadN X6.here hx rfl (B d22_33) rfl rfl) ?_
  refine step (fun _ => XS.dup X6.here hx rfl (B d22_34) rfl rfl) ?_
  have f8 := (Fld.keep Fbn K6q (ninS ne_o0_a nin0))
  obtain ⟨T7, X7, e7, st7⟩ := getF X6 hx hZ hown (host := "") (Or.inl (ww114 hw)) Via.refl rfl f8 (g := (mkF m 35 #[vR o0, vR o1, vI n] [(.ref o0), (.ref o0)])) rfl rfl (B d22_35)
  refine step st7 ?_
  refine step (fun _ => XS.iloadN X7.here hx rfl (B d22_38) rfl) ?_
  refine step (fun _ => XS.iadd X7.here hx rfl (B d22_39) rfl) ?_
  have f10 := (Exa.keep Eb K6q)
  obtain ⟨T9, h9, X9, e9, W9, st9⟩ := putF X7 hx hZ hown (host := "") (Or.inl (ww114 hw)) Via.refl e7 f8 f10 (Or.inl (ww115 hw)) (ww77 hw) (ty := .int) (by decide) rfl rfl (g := (mkF m 40 #[vR o0, vR o1, vI n] [(.int (cn + n)), (.ref o0)])) rfl rfl (B d22_40)
  have F9 : Fld Z h9 o0 cn_0 "count" "I" (.int (cn + n)) := Fld.same W9 f8
  have N9 := Fr.snoc X9 N6 geo
  obtain ⟨lc9, X9, N9⟩ := own_gen X9 N9
  have K9 : Keep h0 h9 [o0, a] := K6.wr W9 (Or.inl (List.mem_of_getElem? (i := 0) rfl))
  refine step st9 ?_
  refine step (fun _ => XS.aloadN X9.here hx rfl (B d22_43) rfl rfl) ?_
  have f11 := (Exa.wr W9 f10)
  have f12 := (Fld.other W9 (Fld.keep Fbv K6q (ninS ne_o0_a nin0)) (Or.inr (slot_ne (Or.inl (ww91 hw)) (Or.inl (ww115 hw)) (by decide) (t := (.array .byte)) (t' := .int) (by decide) (by decide))))
  have f13 := (Fld.other W9 (Fld.keep Fbc K6q (ninS ne_o0_a nin0)) (Or.inr (slot_ne (Or.inl (ww93 hw)) (Or.inl (ww115 hw)) (by decide) (t := .byte) (t' := .int) (by decide) (by decide))))
  have f14 := (Exa.wr W9 (Exa.keep Ea K6q))
  have f15 := (Arv.other Y6_0 W9 (Ne.symm ne_o0_a))
  exact ret (v := some (.ref o0)) X9 (fun h => by rw [Bd.returns] at h; cases h) (fun fs hr => retA X9 hx Bd.returns rfl rfl (B d22_44) hr) e9 ⟨rfl, N9, K9, f11, f12, f13, F9, f14, f15, (own_sbN hsb hok hsb.2.2.1 hfit)⟩ (by decide) (by decide)
abbrev rr_apG : Room := { frames := 4, cells := 1, slots := 34, locals := 62 }
theorem ef_apG (m : MethodId) (o0 o1 : Addr) : entryFrame m #[(.ref o0), (.ref o1)] 3 = mkF m 0 #[vR o0, vR o1, u_] [] := by first | (simp [entryFrame, mkF, argsToLocals, Value.category]; done) | rfl
def Q_apG (Z : State) (w_0 w_1 : Addr) (w_2 : Int32) (w_3 : Value) (o0 o1 t : Addr) (kk : ClassId) (n : Int32) (ds : List Int32) (a : Addr) (ka : ClassId) (q cn : Int32) (cs : List Int32) (h0 : Heap) (n0 : Nat) (v : Option Value) (h : Heap) (L : List Loc) : Prop := ∃ a2 : Addr, ∃ k2 : ClassId, ∃ q2 : Int32, v = some (.ref o0) ∧ Fr n0 L ∧ Keep h0 h [o0, a] ∧ Exa Z h o0 cn_4 ∧ Fld Z h o0 cn_0 "value" "[B" (.ref a2) ∧ Fld Z h o0 cn_0 "coder" "B" (.int 0) ∧ Fld Z h o0 cn_0 "count" "I" (.int (cn + n)) ∧ Exa Z h a2 "[B" ∧ Arv Z h a2 k2 .byte q2 (own_by (cs ++ ds)) (.int 0) ∧ own_sbp (cn + n) q2 (cs ++ ds) ∧ n0 ≤ a2 ∧ (a2 = a ∨ h0.size ≤ a2)
theorem rm_apG (l : Launch) (Z : State) (a0 : Array Value) (hw : HW Z a0) (ws : List Jvm.Cond) (w_0 w_1 : Addr) (w_2 : Int32) (w_3 : Value) (o0 o1 t : Addr) (kk : ClassId) (n : Int32) (ds : List Int32) (a : Addr) (ka : ClassId) (q cn : Int32) (cs : List Int32) (h0 : Heap) (n0 : Nat) (Z0 : n0 ≤ h0.size) (ST : own_St Z w_0 w_1 w_2 w_3) (O0 : Old Z n0 h0) (Eb : Exa Z h0 o0 cn_4) (Fbv : Fld Z h0 o0 cn_0 "value" "[B" (.ref a)) (Fbc : Fld Z h0 o0 cn_0 "coder" "B" (.int 0)) (Fbn : Fld Z h0 o0 cn_0 "count" "I" (.int cn)) (Vb : Arv Z h0 a ka .byte q (own_by cs) (.int 0)) (Ea : Exa Z h0 a "[B") (hsb : own_sbp cn q cs) (Es : Exa Z h0 o1 cn_2) (Fv : Fld Z h0 o1 cn_2 "value" "[B" (.ref t)) (Fc : Fld Z h0 o1 cn_2 "coder" "B" (.int 0)) (Va : Arv Z h0 t kk .byte n (own_by ds) (.int 0)) (hok : own_ok n ds) (geo : n0 ≤ o0) (gea : n0 ≤ a) (hfit : cs.length + ds.length ≤ 33) :
    own_Met l y_22 jdk_68_method_22_code 3 (some (.object cn_0)) ws rr_apG Z #[(.ref o0), (.ref o1)] h0 (Q_apG Z w_0 w_1 w_2 w_3 o0 o1 t kk n ds a ka q cn cs h0 n0) := by
  refine MetFree.of_bodySF (plainFor_of_name pn_3) hisR ?_
  intro p e s m args below meth c s₁ Bd hml0 hP hK
  obtain ⟨rfl, hZ, hh⟩ := hP
  have hx := Bd.exec
  have hby := Bd.bytes
  have B := @hb _ _ hby
  have hml : c.maxLocals = 3 := hml0
  have hown : s.vm.findClass cn_0 = some m.cls := findClass_of_methodNamed Bd.named
  have X0 : Stand p l e rr_apG s m #[(.ref o0), (.ref o1)] below meth c s₁ [] 0 0 := Stand.of_body Bd
  have e0 : s₁.heap = h0 := by rw [← hh, Bd.state]; rfl
  have N0 := Fr.nil n0
  have K0 : Keep h0 h0 [o0, a] := Keep.refl _ _
  obtain ⟨G, step, ret, fin⟩ := own_openX X0 (rr_apG.cells) (rr_apG.slots) (Q_apG Z w_0 w_1 w_2 w_3 o0 o1 t kk n ds a ka q cn cs h0 n0) Bd.notSynchronized
  refine fin (g := entryFrame m #[(.ref o0), (.ref o1)] 3) ?_
  rw [ef_apG m o0 o1]
  have ne_o0_o1 : o0 ≠ o1 := own_ne_exa Eb Es (by decide)
  have ne_o0_t : o0 ≠ t := own_ne_arv Eb (ww77 hw) Va
  refine step (fun _ => XS.aloadN X0.here hx rfl (B d22_0) rfl rfl) ?_
  refine step (fun _ => XS.ifnonnullYes X0.here hx rfl (pc0 := 1) (pc' := 9) rfl (B d22_1) rfl (by decide) (by decide)) ?_
  refine step (fun _ => XS.aloadN X0.here hx rfl (B d22_9) rfl rfl) ?_
  have hK1 := (backOf (R := rr_apG) (p := p) (e := e) (below := below) (s := s) (args := #[(.ref o0), (.ref o1)]) (len := 3) (W := 0) (rm_le l Z a0 hw [] w_0 w_1 w_2 w_3 o1 t kk n ds h0 n0 (own_old_le O0) ST O0 Es Fv Fc Va hok) hZ (ww108 hw) (ww2 hw) (by decide) (by decide))
  obtain ⟨cq1, kq1, q1a, q1b, q1c⟩ := isOf hZ e0 Es
  obtain ⟨_, _, ⟨T1, L1, k1, n1⟩, -, X1, ⟨Lc1, hQ1, l1, y1, z1⟩, st1⟩ := X0.virtualBack hx (y := y_1) (z := y_1) hown (mvT hZ (ww104 hw)) (mvT hZ (ww105 hw)) (notFace_of_selects (args := #[]) (mvT hZ (ww107 hw))) (mvT hZ (ww107 hw)) (mvT hZ (ww106 hw)) (by decide) hK1 q1a q1c (g := (mkF m 10 #[vR o0, vR o1, u_] [(.ref o1)])) rfl (by rw [hml]; rfl) (Steps.refl _) (argsL := []) (rest := []) (lenOf pd_15 rfl) rfl (by show 2 * 0 + _ ≤ _; exact Nat.le_of_eq rfl) (B d22_10) (fun _ _ => ⟨rfl, e0, (by decide : 0 + 0 ≤ _), (by decide : 0 + 0 ≤ _)⟩)
  dsimp only [Pt.U, Pt.locs, Pt.cells, Pt.slots] at X1 l1 y1 z1 st1 hQ1
  subst l1 y1 z1
  obtain ⟨rfl, N1q, e1⟩ := hQ1
  have N1 := Fr.app N0 N1q
  obtain ⟨lc1, X1, N1⟩ := own_gen X1 N1
  refine step (fun t k => st1.trans k) ?_
  have r2 : (f_le w_0 w_1 w_2 w_3 o1 t kk n ds) = n := rfl
  rw [r2]
  refine step (fun _ => XS.istoreN X1.here hx rfl (B d22_13) rfl (l' := #[vR o0, vR o1, vI n]) rfl) ?_
  refine step (fun _ => XS.aloadN X1.here hx rfl (B d22_14) rfl rfl) ?_
  refine step (fun _ => XS.aloadN X1.here hx rfl (B d22_15) rfl rfl) ?_
  obtain ⟨T3, X3, e3, st3⟩ := getF X1 hx hZ hown (host := "") (Or.inl (ww114 hw)) Via.refl e1 Fbn (g := (mkF m 16 #[vR o0, vR o1, vI n] [(.ref o0), (.ref o0)])) rfl rfl (B d22_16)
  refine step st3 ?_
  refine step (fun _ => XS.iloadN X3.here hx rfl (B d22_19) rfl) ?_
  refine step (fun _ => XS.iadd X3.here hx rfl (B d22_20) rfl) ?_
  have hK4 := (backOf (R := rr_apG) (p := p) (e := e) (below := below) (s := s) (args := #[(.ref o0), (.ref o1)]) (len := 3) (W := 0) (rm_ecG l Z a0 hw [] w_0 w_1 w_2 w_3 o0 (cn + n) a ka q cn cs h0 n0 (own_old_le O0) ST O0 Eb Fbv Fbc Fbn Vb Ea hsb geo gea (own_lim hsb hok hfit)) hZ (ww120 hw) (ww86 hw) (by decide) (by decide))
  obtain ⟨cq4, kq4, q4a, q4b, q4c⟩ := isOf hZ e3 Eb
  obtain ⟨_, _, ⟨T4, L4, k4, n4⟩, -, X4, ⟨Lc4, hQ4, l4, y4, z4⟩, st4⟩ := X3.virtualBack hx (y := y_13) (z := y_13) hown (mvT hZ (ww116 hw)) (mvT hZ (own_decl (ww117 hw) (ww120 hw))) (notFace_of_selects (args := #[]) (mvT hZ (ww119 hw))) (mvT hZ (ww119 hw)) (mvT hZ (ww117 hw)) (by decide) hK4 q4a q4c (g := (mkF m 21 #[vR o0, vR o1, vI n] [(.int (cn + n)), (.ref o0)])) rfl (by rw [hml]; rfl) (Steps.refl _) (argsL := [(.int (cn + n))]) (rest := []) (lenOf pd_8 rfl) rfl (by show 2 * 0 + _ ≤ _; exact Nat.le_of_eq rfl) (B d22_21) (fun _ _ => ⟨rfl, e3, (by decide : 0 + 1 ≤ _), (by decide : 0 + 34 ≤ _)⟩)
  dsimp only [Pt.U, Pt.locs, Pt.cells, Pt.slots] at X4 l4 y4 z4 st4 hQ4
  subst l4 y4 z4
  obtain ⟨a2_4, k2_4, q2_4, rfl, N4q, K4q, Y4_0, Y4_1, Y4_2, Y4_3, Y4_4, Y4_5, Y4_6⟩ := hQ4
  have N4 := Fr.app N1 N4q
  obtain ⟨lc4, X4, N4⟩ := own_gen X4 N4
  have O4 := O0.keep K4q (allS geo all0)
  have K4 : Keep h0 T4.heap [o0, a] := K0.trans K4q (allS (Or.inl (List.mem_of_getElem? (i := 0) rfl)) all0)
  have ne_o0_a2_4 : o0 ≠ a2_4 := own_ne_arv Y4_0 (ww77 hw) Y4_5
  refine step (fun t k => st4.trans k) ?_
  refine step (fun _ => XS.aloadN X4.here hx rfl (B d22_24) rfl rfl) ?_
  refine step (fun _ => XS.aloadN X4.here hx rfl (B d22_25) rfl rfl) ?_
  obtain ⟨T5, X5, e5, st5⟩ := getF X4 hx hZ hown (host := "") (Or.inl (ww114 hw)) Via.refl rfl Y4_3 (g := (mkF m 26 #[vR o0, vR o1, vI n] [(.ref o0), (.ref o0)])) rfl rfl (B d22_26)
  refine step st5 ?_
  refine step (fun _ => XS.aloadN X5.here hx rfl (B d22_29) rfl rfl) ?_
  have f7 := (Exa.keep Es K4q)
  have f8 := (Fld.keep Fv K4q (ninS (Ne.symm ne_o0_o1) nin0))
  have f9 := (Fld.keep Fc K4q (ninS (Ne.symm ne_o0_o1) nin0))
  have f10 := (Arv.keep Va K4q (ninS (Ne.symm ne_o0_t) nin0))
  have hK6 := (backOf (R := rr_apG) (p := p) (e := e) (below := below) (s := s) (args := #[(.ref o0), (.ref o1)]) (len := 3) (W := 0) (rm_ps l Z a0 hw [] w_0 w_1 w_2 w_3 o0 cn o1 t kk n ds a2_4 k2_4 q2_4 cs T4.heap n0 (own_old_le O4) ST O4 Y4_0 Y4_1 Y4_2 Y4_5 f7 f8 f9 f10 hok Y4_6.1.1 (own_fitG hsb hok Y4_6)) hZ (ww125 hw) (ww86 hw) (by decide) (by decide))
  obtain ⟨cq6, kq6, q6a, q6b, q6c⟩ := isOf hZ e5 Y4_0
  obtain ⟨_, _, ⟨T6, L6, k6, n6⟩, -, X6, ⟨Lc6, hQ6, l6, y6, z6⟩, st6⟩ := X5.virtualBack hx (y := y_21) (z := y_21) hown (mvT hZ (ww121 hw)) (mvT hZ (own_decl (ww122 hw) (ww125 hw))) (notFace_of_selects (args := #[]) (mvT hZ (ww124 hw))) (mvT hZ (ww124 hw)) (mvT hZ (ww122 hw)) (by decide) hK6 q6a q6c (g := (mkF m 30 #[vR o0, vR o1, vI n] [(.ref o1), (.int cn), (.ref o0)])) rfl (by rw [hml]; rfl) (Steps.refl _) (argsL := [(.int cn), (.ref o1)]) (rest := []) (lenOf pd_16 rfl) rfl (by show 2 * 0 + _ ≤ _; exact Nat.le_of_eq rfl) (B d22_30) (fun _ _ => ⟨rfl, e5, (by decide : 1 + 0 ≤ _), (by decide : 34 + 0 ≤ _)⟩)
  dsimp only [Pt.U, Pt.locs, Pt.cells, Pt.slots] at X6 l6 y6 z6 st6 hQ6
  subst l6 y6 z6
  obtain ⟨rfl, N6q, K6q, Y6_0⟩ := hQ6
  have N6 := Fr.app N4 N6q
  obtain ⟨lc6, X6, N6⟩ := own_gen X6 N6
  have K6 : Keep h0 T6.heap [o0, a] := K4.trans K6q (allS (own_kin Y4_6.1.2 (List.mem_of_getElem? (i := 1) rfl)) all0)
  refine step (fun t k => st6.trans k) ?_
  refine step (fun _ => XS.aloadN X6.here hx rfl (B d22_33) rfl rfl) ?_
  refine step (fun _ => XS.dup X6.here hx rfl (B d22_34) rfl rfl) ?_
  have f12 := (Fld.keep Y4_3 K6q (ninS ne_o0_a2_4 nin0))
  obtain ⟨T11, X11, e11, st11⟩ := getF X6 hx hZ hown (host := "") (Or.inl (ww114 hw)) Via.refl rfl f12 (g := (mkF m 35 #[vR o0, vR o1, vI n] [(.ref o0), (.ref o0)])) rfl rfl (B d22_35)
  refine step st11 ?_
  refine step (fun _ => XS.iloadN X11.here hx rfl (B d22_38) rfl) ?_
  refine step (fun _ => XS.iadd X11.here hx rfl (B d22_39) rfl) ?_
  have f14 := (Exa.keep Y4_0 K6q)
  obtain ⟨T13, h13, X13, e13, W13, st13⟩ := putF X11 hx hZ hown (host := "") (Or.inl (ww114 hw)) Via.refl e11 f12 f14 (Or.inl (ww115 hw)) (ww77 hw) (ty := .int) (by decide) rfl rfl (g := (mkF m 40 #[vR o0, vR o1, vI n] [(.int (cn + n)), (.ref o0)])) rfl rfl (B d22_40)
  have F13 : Fld Z h13 o0 cn_0 "count" "I" (.int (cn + n)) := Fld.same W13 f12
  have N13 := Fr.snoc X13 N6 geo
  obtain ⟨lc13, X13, N13⟩ := own_gen X13 N13
  have K13 : Keep h0 h13 [o0, a] := K6.wr W13 (Or.inl (List.mem_of_getElem? (i := 0) rfl))
  refine step st13 ?_
  refine step (fun _ => XS.aloadN X13.here hx rfl (B d22_43) rfl rfl) ?_
  have f15 := (Exa.wr W13 f14)
  have f16 := (Fld.other W13 (Fld.keep Y4_1 K6q (ninS ne_o0_a2_4 nin0)) (Or.inr (slot_ne (Or.inl (ww91 hw)) (Or.inl (ww115 hw)) (by decide) (t := (.array .byte)) (t' := .int) (by decide) (by decide))))
  have f17 := (Fld.other W13 (Fld.keep Y4_2 K6q (ninS ne_o0_a2_4 nin0)) (Or.inr (slot_ne (Or.inl (ww93 hw)) (Or.inl (ww115 hw)) (by decide) (t := .byte) (t' := .int) (by decide) (by decide))))
  have f18 := (Exa.wr W13 (Exa.keep Y4_4 K6q))
  have f19 := (Arv.other Y6_0 W13 (Ne.symm ne_o0_a2_4))
  exact ret (v := some (.ref o0)) X13 (fun h => by rw [Bd.returns] at h; cases h) (fun fs hr => retA X13 hx Bd.returns rfl rfl (B d22_44) hr) e13 ⟨a2_4, k2_4, q2_4, rfl, N13, K13, f15, f16, f17, F13, f18, f19, (own_sbN hsb hok Y4_6.2.1 (own_egf hsb hok Y4_6)), Y4_6.1⟩ (by decide) (by decide)
theorem d23_0 : decode qc23 0 = .ok (.aload_n 0, 1) := by decide +kernel
theorem d23_1 : decode qc23 1 = .ok (.aload_n 1, 1) := by decide +kernel
theorem d23_2 : decode qc23 2 = .ok (.invokespecial 29, 3) := by decide +kernel
theorem ww99 (hw : HW Z a0) : Cond.before (Cond.methodLink cn_4 29 ({ cls := cn_0, name := "append", desc := cn_13 } : MethodName)) a0 Z = true := own_w hw 99 rfl
theorem ww103 (hw : HW Z a0) : Cond.before (Cond.code ({ cls := cn_0, name := "append", desc := cn_13 } : MethodName) jdk_68_method_22_code 3 (Option.some (FieldType.object cn_0))) a0 Z = true := own_w hw 103 rfl
theorem pd_17 : parseMethodDescriptor cn_13 = some ⟨[(.object cn_2)], some (.object cn_0)⟩ := by decide +kernel
theorem ww102 (hw : HW Z a0) : Cond.before (Cond.declares ({ cls := cn_0, name := "append", desc := cn_13 } : MethodName)) a0 Z = true := own_w hw 102 rfl
theorem ww158 (hw : HW Z a0) : Cond.before (Cond.selects cn_4 ({ cls := cn_0, name := "getValue", desc := "()[B" } : MethodName) ({ cls := cn_0, name := "getValue", desc := "()[B" } : MethodName)) a0 Z = true := own_w hw 158 rfl
theorem ww156 (hw : HW Z a0) : Cond.before (Cond.declares ({ cls := cn_0, name := "getValue", desc := "()[B" } : MethodName)) a0 Z = true := own_w hw 156 rfl
theorem ww100 (hw : HW Z a0) : Cond.before (Cond.instanceMethod ({ cls := cn_0, name := "append", desc := cn_13 } : MethodName)) a0 Z = true := own_w hw 100 rfl
theorem ww101 (hw : HW Z a0) : Cond.before (Cond.superclass cn_4 cn_0) a0 Z = true := own_w hw 101 rfl
theorem d23_5 : decode qc23 5 = .ok (.pop, 1) := by decide +kernel
theorem d23_6 : decode qc23 6 = .ok (.aload_n 0, 1) := by decide +kernel
theorem d23_7 : decode qc23 7 = .ok (.areturn, 1) := by decide +kernel
abbrev rr_saN : Room := { frames := 4, cells := 0, slots := 0, locals := 61 }
abbrev y_23 : MethodName := ⟨cn_4, "append", cn_12⟩
theorem ef_saN (m : MethodId) (o0 o1 : Addr) : entryFrame m #[(.ref o0), (.ref o1)] 2 = mkF m 0 #[vR o0, vR o1] [] := by first | (simp [entryFrame, mkF, argsToLocals, Value.category]; done) | rfl
def Q_saN (Z : State) (w_0 w_1 : Addr) (w_2 : Int32) (w_3 : Value) (o0 o1 t : Addr) (kk : ClassId) (n : Int32) (ds : List Int32) (a : Addr) (ka : ClassId) (q cn : Int32) (cs : List Int32) (h0 : Heap) (n0 : Nat) (v : Option Value) (h : Heap) (L : List Loc) : Prop := v = some (.ref o0) ∧ Fr n0 L ∧ Keep h0 h [o0, a] ∧ Exa Z h o0 cn_4 ∧ Fld Z h o0 cn_0 "value" "[B" (.ref a) ∧ Fld Z h o0 cn_0 "coder" "B" (.int 0) ∧ Fld Z h o0 cn_0 "count" "I" (.int (cn + n)) ∧ Exa Z h a "[B" ∧ Arv Z h a ka .byte q (own_by (cs ++ ds)) (.int 0) ∧ own_sbp (cn + n) q (cs ++ ds)
theorem rm_saN (l : Launch) (Z : State) (a0 : Array Value) (hw : HW Z a0) (ws : List Jvm.Cond) (w_0 w_1 : Addr) (w_2 : Int32) (w_3 : Value) (o0 o1 t : Addr) (kk : ClassId) (n : Int32) (ds : List Int32) (a : Addr) (ka : ClassId) (q cn : Int32) (cs : List Int32) (h0 : Heap) (n0 : Nat) (Z0 : n0 ≤ h0.size) (ST : own_St Z w_0 w_1 w_2 w_3) (O0 : Old Z n0 h0) (Eb : Exa Z h0 o0 cn_4) (Fbv : Fld Z h0 o0 cn_0 "value" "[B" (.ref a)) (Fbc : Fld Z h0 o0 cn_0 "coder" "B" (.int 0)) (Fbn : Fld Z h0 o0 cn_0 "count" "I" (.int cn)) (Vb : Arv Z h0 a ka .byte q (own_by cs) (.int 0)) (Ea : Exa Z h0 a "[B") (hsb : own_sbp cn q cs) (Es : Exa Z h0 o1 cn_2) (Fv : Fld Z h0 o1 cn_2 "value" "[B" (.ref t)) (Fc : Fld Z h0 o1 cn_2 "coder" "B" (.int 0)) (Va : Arv Z h0 t kk .byte n (own_by ds) (.int 0)) (hok : own_ok n ds) (geo : n0 ≤ o0) (gea : n0 ≤ a) (hfit : cs.length + ds.length ≤ q.toNatClampNeg) :
    own_Met l y_23 jdk_67_method_7_code 2 (some (.object cn_4)) ws rr_saN Z #[(.ref o0), (.ref o1)] h0 (Q_saN Z w_0 w_1 w_2 w_3 o0 o1 t kk n ds a ka q cn cs h0 n0) := by
  refine MetFree.of_bodySF (plainFor_of_name pn_4) hisR ?_
  intro p e s m args below meth c s₁ Bd hml0 hP hK
  obtain ⟨rfl, hZ, hh⟩ := hP
  have hx := Bd.exec
  have hby := Bd.bytes
  have B := @hb _ _ hby
  have hml : c.maxLocals = 2 := hml0
  have hown : s.vm.findClass cn_4 = some m.cls := findClass_of_methodNamed Bd.named
  have X0 : Stand p l e rr_saN s m #[(.ref o0), (.ref o1)] below meth c s₁ [] 0 0 := Stand.of_body Bd
  have e0 : s₁.heap = h0 := by rw [← hh, Bd.state]; rfl
  have N0 := Fr.nil n0
  have K0 : Keep h0 h0 [o0, a] := Keep.refl _ _
  obtain ⟨G, step, ret, fin⟩ := own_openX X0 (rr_saN.cells) (rr_saN.slots) (Q_saN Z w_0 w_1 w_2 w_3 o0 o1 t kk n ds a ka q cn cs h0 n0) Bd.notSynchronized
  refine fin (g := entryFrame m #[(.ref o0), (.ref o1)] 2) ?_
  rw [ef_saN m o0 o1]
  refine step (fun _ => XS.aloadN X0.here hx rfl (B d23_0) rfl rfl) ?_
  refine step (fun _ => XS.aloadN X0.here hx rfl (B d23_1) rfl rfl) ?_
  have hK1 := (backOf (R := rr_saN) (p := p) (e := e) (below := below) (s := s) (args := #[(.ref o0), (.ref o1)]) (len := 3) (W := 0) (rm_apN l Z a0 hw [] w_0 w_1 w_2 w_3 o0 o1 t kk n ds a ka q cn cs h0 n0 (own_old_le O0) ST O0 Eb Fbv Fbc Fbn Vb Ea hsb Es Fv Fc Va hok geo gea hfit) hZ (ww103 hw) (ww86 hw) (by decide) (by decide))
  obtain ⟨_, _, ⟨T1, L1, k1, n1⟩, -, X1, ⟨Lc1, hQ1, l1, y1, z1⟩, st1⟩ := superBack X0 hx hZ (y := y_22) hown (ww99 hw) (own_same (ww102 hw) (ww158 hw) (ww156 hw) rfl (by decide)) (ww100 hw) (ww101 hw) (by decide) hK1 e0 (Ins.self Eb) (g := (mkF m 2 #[vR o0, vR o1] [(.ref o1), (.ref o0)])) rfl (by rw [hml]; rfl) (ww103 hw) (argsL := [(.ref o1)]) (rest := []) (lenOf pd_17 rfl) rfl (by show 2 * 0 + _ ≤ _; exact Nat.le_of_eq rfl) (B d23_2) (fun _ _ => ⟨rfl, e0, (by decide : 0 + 0 ≤ _), (by decide : 0 + 0 ≤ _)⟩)
  dsimp only [Pt.U, Pt.locs, Pt.cells, Pt.slots] at X1 l1 y1 z1 st1 hQ1
  subst l1 y1 z1
  obtain ⟨rfl, N1q, K1q, Y1_0, Y1_1, Y1_2, Y1_3, Y1_4, Y1_5, Y1_6⟩ := hQ1
  have N1 := Fr.app N0 N1q
  obtain ⟨lc1, X1, N1⟩ := own_gen X1 N1
  have K1 : Keep h0 T1.heap [o0, a] := K0.trans K1q (allS (Or.inl (List.mem_of_getElem? (i := 0) rfl)) (allS (Or.inl (List.mem_of_getElem? (i := 1) rfl)) all0))
  refine step (fun t k => st1.trans k) ?_
  refine step (fun _ => XS.pop X1.here hx rfl (B d23_5) rfl rfl) ?_
  refine step (fun _ => XS.aloadN X1.here hx rfl (B d23_6) rfl rfl) ?_
  exact ret (v := some (.ref o0)) X1 (fun h => by rw [Bd.returns] at h; cases h) (fun fs hr => retA X1 hx Bd.returns rfl rfl (B d23_7) hr) rfl ⟨rfl, N1, K1, Y1_0, Y1_1, Y1_2, Y1_3, Y1_4, Y1_5, Y1_6⟩ (by decide) (by decide)
abbrev rr_saG : Room := { frames := 5, cells := 1, slots := 34, locals := 76 }
theorem ef_saG (m : MethodId) (o0 o1 : Addr) : entryFrame m #[(.ref o0), (.ref o1)] 2 = mkF m 0 #[vR o0, vR o1] [] := by first | (simp [entryFrame, mkF, argsToLocals, Value.category]; done) | rfl
def Q_saG (Z : State) (w_0 w_1 : Addr) (w_2 : Int32) (w_3 : Value) (o0 o1 t : Addr) (kk : ClassId) (n : Int32) (ds : List Int32) (a : Addr) (ka : ClassId) (q cn : Int32) (cs : List Int32) (h0 : Heap) (n0 : Nat) (v : Option Value) (h : Heap) (L : List Loc) : Prop := ∃ a2 : Addr, ∃ k2 : ClassId, ∃ q2 : Int32, v = some (.ref o0) ∧ Fr n0 L ∧ Keep h0 h [o0, a] ∧ Exa Z h o0 cn_4 ∧ Fld Z h o0 cn_0 "value" "[B" (.ref a2) ∧ Fld Z h o0 cn_0 "coder" "B" (.int 0) ∧ Fld Z h o0 cn_0 "count" "I" (.int (cn + n)) ∧ Exa Z h a2 "[B" ∧ Arv Z h a2 k2 .byte q2 (own_by (cs ++ ds)) (.int 0) ∧ own_sbp (cn + n) q2 (cs ++ ds) ∧ n0 ≤ a2 ∧ (a2 = a ∨ h0.size ≤ a2)
theorem rm_saG (l : Launch) (Z : State) (a0 : Array Value) (hw : HW Z a0) (ws : List Jvm.Cond) (w_0 w_1 : Addr) (w_2 : Int32) (w_3 : Value) (o0 o1 t : Addr) (kk : ClassId) (n : Int32) (ds : List Int32) (a : Addr) (ka : ClassId) (q cn : Int32) (cs : List Int32) (h0 : Heap) (n0 : Nat) (Z0 : n0 ≤ h0.size) (ST : own_St Z w_0 w_1 w_2 w_3) (O0 : Old Z n0 h0) (Eb : Exa Z h0 o0 cn_4) (Fbv : Fld Z h0 o0 cn_0 "value" "[B" (.ref a)) (Fbc : Fld Z h0 o0 cn_0 "coder" "B" (.int 0)) (Fbn : Fld Z h0 o0 cn_0 "count" "I" (.int cn)) (Vb : Arv Z h0 a ka .byte q (own_by cs) (.int 0)) (Ea : Exa Z h0 a "[B") (hsb : own_sbp cn q cs) (Es : Exa Z h0 o1 cn_2) (Fv : Fld Z h0 o1 cn_2 "value" "[B" (.ref t)) (Fc : Fld Z h0 o1 cn_2 "coder" "B" (.int 0)) (Va : Arv Z h0 t kk .byte n (own_by ds) (.int 0)) (hok : own_ok n ds) (geo : n0 ≤ o0) (gea : n0 ≤ a) (hfit : cs.length + ds.length ≤ 33) :
    own_Met l y_23 jdk_67_method_7_code 2 (some (.object cn_4)) ws rr_saG Z #[(.ref o0), (.ref o1)] h0 (Q_saG Z w_0 w_1 w_2 w_3 o0 o1 t kk n ds a ka q cn cs h0 n0) := by
  refine MetFree.of_bodySF (plainFor_of_name pn_4) hisR ?_
  intro p e s m args below meth c s₁ Bd hml0 hP hK
  obtain ⟨rfl, hZ, hh⟩ := hP
  have hx := Bd.exec
  have hby := Bd.bytes
  have B := @hb _ _ hby
  have hml : c.maxLocals = 2 := hml0
  have hown : s.vm.findClass cn_4 = some m.cls := findClass_of_methodNamed Bd.named
  have X0 : Stand p l e rr_saG s m #[(.ref o0), (.ref o1)] below meth c s₁ [] 0 0 := Stand.of_body Bd
  have e0 : s₁.heap = h0 := by rw [← hh, Bd.state]; rfl
  have N0 := Fr.nil n0
  have K0 : Keep h0 h0 [o0, a] := Keep.refl _ _
  obtain ⟨G, step, ret, fin⟩ := own_openX X0 (rr_saG.cells) (rr_saG.slots) (Q_saG Z w_0 w_1 w_2 w_3 o0 o1 t kk n ds a ka q cn cs h0 n0) Bd.notSynchronized
  refine fin (g := entryFrame m #[(.ref o0), (.ref o1)] 2) ?_
  rw [ef_saG m o0 o1]
  refine step (fun _ => XS.aloadN X0.here hx rfl (B d23_0) rfl rfl) ?_
  refine step (fun _ => XS.aloadN X0.here hx rfl (B d23_1) rfl rfl) ?_
  have hK1 := (backOf (R := rr_saG) (p := p) (e := e) (below := below) (s := s) (args := #[(.ref o0), (.ref o1)]) (len := 3) (W := 0) (rm_apG l Z a0 hw [] w_0 w_1 w_2 w_3 o0 o1 t kk n ds a ka q cn cs h0 n0 (own_old_le O0) ST O0 Eb Fbv Fbc Fbn Vb Ea hsb Es Fv Fc Va hok geo gea hfit) hZ (ww103 hw) (ww86 hw) (by decide) (by decide))
  obtain ⟨_, _, ⟨T1, L1, k1, n1⟩, -, X1, ⟨Lc1, hQ1, l1, y1, z1⟩, st1⟩ := superBack X0 hx hZ (y := y_22) hown (ww99 hw) (own_same (ww102 hw) (ww158 hw) (ww156 hw) rfl (by decide)) (ww100 hw) (ww101 hw) (by decide) hK1 e0 (Ins.self Eb) (g := (mkF m 2 #[vR o0, vR o1] [(.ref o1), (.ref o0)])) rfl (by rw [hml]; rfl) (ww103 hw) (argsL := [(.ref o1)]) (rest := []) (lenOf pd_17 rfl) rfl (by show 2 * 0 + _ ≤ _; exact Nat.le_of_eq rfl) (B d23_2) (fun _ _ => ⟨rfl, e0, (by decide : 0 + 1 ≤ _), (by decide : 0 + 34 ≤ _)⟩)
  dsimp only [Pt.U, Pt.locs, Pt.cells, Pt.slots] at X1 l1 y1 z1 st1 hQ1
  subst l1 y1 z1
  obtain ⟨a2_1, k2_1, q2_1, rfl, N1q, K1q, Y1_0, Y1_1, Y1_2, Y1_3, Y1_4, Y1_5, Y1_6, Y1_7⟩ := hQ1
  have N1 := Fr.app N0 N1q
  obtain ⟨lc1, X1, N1⟩ := own_gen X1 N1
  have K1 : Keep h0 T1.heap [o0, a] := K0.trans K1q (allS (Or.inl (List.mem_of_getElem? (i := 0) rfl)) (allS (Or.inl (List.mem_of_getElem? (i := 1) rfl)) all0))
  refine step (fun t k => st1.trans k) ?_
  refine step (fun _ => XS.pop X1.here hx rfl (B d23_5) rfl rfl) ?_
  refine step (fun _ => XS.aloadN X1.here hx rfl (B d23_6) rfl rfl) ?_
  exact ret (v := some (.ref o0)) X1 (fun h => by rw [Bd.returns] at h; cases h) (fun fs hr => retA X1 hx Bd.returns rfl rfl (B d23_7) hr) rfl ⟨a2_1, k2_1, q2_1, rfl, N1, K1, Y1_0, Y1_1, Y1_2, Y1_3, Y1_4, Y1_5, Y1_6, Y1_7⟩ (by decide) (by decide)
theorem d24_0 : decode qc24 0 = .ok (.aload_n 0, 1) := by decide +kernel
theorem d24_1 : decode qc24 1 = .ok (.getfield 15, 3) := by decide +kernel
theorem d24_4 : decode qc24 4 = .ok (.areturn, 1) := by decide +kernel
abbrev rr_gv : Room := { frames := 0, cells := 0, slots := 0, locals := 0 }
abbrev y_24 : MethodName := ⟨cn_0, "getValue", "()[B"⟩
theorem ef_gv (m : MethodId) (o0 : Addr) : entryFrame m #[(.ref o0)] 1 = mkF m 0 #[vR o0] [] := by first | (simp [entryFrame, mkF, argsToLocals, Value.category]; done) | rfl
def f_gv (w_0 w_1 : Addr) (w_2 : Int32) (w_3 : Value) (o0 a : Addr) : Addr := a
def Q_gv (Z : State) (w_0 w_1 : Addr) (w_2 : Int32) (w_3 : Value) (o0 a : Addr) (h0 : Heap) (n0 : Nat) (v : Option Value) (h : Heap) (L : List Loc) : Prop := v = some (.ref (f_gv w_0 w_1 w_2 w_3 o0 a)) ∧ Fr n0 L ∧ h = h0
theorem rm_gv (l : Launch) (Z : State) (a0 : Array Value) (hw : HW Z a0) (ws : List Jvm.Cond) (w_0 w_1 : Addr) (w_2 : Int32) (w_3 : Value) (o0 a : Addr) (h0 : Heap) (n0 : Nat) (Z0 : n0 ≤ h0.size) (ST : own_St Z w_0 w_1 w_2 w_3) (O0 : Old Z n0 h0) (Fbv : Fld Z h0 o0 cn_0 "value" "[B" (.ref a)) :
    own_Met l y_24 jdk_68_method_64_code 1 (some (.array .byte)) ws rr_gv Z #[(.ref o0)] h0 (Q_gv Z w_0 w_1 w_2 w_3 o0 a h0 n0) := by
  refine MetFree.of_bodySF (plainFor_of_name pn_3) hisR ?_
  intro p e s m args below meth c s₁ Bd hml0 hP hK
  obtain ⟨rfl, hZ, hh⟩ := hP
  have hx := Bd.exec
  have hby := Bd.bytes
  have B := @hb _ _ hby
  have hml : c.maxLocals = 1 := hml0
  have hown : s.vm.findClass cn_0 = some m.cls := findClass_of_methodNamed Bd.named
  have X0 : Stand p l e rr_gv s m #[(.ref o0)] below meth c s₁ [] 0 0 := Stand.of_body Bd
  have e0 : s₁.heap = h0 := by rw [← hh, Bd.state]; rfl
  have N0 := Fr.nil n0
  obtain ⟨G, step, ret, fin⟩ := own_openX X0 (rr_gv.cells) (rr_gv.slots) (Q_gv Z w_0 w_1 w_2 w_3 o0 a h0 n0) Bd.notSynchronized
  refine fin (g := entryFrame m #[(.ref o0)] 1) ?_
  rw [ef_gv m o0]
  refine step (fun _ => XS.aloadN X0.here hx rfl (B d24_0) rfl rfl) ?_
  obtain ⟨T1, X1, e1, st1⟩ := getF X0 hx hZ hown (host := "") (Or.inl (ww90 hw)) Via.refl e0 Fbv (g := (mkF m 1 #[vR o0] [(.ref o0)])) rfl rfl (B d24_1)
  refine step st1 ?_
  exact ret (v := some (.ref a)) X1 (fun h => by rw [Bd.returns] at h; cases h) (fun fs hr => retA X1 hx Bd.returns rfl rfl (B d24_4) hr) e1 ⟨rfl, N0, rfl⟩ (by decide) (by decide)
theorem d25_0 : decode qc25 0 = .ok (.aload_n 0, 1) := by decide +kernel
theorem d25_1 : decode qc25 1 = .ok (.getfield 79, 3) := by decide +kernel
theorem d25_4 : decode qc25 4 = .ok (.ireturn, 1) := by decide +kernel
abbrev rr_asl : Room := { frames := 0, cells := 0, slots := 0, locals := 0 }
abbrev y_25 : MethodName := ⟨cn_0, "length", "()I"⟩
theorem ef_asl (m : MethodId) (o0 : Addr) : entryFrame m #[(.ref o0)] 1 = mkF m 0 #[vR o0] [] := by first | (simp [entryFrame, mkF, argsToLocals, Value.category]; done) | rfl
def f_asl (w_0 w_1 : Addr) (w_2 : Int32) (w_3 : Value) (o0 : Addr) (cn : Int32) : Int32 := cn
def Q_asl (Z : State) (w_0 w_1 : Addr) (w_2 : Int32) (w_3 : Value) (o0 : Addr) (cn : Int32) (h0 : Heap) (n0 : Nat) (v : Option Value) (h : Heap) (L : List Loc) : Prop := v = some (.int (f_asl w_0 w_1 w_2 w_3 o0 cn)) ∧ Fr n0 L ∧ h = h0
theorem rm_asl (l : Launch) (Z : State) (a0 : Array Value) (hw : HW Z a0) (ws : List Jvm.Cond) (w_0 w_1 : Addr) (w_2 : Int32) (w_3 : Value) (o0 : Addr) (cn : Int32) (h0 : Heap) (n0 : Nat) (Z0 : n0 ≤ h0.size) (ST : own_St Z w_0 w_1 w_2 w_3) (O0 : Old Z n0 h0) (Fbn : Fld Z h0 o0 cn_0 "count" "I" (.int cn)) :
    own_Met l y_25 jdk_68_method_6_code 1 (some .int) ws rr_asl Z #[(.ref o0)] h0 (Q_asl Z w_0 w_1 w_2 w_3 o0 cn h0 n0) := by
  refine MetFree.of_bodySF (plainFor_of_name pn_3) hisR ?_
  intro p e s m args below meth c s₁ Bd hml0 hP hK
  obtain ⟨rfl, hZ, hh⟩ := hP
  have hx := Bd.exec
  have hby := Bd.bytes
  have B := @hb _ _ hby
  have hml : c.maxLocals = 1 := hml0
  have hown : s.vm.findClass cn_0 = some m.cls := findClass_of_methodNamed Bd.named
  have X0 : Stand p l e rr_asl s m #[(.ref o0)] below meth c s₁ [] 0 0 := Stand.of_body Bd
  have e0 : s₁.heap = h0 := by rw [← hh, Bd.state]; rfl
  have N0 := Fr.nil n0
  obtain ⟨G, step, ret, fin⟩ := own_openX X0 (rr_asl.cells) (rr_asl.slots) (Q_asl Z w_0 w_1 w_2 w_3 o0 cn h0 n0) Bd.notSynchronized
  refine fin (g := entryFrame m #[(.ref o0)] 1) ?_
  rw [ef_asl m o0]
  refine step (fun _ => XS.aloadN X0.here hx rfl (B d25_0) rfl rfl) ?_
  obtain ⟨T1, X1, e1, st1⟩ := getF X0 hx hZ hown (host := "") (Or.inl (ww114 hw)) Via.refl e0 Fbn (g := (mkF m 1 #[vR o0] [(.ref o0)])) rfl rfl (B d25_1)
  refine step st1 ?_
  exact ret (v := some (.int cn)) X1 (fun h => by rw [Bd.returns] at h; cases h) (fun fs hr => retI X1 hx Bd.returns (B d25_4) hr) e1 ⟨rfl, N0, rfl⟩ (by decide) (by decide)
theorem d26_0 : decode qc26 0 = .ok (.aload_n 0, 1) := by decide +kernel
theorem d26_1 : decode qc26 1 = .ok (.invokespecial 343, 3) := by decide +kernel
theorem ww166 (hw : HW Z a0) : Cond.before (Cond.methodLink cn_4 343 ({ cls := cn_0, name := "length", desc := "()I" } : MethodName)) a0 Z = true := own_w hw 166 rfl
theorem ww167 (hw : HW Z a0) : Cond.before (Cond.code ({ cls := cn_0, name := "length", desc := "()I" } : MethodName) jdk_68_method_6_code 1 (Option.some FieldType.int)) a0 Z = true := own_w hw 167 rfl
theorem ww161 (hw : HW Z a0) : Cond.before (Cond.declares ({ cls := cn_0, name := "length", desc := "()I" } : MethodName)) a0 Z = true := own_w hw 161 rfl
theorem ww162 (hw : HW Z a0) : Cond.before (Cond.instanceMethod ({ cls := cn_0, name := "length", desc := "()I" } : MethodName)) a0 Z = true := own_w hw 162 rfl
theorem d26_4 : decode qc26 4 = .ok (.ireturn, 1) := by decide +kernel
abbrev rr_sbl : Room := { frames := 1, cells := 0, slots := 0, locals := 12 }
abbrev y_26 : MethodName := ⟨cn_4, "length", "()I"⟩
theorem ef_sbl (m : MethodId) (o0 : Addr) : entryFrame m #[(.ref o0)] 1 = mkF m 0 #[vR o0] [] := by first | (simp [entryFrame, mkF, argsToLocals, Value.category]; done) | rfl
def f_sbl (w_0 w_1 : Addr) (w_2 : Int32) (w_3 : Value) (o0 : Addr) (cn : Int32) : Int32 := cn
def Q_sbl (Z : State) (w_0 w_1 : Addr) (w_2 : Int32) (w_3 : Value) (o0 : Addr) (cn : Int32) (h0 : Heap) (n0 : Nat) (v : Option Value) (h : Heap) (L : List Loc) : Prop := v = some (.int (f_sbl w_0 w_1 w_2 w_3 o0 cn)) ∧ Fr n0 L ∧ h = h0
theorem rm_sbl (l : Launch) (Z : State) (a0 : Array Value) (hw : HW Z a0) (ws : List Jvm.Cond) (w_0 w_1 : Addr) (w_2 : Int32) (w_3 : Value) (o0 : Addr) (cn : Int32) (h0 : Heap) (n0 : Nat) (Z0 : n0 ≤ h0.size) (ST : own_St Z w_0 w_1 w_2 w_3) (O0 : Old Z n0 h0) (Eb : Exa Z h0 o0 cn_4) (Fbn : Fld Z h0 o0 cn_0 "count" "I" (.int cn)) :
    own_Met l y_26 jdk_67_method_93_code 1 (some .int) ws rr_sbl Z #[(.ref o0)] h0 (Q_sbl Z w_0 w_1 w_2 w_3 o0 cn h0 n0) := by
  refine MetFree.of_bodySF (plainFor_of_name pn_4) hisR ?_
  intro p e s m args below meth c s₁ Bd hml0 hP hK
  obtain ⟨rfl, hZ, hh⟩ := hP
  have hx := Bd.exec
  have hby := Bd.bytes
  have B := @hb _ _ hby
  have hml : c.maxLocals = 1 := hml0
  have hown : s.vm.findClass cn_4 = some m.cls := findClass_of_methodNamed Bd.named
  have X0 : Stand p l e rr_sbl s m #[(.ref o0)] below meth c s₁ [] 0 0 := Stand.of_body Bd
  have e0 : s₁.heap = h0 := by rw [← hh, Bd.state]; rfl
  have N0 := Fr.nil n0
  obtain ⟨G, step, ret, fin⟩ := own_openX X0 (rr_sbl.cells) (rr_sbl.slots) (Q_sbl Z w_0 w_1 w_2 w_3 o0 cn h0 n0) Bd.notSynchronized
  refine fin (g := entryFrame m #[(.ref o0)] 1) ?_
  rw [ef_sbl m o0]
  refine step (fun _ => XS.aloadN X0.here hx rfl (B d26_0) rfl rfl) ?_
  have hK1 := (backOf (R := rr_sbl) (p := p) (e := e) (below := below) (s := s) (args := #[(.ref o0)]) (len := 3) (W := 0) (rm_asl l Z a0 hw [] w_0 w_1 w_2 w_3 o0 cn h0 n0 (own_old_le O0) ST O0 Fbn) hZ (ww167 hw) (ww86 hw) (by decide) (by decide))
  obtain ⟨_, _, ⟨T1, L1, k1, n1⟩, -, X1, ⟨Lc1, hQ1, l1, y1, z1⟩, st1⟩ := superBack X0 hx hZ (y := y_25) hown (ww166 hw) (own_same (ww161 hw) (ww158 hw) (ww156 hw) rfl (by decide)) (ww162 hw) (ww101 hw) (by decide) hK1 e0 (Ins.self Eb) (g := (mkF m 1 #[vR o0] [(.ref o0)])) rfl (by rw [hml]; rfl) (ww167 hw) (argsL := []) (rest := []) (lenOf pd_15 rfl) rfl (by show 2 * 0 + _ ≤ _; exact Nat.le_of_eq rfl) (B d26_1) (fun _ _ => ⟨rfl, e0, (by decide : 0 + 0 ≤ _), (by decide : 0 + 0 ≤ _)⟩)
  dsimp only [Pt.U, Pt.locs, Pt.cells, Pt.slots] at X1 l1 y1 z1 st1 hQ1
  subst l1 y1 z1
  obtain ⟨rfl, N1q, e1⟩ := hQ1
  have N1 := Fr.app N0 N1q
  obtain ⟨lc1, X1, N1⟩ := own_gen X1 N1
  refine step (fun t k => st1.trans k) ?_
  have r2 : (f_asl w_0 w_1 w_2 w_3 o0 cn) = cn := rfl
  rw [r2]
  exact ret (v := some (.int cn)) X1 (fun h => by rw [Bd.returns] at h; cases h) (fun fs hr => retI X1 hx Bd.returns (B d26_4) hr) e1 ⟨rfl, N1, rfl⟩ (by decide) (by decide)
theorem d27_0 : decode qc27 0 = .ok (.getstatic 18, 3) := by decide +kernel
theorem d27_3 : decode qc27 3 = .ok (.ifCond .eq 14, 3) := by decide +kernel
theorem d27_6 : decode qc27 6 = .ok (.aload_n 0, 1) := by decide +kernel
theorem d27_7 : decode qc27 7 = .ok (.getfield 22, 3) := by decide +kernel
theorem d27_10 : decode qc27 10 = .ok (.ifCond .ne 7, 3) := by decide +kernel
theorem d27_13 : decode qc27 13 = .ok (.iconst 1, 1) := by decide +kernel
theorem d27_14 : decode qc27 14 = .ok (.goto 4, 3) := by decide +kernel
theorem d27_18 : decode qc27 18 = .ok (.ireturn, 1) := by decide +kernel
abbrev rr_il : Room := { frames := 0, cells := 0, slots := 0, locals := 0 }
abbrev y_27 : MethodName := ⟨cn_0, "isLatin1", "()Z"⟩
theorem ef_il (m : MethodId) (o0 : Addr) : entryFrame m #[(.ref o0)] 1 = mkF m 0 #[vR o0] [] := by first | (simp [entryFrame, mkF, argsToLocals, Value.category]; done) | rfl
def f_il (w_0 w_1 : Addr) (w_2 : Int32) (w_3 : Value) (o0 : Addr) : Int32 := (1 : Int32)
def Q_il (Z : State) (w_0 w_1 : Addr) (w_2 : Int32) (w_3 : Value) (o0 : Addr) (h0 : Heap) (n0 : Nat) (v : Option Value) (h : Heap) (L : List Loc) : Prop := v = some (.int (f_il w_0 w_1 w_2 w_3 o0)) ∧ Fr n0 L ∧ h = h0
theorem rm_il (l : Launch) (Z : State) (a0 : Array Value) (hw : HW Z a0) (ws : List Jvm.Cond) (w_0 w_1 : Addr) (w_2 : Int32) (w_3 : Value) (o0 : Addr) (h0 : Heap) (n0 : Nat) (Z0 : n0 ≤ h0.size) (ST : own_St Z w_0 w_1 w_2 w_3) (O0 : Old Z n0 h0) (Fbc : Fld Z h0 o0 cn_0 "coder" "B" (.int 0)) :
    own_Met l y_27 jdk_68_method_68_code 1 (some .boolean) ws rr_il Z #[(.ref o0)] h0 (Q_il Z w_0 w_1 w_2 w_3 o0 h0 n0) := by
  refine MetFree.of_bodySF (plainFor_of_name pn_3) hisR ?_
  intro p e s m args below meth c s₁ Bd hml0 hP hK
  obtain ⟨rfl, hZ, hh⟩ := hP
  have hx := Bd.exec
  have hby := Bd.bytes
  have B := @hb _ _ hby
  have hml : c.maxLocals = 1 := hml0
  have hown : s.vm.findClass cn_0 = some m.cls := findClass_of_methodNamed Bd.named
  have X0 : Stand p l e rr_il s m #[(.ref o0)] below meth c s₁ [] 0 0 := Stand.of_body Bd
  have e0 : s₁.heap = h0 := by rw [← hh, Bd.state]; rfl
  have N0 := Fr.nil n0
  obtain ⟨G, step, ret, fin⟩ := own_openX X0 (rr_il.cells) (rr_il.slots) (Q_il Z w_0 w_1 w_2 w_3 o0 h0 n0) Bd.notSynchronized
  refine fin (g := entryFrame m #[(.ref o0)] 1) ?_
  rw [ef_il m o0]
  obtain ⟨T1, X1, e1, st1⟩ := getS2 X0 hx hZ hown (host := "") (Or.inl (ww89 hw)) Via.refl e0 (Sta.ext O0.2 ST.k4) (g := (mkF m 0 #[vR o0] [])) rfl (B d27_0)
  refine step st1 ?_
  refine step (fun _ => XS.ifNo X1.here hx rfl (B d27_3) rfl ((if0 _ _).trans (feq ST.k7).1)) ?_
  refine step (fun _ => XS.aloadN X1.here hx rfl (B d27_6) rfl rfl) ?_
  obtain ⟨T2, X2, e2, st2⟩ := getF X1 hx hZ hown (host := "") (Or.inl (ww92 hw)) Via.refl e1 Fbc (g := (mkF m 7 #[vR o0] [(.ref o0)])) rfl rfl (B d27_7)
  refine step st2 ?_
  refine step (fun _ => XS.ifNo X2.here hx rfl (B d27_10) rfl ((if0 _ _).trans (teq (by decide : (0 : Int32) = (0 : Int32))).2)) ?_
  refine step (fun _ => XS.iconst X2.here hx rfl (B d27_13)) ?_
  refine step (fun _ => XS.goto X2.here hx rfl (pc0 := 14) (pc' := 18) rfl (B d27_14) (by decide) (by decide)) ?_
  exact ret (v := some (.int 1)) X2 (fun h => by rw [Bd.returns] at h; cases h) (fun fs hr => retN X2 hx (t := .boolean) Bd.returns (by simp) (B d27_18) hr) e2 ⟨rfl, N0, rfl⟩ (by decide) (by decide)
theorem d28_0 : decode qc28 0 = .ok (.iload_n 1, 1) := by decide +kernel
theorem d28_1 : decode qc28 1 = .ok (.iload_n 0, 1) := by decide +kernel
theorem d28_2 : decode qc28 2 = .ok (.if_icmp .ge 35, 3) := by decide +kernel
theorem d28_37 : decode qc28 37 = .ok (.return_, 1) := by decide +kernel
abbrev rr_ck : Room := { frames := 0, cells := 0, slots := 0, locals := 0 }
abbrev y_28 : MethodName := ⟨cn_9, "checkLength", "(II)V"⟩
theorem ef_ck (m : MethodId) (p1 : Int32) : entryFrame m #[(.int 0), (.int p1)] 2 = mkF m 0 #[vI 0, vI p1] [] := by first | (simp [entryFrame, mkF, argsToLocals, Value.category]; done) | rfl
def Q_ck (Z : State)  (p1 : Int32) (h0 : Heap) (n0 : Nat) (v : Option Value) (h : Heap) (L : List Loc) : Prop := v = none ∧ Fr n0 L ∧ h = h0
theorem rm_ck (l : Launch) (Z : State) (a0 : Array Value) (hw : HW Z a0) (ws : List Jvm.Cond)  (p1 : Int32) (h0 : Heap) (n0 : Nat) (Z0 : n0 ≤ h0.size) (O0 : Old Z n0 h0) (h1 : ¬ (p1 < (0 : Int32))) :
    own_Met l y_28 jdk_65_method_131_code 2 none ws rr_ck Z #[(.int 0), (.int p1)] h0 (Q_ck Z p1 h0 n0) := by
  refine MetFree.of_bodySF (plainFor_of_name pn_6) hisR ?_
  intro p e s m args below meth c s₁ Bd hml0 hP hK
  obtain ⟨rfl, hZ, hh⟩ := hP
  have hx := Bd.exec
  have hby := Bd.bytes
  have B := @hb _ _ hby
  have hml : c.maxLocals = 2 := hml0
  have hown : s.vm.findClass cn_9 = some m.cls := findClass_of_methodNamed Bd.named
  have X0 : Stand p l e rr_ck s m #[(.int 0), (.int p1)] below meth c s₁ [] 0 0 := Stand.of_body Bd
  have e0 : s₁.heap = h0 := by rw [← hh, Bd.state]; rfl
  have N0 := Fr.nil n0
  obtain ⟨G, step, ret, fin⟩ := own_openX X0 (rr_ck.cells) (rr_ck.slots) (Q_ck Z p1 h0 n0) Bd.notSynchronized
  refine fin (g := entryFrame m #[(.int 0), (.int p1)] 2) ?_
  rw [ef_ck m p1]
  refine step (fun _ => XS.iloadN X0.here hx rfl (B d28_0) rfl) ?_
  refine step (fun _ => XS.iloadN X0.here hx rfl (B d28_1) rfl) ?_
  refine step (fun _ => XS.icmpYes X0.here hx rfl (pc0 := 2) (pc' := 37) rfl (B d28_2) rfl (flt h1).2.1 (by decide) (by decide)) ?_
  exact ret (v := none) X0 (fun _ => rfl) (fun fs hr => X0.returnOut hx Bd.returns (B d28_37) hr) e0 ⟨rfl, N0, rfl⟩ (by decide) (by decide)
theorem own_clt {cn q : Int32} {cs : List Int32} (h : own_sbp cn q cs) (g : ¬ cn = q) : cn < q := by
  have e1 := own_ci h
  have e2 := own_qi h.2.2.1
  have e3 := h.2.2.2
  rw [own_xeq] at g
  rw [own_xlt]
  omega
theorem own_c34 {cn q : Int32} {cs : List Int32} (h : own_sbp cn q cs) : cn.toNatClampNeg ≤ 34 := by
  rw [(own_sbn h).2.1, own_bl]
  exact (own_sbn h).2.2.2.2.2
theorem own_okS {cn q : Int32} {cs : List Int32} (h : own_sbp cn q cs) : own_ok cn cs := ⟨h.1, h.2.1, (own_sbn h).2.2.2.2.2⟩
theorem d29_0 : decode qc29 0 = .ok (.iload_n 1, 1) := by decide +kernel
theorem d29_1 : decode qc29 1 = .ok (.iload_n 2, 1) := by decide +kernel
theorem d29_2 : decode qc29 2 = .ok (.invokestatic 343, 3) := by decide +kernel
theorem ww180 (hw : HW Z a0) : Cond.before (Cond.methodLink cn_9 343 ({ cls := cn_9, name := "checkLength", desc := "(II)V" } : MethodName)) a0 Z = true := own_w hw 180 rfl
theorem ww182 (hw : HW Z a0) : Cond.before (Cond.code ({ cls := cn_9, name := "checkLength", desc := "(II)V" } : MethodName) jdk_65_method_131_code 2 (Option.none : Option Jvm.ClassFile.FieldType)) a0 Z = true := own_w hw 182 rfl
theorem ww181 (hw : HW Z a0) : Cond.before (Cond.static ({ cls := cn_9, name := "checkLength", desc := "(II)V" } : MethodName)) a0 Z = true := own_w hw 181 rfl
theorem d29_5 : decode qc29 5 = .ok (.iload_n 2, 1) := by decide +kernel
theorem d29_6 : decode qc29 6 = .ok (.iload_n 1, 1) := by decide +kernel
theorem d29_7 : decode qc29 7 = .ok (.isub, 1) := by decide +kernel
theorem d29_8 : decode qc29 8 = .ok (.istore_n 3, 1) := by decide +kernel
theorem d29_9 : decode qc29 9 = .ok (.iload_n 3, 1) := by decide +kernel
theorem d29_10 : decode qc29 10 = .ok (.newarray .byte, 2) := by decide +kernel
theorem d29_12 : decode qc29 12 = .ok (.astore 4, 2) := by decide +kernel
theorem d29_14 : decode qc29 14 = .ok (.aload_n 0, 1) := by decide +kernel
theorem d29_15 : decode qc29 15 = .ok (.iload_n 1, 1) := by decide +kernel
theorem d29_16 : decode qc29 16 = .ok (.aload 4, 2) := by decide +kernel
theorem d29_18 : decode qc29 18 = .ok (.iconst 0, 1) := by decide +kernel
theorem d29_19 : decode qc29 19 = .ok (.aload_n 0, 1) := by decide +kernel
theorem d29_20 : decode qc29 20 = .ok (.arraylength, 1) := by decide +kernel
theorem d29_21 : decode qc29 21 = .ok (.iload_n 1, 1) := by decide +kernel
theorem d29_22 : decode qc29 22 = .ok (.isub, 1) := by decide +kernel
theorem d29_23 : decode qc29 23 = .ok (.iload_n 3, 1) := by decide +kernel
theorem d29_24 : decode qc29 24 = .ok (.invokestatic 304, 3) := by decide +kernel
theorem d29_27 : decode qc29 27 = .ok (.invokestatic 150, 3) := by decide +kernel
theorem d29_30 : decode qc29 30 = .ok (.aload 4, 2) := by decide +kernel
theorem d29_32 : decode qc29 32 = .ok (.areturn, 1) := by decide +kernel
abbrev rr_cb : Room := { frames := 1, cells := 1, slots := 34, locals := 18 }
abbrev y_29 : MethodName := ⟨cn_9, "copyOfRangeByte", "([BII)[B"⟩
theorem ef_cb (m : MethodId) (o0 : Addr) (cn : Int32) : entryFrame m #[(.ref o0), (.int 0), (.int cn)] 5 = mkF m 0 #[vR o0, vI 0, vI cn, u_, u_] [] := by first | (simp [entryFrame, mkF, argsToLocals, Value.category]; done) | rfl
def Q_cb (Z : State) (w_0 w_1 : Addr) (w_2 : Int32) (w_3 : Value) (o0 : Addr) (cn : Int32) (ka : ClassId) (q : Int32) (cs : List Int32) (h0 : Heap) (n0 : Nat) (v : Option Value) (h : Heap) (L : List Loc) : Prop := ∃ b : Addr, ∃ kb : ClassId, v = some (.ref b) ∧ Fr n0 L ∧ Keep h0 h [] ∧ h0.size ≤ b ∧ Arv Z h b kb .byte cn (own_by cs) (.int 0)
theorem rm_cb (l : Launch) (Z : State) (a0 : Array Value) (hw : HW Z a0) (ws : List Jvm.Cond) (w_0 w_1 : Addr) (w_2 : Int32) (w_3 : Value) (o0 : Addr) (cn : Int32) (ka : ClassId) (q : Int32) (cs : List Int32) (h0 : Heap) (n0 : Nat) (Z0 : n0 ≤ h0.size) (ST : own_St Z w_0 w_1 w_2 w_3) (O0 : Old Z n0 h0) (Vb : Arv Z h0 o0 ka .byte q (own_by cs) (.int 0)) (hsb : own_sbp cn q cs) (hne : ¬ (cn = q)) :
    own_Met l y_29 jdk_65_method_133_code 5 (some (.array .byte)) ws rr_cb Z #[(.ref o0), (.int 0), (.int cn)] h0 (Q_cb Z w_0 w_1 w_2 w_3 o0 cn ka q cs h0 n0) := by
  refine MetFree.of_bodySF (plainFor_of_name pn_6) hisR ?_
  intro p e s m args below meth c s₁ Bd hml0 hP hK
  obtain ⟨rfl, hZ, hh⟩ := hP
  have hx := Bd.exec
  have hby := Bd.bytes
  have B := @hb _ _ hby
  have hml : c.maxLocals = 5 := hml0
  have hown : s.vm.findClass cn_9 = some m.cls := findClass_of_methodNamed Bd.named
  have X0 : Stand p l e rr_cb s m #[(.ref o0), (.int 0), (.int cn)] below meth c s₁ [] 0 0 := Stand.of_body Bd
  have e0 : s₁.heap = h0 := by rw [← hh, Bd.state]; rfl
  have N0 := Fr.nil n0
  have K0 : Keep h0 h0 [] := Keep.refl _ _
  obtain ⟨G, step, ret, fin⟩ := own_openX X0 (rr_cb.cells) (rr_cb.slots) (Q_cb Z w_0 w_1 w_2 w_3 o0 cn ka q cs h0 n0) Bd.notSynchronized
  refine fin (g := entryFrame m #[(.ref o0), (.int 0), (.int cn)] 5) ?_
  rw [ef_cb m o0 cn]
  refine step (fun _ => XS.iloadN X0.here hx rfl (B d29_0) rfl) ?_
  refine step (fun _ => XS.iloadN X0.here hx rfl (B d29_1) rfl) ?_
  have hK1 := (backOf (R := rr_cb) (p := p) (e := e) (below := below) (s := s) (args := #[(.ref o0), (.int 0), (.int cn)]) (len := 3) (W := 0) (rm_ck l Z a0 hw [] cn h0 n0 (own_old_le O0) O0 ((own_sbn hsb).1 : ¬ (cn < (0 : Int32)))) hZ (ww182 hw) (ww175 hw) (by decide) (by decide))
  obtain ⟨_, _, ⟨T1, L1, k1, n1⟩, -, X1, ⟨Lc1, hQ1, l1, y1, z1⟩, st1⟩ := Jvm.LawKit.callS X0 hx (y := y_28) hown (mvT hZ (ww180 hw)) (mvT hZ (ww181 hw)) (mvT hZ (ww175 hw)) (mvT hZ (ww182 hw)) (by decide) hK1 (g := (mkF m 2 #[vR o0, vI 0, vI cn, u_, u_] [(.int cn), (.int 0)])) rfl (by rw [hml]; rfl) (argsL := [(.int 0), (.int cn)]) (rest := []) (lenOf pd_5 rfl) rfl (by show 2 * 0 + _ ≤ _; exact Nat.le_of_eq rfl) (B d29_2) (fun _ _ => ⟨rfl, e0, (by decide : 0 + 0 ≤ _), (by decide : 0 + 0 ≤ _)⟩)
  dsimp only [Pt.U, Pt.locs, Pt.cells, Pt.slots] at X1 l1 y1 z1 st1 hQ1
  subst l1 y1 z1
  obtain ⟨rfl, N1q, e1⟩ := hQ1
  have N1 := Fr.app N0 N1q
  obtain ⟨lc1, X1, N1⟩ := own_gen X1 N1
  refine step (fun t k => st1 t k) ?_
  refine step (fun _ => XS.iloadN X1.here hx rfl (B d29_5) rfl) ?_
  refine step (fun _ => XS.iloadN X1.here hx rfl (B d29_6) rfl) ?_
  refine step (fun _ => XS.isub X1.here hx rfl (B d29_7) rfl) ?_
  show G T1 (mkF m 8 #[vR o0, vI 0, vI cn, u_, u_] [(.int (cn - (0 : Int32)))])
  rw [own_sub0]
  refine step (fun _ => XS.istoreN X1.here hx rfl (B d29_8) rfl (l' := #[vR o0, vI 0, vI cn, vI cn, u_]) rfl) ?_
  refine step (fun _ => XS.iloadN X1.here hx rfl (B d29_9) rfl) ?_
  obtain ⟨T3, h3, k3, X3, e3, E3, A3, B3, st3⟩ := newPE (aty := .byte) X1 hx hZ (ww14 hw) e1 (g := (mkF m 10 #[vR o0, vI 0, vI cn, vI cn, u_] [(.int cn)])) rfl (B d29_10) rfl (own_sbn hsb).1 (cap := 34) (own_c34 hsb) (by decide) (by decide) (by decide) (ad := "[B") (by decide)
  obtain ⟨b3, g3⟩ : ∃ z, z = h0.size := ⟨_, rfl⟩
  rw [← g3] at A3 B3 st3
  have V3 : Arv Z h3 b3 k3 .byte cn [] (.int 0) := Arv.new A3 (own_sbn hsb).1
  have ge_b3 : n0 ≤ b3 := Nat.le_trans (own_old_le O0) (Nat.le_of_eq g3.symm)
  have sz_b3 : h0.size ≤ b3 := Nat.le_trans K0.1 (Nat.le_of_eq g3.symm)
  have O3 := O0.ext E3
  have K3 : Keep h0 h3 [] := K0.ext E3
  refine step st3 ?_
  refine step (fun _ => XS.astore X3.here hx rfl (B d29_12) rfl rfl (l' := #[vR o0, vI 0, vI cn, vI cn, vR b3]) rfl) ?_
  refine step (fun _ => XS.aloadN X3.here hx rfl (B d29_14) rfl rfl) ?_
  refine step (fun _ => XS.iloadN X3.here hx rfl (B d29_15) rfl) ?_
  refine step (fun _ => XS.aload X3.here hx rfl (B d29_16) rfl rfl) ?_
  refine step (fun _ => XS.iconst X3.here hx rfl (B d29_18)) ?_
  show G T3 (mkF m 19 #[vR o0, vI 0, vI cn, vI cn, vR b3] [(.int 0), (.ref b3), (.int 0), (.ref o0)])
  refine step (fun _ => XS.aloadN X3.here hx rfl (B d29_19) rfl rfl) ?_
  have f4 := (Vb.ext E3)
  have q5 := own_len X3 hx hZ e3 f4 (g := (mkF m 20 #[vR o0, vI 0, vI cn, vI cn, vR b3] [(.ref o0), (.int 0), (.ref b3), (.int 0), (.ref o0)])) rfl rfl (B d29_20)
  refine step q5 ?_
  refine step (fun _ => XS.iloadN X3.here hx rfl (B d29_21) rfl) ?_
  refine step (fun _ => XS.isub X3.here hx rfl (B d29_22) rfl) ?_
  show G T3 (mkF m 23 #[vR o0, vI 0, vI cn, vI cn, vR b3] [(.int (q - (0 : Int32))), (.int 0), (.ref b3), (.int 0), (.ref o0)])
  rw [own_sub0]
  refine step (fun _ => XS.iloadN X3.here hx rfl (B d29_23) rfl) ?_
  have hK6 := (backOf (R := rr_cb) (p := p) (e := e) (below := below) (s := s) (args := #[(.ref o0), (.int 0), (.int cn)]) (len := 3) (W := 4) (rm_min l Z a0 hw [] q cn h3 n0 (own_old_le O3) O3) hZ (ww186 hw) (ww185 hw) (by decide) (by decide))
  obtain ⟨_, _, ⟨T6, L6, k6, n6⟩, -, X6, ⟨Lc6, hQ6, l6, y6, z6⟩, st6⟩ := Jvm.LawKit.callS X3 hx (y := y_15) hown (mvT hZ (ww183 hw)) (mvT hZ (ww184 hw)) (mvT hZ (ww185 hw)) (mvT hZ (ww186 hw)) (by decide) hK6 (g := (mkF m 24 #[vR o0, vI 0, vI cn, vI cn, vR b3] [(.int cn), (.int q), (.int 0), (.ref b3), (.int 0), (.ref o0)])) rfl (by rw [hml]; rfl) (argsL := [(.int q), (.int cn)]) (rest := [(.int 0), (.ref b3), (.int 0), (.ref o0)]) (lenOf pd_9 rfl) rfl (by show 2 * 0 + _ ≤ _; exact Nat.le_of_eq rfl) (B d29_24) (fun _ _ => ⟨rfl, e3, (by decide : 1 + 0 ≤ _), (by decide : 34 + 0 ≤ _)⟩)
  dsimp only [Pt.U, Pt.locs, Pt.cells, Pt.slots] at X6 l6 y6 z6 st6 hQ6
  subst l6 y6 z6
  obtain ⟨rfl, N6q, e6⟩ := hQ6
  have N6 := Fr.app N1 N6q
  obtain ⟨lc6, X6, N6⟩ := own_gen X6 N6
  refine step (fun t k => st6 t k) ?_
  have r7 : (f_min q cn) = cn := by
    unfold f_min
    rw [if_pos (own_clt hsb hne)]
  rw [r7]
  obtain ⟨T8, h8, lc8, X8, e8, N8, Kw8, V8, st8⟩ := own_cpE X6 hx hZ hown (ww187 hw) (ww140 hw) (ww138 hw) (ww139 hw) e6 f4 V3 (by decide) (own_sbn hsb).1 (by decide) (own_sbn hsb).2.1 (by rw [own_bl]; exact hsb.2.2.2) (by rw [(own_sbn hsb).2.1]; exact Nat.le_of_eq (Nat.zero_add _)) N6 ge_b3 (g := (mkF m 27 #[vR o0, vI 0, vI cn, vI cn, vR b3] [(.int cn), (.int 0), (.ref b3), (.int 0), (.ref o0)])) rfl (by rw [hml]; rfl) rfl (B d29_27) (by decide) (W := 0) (by show 2 * 0 + _ ≤ _; exact Nat.le_of_eq rfl) (by decide)
  have K8 : Keep h0 h8 [] := K3.trans Kw8 (allS (Or.inr sz_b3) all0)
  refine step st8 ?_
  have V8b : Arv Z h8 b3 k3 .byte cn (own_by cs) (.int 0) := V8
  refine step (fun _ => XS.aload X8.here hx rfl (B d29_30) rfl rfl) ?_
  exact ret (v := some (.ref b3)) X8 (fun h => by rw [Bd.returns] at h; cases h) (fun fs hr => retA X8 hx Bd.returns rfl rfl (B d29_32) hr) e8 ⟨b3, k3, rfl, N8, K8, sz_b3, V8b⟩ (by decide) (by decide)
section CloneV
variable {p : Program} {l : Launch} {e : Env} {R : Room} {s : State} {m : MethodId} {args : Array Value} {below : List Frame} {meth : Method} {c : Code} {T : State} {locs : List Loc} {cells slots : Nat} {Z : State} {h : Heap} {a : Addr} {ty : FieldType}
theorem own_cloneV (X : Stand p l e R s m args below meth c T locs cells slots) (hx : p.tables.exec = Jvm.exec) (hZ : Z.Warmed39 s.vm) {a0 : Array Value} {own ad : String} {index : Nat} (hown : s.vm.findClass own = some m.cls)
    (w1 : (Cond.methodLink own index ⟨ad, "clone", cn_19⟩).before a0 Z = true) (w2 : (Cond.sameMethod ad cn_15 "clone" cn_19).before a0 Z = true) (w3 : (Cond.native ⟨cn_15, "clone", cn_19⟩).before a0 Z = true)
    (w4 : (Cond.instanceMethod ⟨cn_15, "clone", cn_19⟩).before a0 Z = true) (w5 : (Cond.selects ad ⟨ad, "clone", cn_19⟩ ⟨cn_15, "clone", cn_19⟩).before a0 Z = true) (w6 : (Cond.castable ad "java/lang/Cloneable").before a0 Z = true)
    (eT : T.heap = h) {k : ClassId} {z : Int32} {vs : List Value} {dv : Value} (F : Arv Z h a k ty z vs dv) (E : Exa Z h a ad) {g : JFrame} (hg : g.method = m) (hsize : g.locals.size = c.maxLocals) {rest : List Value} (hst : g.stack = .ref a :: rest) (hd : decode c.code g.pc = .ok (.invokevirtual index, 3))
    (hf : 1 ≤ R.frames) {W cap : Nat} (hW : 2 * g.monitorRoom + (rest.map fun v => v.category).sum ≤ W) (hl : W + 14 ≤ R.locals) (hcap : z.toNatClampNeg ≤ cap) (hc : cells + 1 ≤ R.cells) (hsl : slots + cap ≤ R.slots) :
    ∃ T' h', Stand p l e R s m args below meth c T' locs (cells + 1) (slots + cap) ∧ T'.heap = h' ∧ Ext h h' ∧ Arv Z h' h.size k ty z vs dv ∧ Exa Z h' h.size ad ∧
      ∀ target, Steps p.tables e below (T'.setTop { g with pc := g.pc + 3, stack := .ref h.size :: rest }) target → Steps p.tables e below (T.setTop g) target := by
  obtain ⟨cl, A, q1, S, q3, H, G⟩ := F
  have FC : FitC Z cl := fitC_of A fun i hi v hv => by rw [H i hi] at hv; cases hv; exact G i hi
  obtain ⟨T', h', X', e', ex, A', E', st⟩ := cloneA X hx hZ hown w1 w2 w3 w4 w5 w6 eT A E FC hg hsize hst hd hf hW hl (by rw [S]; exact hcap) hc hsl
  exact ⟨T', h', X', e', ex, ⟨cloneOf cl, A', q1, S, q3, H, G⟩, E', st⟩
end CloneV
theorem d30_0 : decode qc30 0 = .ok (.iload_n 1, 1) := by decide +kernel
theorem d30_1 : decode qc30 1 = .ok (.ifCond .ne 9, 3) := by decide +kernel
theorem d30_4 : decode qc30 4 = .ok (.iload_n 2, 1) := by decide +kernel
theorem d30_5 : decode qc30 5 = .ok (.aload_n 0, 1) := by decide +kernel
theorem d30_6 : decode qc30 6 = .ok (.arraylength, 1) := by decide +kernel
theorem d30_7 : decode qc30 7 = .ok (.if_icmp .eq 10, 3) := by decide +kernel
theorem d30_17 : decode qc30 17 = .ok (.aload_n 0, 1) := by decide +kernel
theorem d30_18 : decode qc30 18 = .ok (.invokevirtual 310, 3) := by decide +kernel
theorem ww266 (hw : HW Z a0) : Cond.before (Cond.methodLink cn_9 310 ({ cls := "[B", name := "clone", desc := cn_19 } : MethodName)) a0 Z = true := own_w hw 266 rfl
theorem ww267 (hw : HW Z a0) : Cond.before (Cond.sameMethod "[B" cn_15 "clone" cn_19) a0 Z = true := own_w hw 267 rfl
theorem ww271 (hw : HW Z a0) : Cond.before (Cond.native ({ cls := cn_15, name := "clone", desc := cn_19 } : MethodName)) a0 Z = true := own_w hw 271 rfl
theorem ww269 (hw : HW Z a0) : Cond.before (Cond.instanceMethod ({ cls := cn_15, name := "clone", desc := cn_19 } : MethodName)) a0 Z = true := own_w hw 269 rfl
theorem ww270 (hw : HW Z a0) : Cond.before (Cond.selects "[B" ({ cls := "[B", name := "clone", desc := cn_19 } : MethodName) ({ cls := cn_15, name := "clone", desc := cn_19 } : MethodName)) a0 Z = true := own_w hw 270 rfl
theorem ww272 (hw : HW Z a0) : Cond.before (Cond.castable "[B" "java/lang/Cloneable") a0 Z = true := own_w hw 272 rfl
theorem d30_21 : decode qc30 21 = .ok (.checkcast 311, 3) := by decide +kernel
theorem ww273 (hw : HW Z a0) : Cond.before (Cond.classLink cn_9 311 "[B") a0 Z = true := own_w hw 273 rfl
theorem d30_24 : decode qc30 24 = .ok (.areturn, 1) := by decide +kernel
theorem d30_10 : decode qc30 10 = .ok (.aload_n 0, 1) := by decide +kernel
theorem d30_11 : decode qc30 11 = .ok (.iload_n 1, 1) := by decide +kernel
theorem d30_12 : decode qc30 12 = .ok (.iload_n 2, 1) := by decide +kernel
theorem d30_13 : decode qc30 13 = .ok (.invokestatic 339, 3) := by decide +kernel
theorem ww177 (hw : HW Z a0) : Cond.before (Cond.methodLink cn_9 339 ({ cls := cn_9, name := "copyOfRangeByte", desc := "([BII)[B" } : MethodName)) a0 Z = true := own_w hw 177 rfl
theorem ww179 (hw : HW Z a0) : Cond.before (Cond.code ({ cls := cn_9, name := "copyOfRangeByte", desc := "([BII)[B" } : MethodName) jdk_65_method_133_code 5 (Option.some (FieldType.array FieldType.byte))) a0 Z = true := own_w hw 179 rfl
theorem pd_18 : parseMethodDescriptor "([BII)[B" = some ⟨[(.array .byte), .int, .int], some (.array .byte)⟩ := by decide +kernel
theorem ww178 (hw : HW Z a0) : Cond.before (Cond.static ({ cls := cn_9, name := "copyOfRangeByte", desc := "([BII)[B" } : MethodName)) a0 Z = true := own_w hw 178 rfl
theorem d30_16 : decode qc30 16 = .ok (.areturn, 1) := by decide +kernel
abbrev rr_cr : Room := { frames := 2, cells := 1, slots := 34, locals := 34 }
abbrev y_30 : MethodName := ⟨cn_9, "copyOfRange", "([BII)[B"⟩
theorem ef_cr (m : MethodId) (o0 : Addr) (cn : Int32) : entryFrame m #[(.ref o0), (.int 0), (.int cn)] 3 = mkF m 0 #[vR o0, vI 0, vI cn] [] := by first | (simp [entryFrame, mkF, argsToLocals, Value.category]; done) | rfl
def Q_cr (Z : State) (w_0 w_1 : Addr) (w_2 : Int32) (w_3 : Value) (o0 : Addr) (cn : Int32) (ka : ClassId) (q : Int32) (cs : List Int32) (h0 : Heap) (n0 : Nat) (v : Option Value) (h : Heap) (L : List Loc) : Prop := ∃ b : Addr, ∃ kb : ClassId, v = some (.ref b) ∧ Fr n0 L ∧ Keep h0 h [] ∧ h0.size ≤ b ∧ Arv Z h b kb .byte cn (own_by cs) (.int 0)
theorem rm_cr (l : Launch) (Z : State) (a0 : Array Value) (hw : HW Z a0) (ws : List Jvm.Cond) (w_0 w_1 : Addr) (w_2 : Int32) (w_3 : Value) (o0 : Addr) (cn : Int32) (ka : ClassId) (q : Int32) (cs : List Int32) (h0 : Heap) (n0 : Nat) (Z0 : n0 ≤ h0.size) (ST : own_St Z w_0 w_1 w_2 w_3) (O0 : Old Z n0 h0) (Vb : Arv Z h0 o0 ka .byte q (own_by cs) (.int 0)) (Ea : Exa Z h0 o0 "[B") (hsb : own_sbp cn q cs) :
    own_Met l y_30 jdk_65_method_132_code 3 (some (.array .byte)) ws rr_cr Z #[(.ref o0), (.int 0), (.int cn)] h0 (Q_cr Z w_0 w_1 w_2 w_3 o0 cn ka q cs h0 n0) := by
  refine MetFree.of_bodySF (plainFor_of_name pn_6) hisR ?_
  intro p e s m args below meth c s₁ Bd hml0 hP hK
  obtain ⟨rfl, hZ, hh⟩ := hP
  have hx := Bd.exec
  have hby := Bd.bytes
  have B := @hb _ _ hby
  have hml : c.maxLocals = 3 := hml0
  have hown : s.vm.findClass cn_9 = some m.cls := findClass_of_methodNamed Bd.named
  have X0 : Stand p l e rr_cr s m #[(.ref o0), (.int 0), (.int cn)] below meth c s₁ [] 0 0 := Stand.of_body Bd
  have e0 : s₁.heap = h0 := by rw [← hh, Bd.state]; rfl
  have N0 := Fr.nil n0
  have K0 : Keep h0 h0 [] := Keep.refl _ _
  obtain ⟨G, step, ret, fin⟩ := own_openX X0 (rr_cr.cells) (rr_cr.slots) (Q_cr Z w_0 w_1 w_2 w_3 o0 cn ka q cs h0 n0) Bd.notSynchronized
  refine fin (g := entryFrame m #[(.ref o0), (.int 0), (.int cn)] 3) ?_
  rw [ef_cr m o0 cn]
  refine step (fun _ => XS.iloadN X0.here hx rfl (B d30_0) rfl) ?_
  refine step (fun _ => XS.ifNo X0.here hx rfl (B d30_1) rfl ((if0 _ _).trans (teq (by decide : (0 : Int32) = (0 : Int32))).2)) ?_
  refine step (fun _ => XS.iloadN X0.here hx rfl (B d30_4) rfl) ?_
  refine step (fun _ => XS.aloadN X0.here hx rfl (B d30_5) rfl rfl) ?_
  have q1 := own_len X0 hx hZ e0 Vb (g := (mkF m 6 #[vR o0, vI 0, vI cn] [(.ref o0), (.int cn)])) rfl rfl (B d30_6)
  refine step q1 ?_
  by_cases hc2 : cn = q
  · skip
    refine step (fun _ => XS.icmpYes X0.here hx rfl (pc0 := 7) (pc' := 17) rfl (B d30_7) rfl (teq hc2).1 (by decide) (by decide)) ?_
    refine step (fun _ => XS.aloadN X0.here hx rfl (B d30_17) rfl rfl) ?_
    obtain ⟨T3, h3, X3, e3, E3, V3, B3, st3⟩ := own_cloneV X0 hx hZ hown (ww266 hw) (ww267 hw) (ww271 hw) (ww269 hw) (ww270 hw) (ww272 hw) e0 Vb Ea (g := (mkF m 18 #[vR o0, vI 0, vI cn] [(.ref o0)])) rfl (by rw [hml]; rfl) rfl (B d30_18) (by decide) (W := 0) (by show 2 * 0 + _ ≤ _; exact Nat.le_of_eq rfl) (by decide) (cap := 34) (own_sbn hsb).2.2.1 (by decide) (by decide)
    obtain ⟨b3, g3⟩ : ∃ z, z = h0.size := ⟨_, rfl⟩
    rw [← g3] at V3 B3 st3
    have sz_b3 : h0.size ≤ b3 := Nat.le_trans K0.1 (Nat.le_of_eq g3.symm)
    have K3 : Keep h0 h3 [] := K0.ext E3
    have V3b : Arv Z h3 b3 ka .byte cn (own_by cs) (.int 0) := by rw [hc2]; exact V3
    refine step st3 ?_
    obtain ⟨T4, X4, e4, st4⟩ := castY X3 hx hZ hown (ww273 hw) e3 (Ins.self B3) (g := (mkF m 21 #[vR o0, vI 0, vI cn] [(.ref b3)])) rfl rfl (B d30_21)
    refine step st4 ?_
    exact ret (v := some (.ref b3)) X4 (fun h => by rw [Bd.returns] at h; cases h) (fun fs hr => retA X4 hx Bd.returns rfl rfl (B d30_24) hr) e4 ⟨b3, ka, rfl, N0, K3, sz_b3, V3b⟩ (by decide) (by decide)
  · skip
    refine step (fun _ => XS.icmpNo X0.here hx rfl (B d30_7) rfl (feq hc2).1) ?_
    refine step (fun _ => XS.aloadN X0.here hx rfl (B d30_10) rfl rfl) ?_
    refine step (fun _ => XS.iloadN X0.here hx rfl (B d30_11) rfl) ?_
    refine step (fun _ => XS.iloadN X0.here hx rfl (B d30_12) rfl) ?_
    have hK5 := (backOf (R := rr_cr) (p := p) (e := e) (below := below) (s := s) (args := #[(.ref o0), (.int 0), (.int cn)]) (len := 3) (W := 0) (rm_cb l Z a0 hw [] w_0 w_1 w_2 w_3 o0 cn ka q cs h0 n0 (own_old_le O0) ST O0 Vb hsb (hc2 : ¬ (cn = q))) hZ (ww179 hw) (ww175 hw) (by decide) (by decide))
    obtain ⟨_, _, ⟨T5, L5, k5, n5⟩, -, X5, ⟨Lc5, hQ5, l5, y5, z5⟩, st5⟩ := Jvm.LawKit.callS X0 hx (y := y_29) hown (mvT hZ (ww177 hw)) (mvT hZ (ww178 hw)) (mvT hZ (ww175 hw)) (mvT hZ (ww179 hw)) (by decide) hK5 (g := (mkF m 13 #[vR o0, vI 0, vI cn] [(.int cn), (.int 0), (.ref o0)])) rfl (by rw [hml]; rfl) (argsL := [(.ref o0), (.int 0), (.int cn)]) (rest := []) (lenOf pd_18 rfl) rfl (by show 2 * 0 + _ ≤ _; exact Nat.le_of_eq rfl) (B d30_13) (fun _ _ => ⟨rfl, e0, (by decide : 0 + 1 ≤ _), (by decide : 0 + 34 ≤ _)⟩)
    dsimp only [Pt.U, Pt.locs, Pt.cells, Pt.slots] at X5 l5 y5 z5 st5 hQ5
    subst l5 y5 z5
    obtain ⟨b5, kb_5, rfl, N5q, K5q, Y5_0, Y5_1⟩ := hQ5
    have N5 := Fr.app N0 N5q
    obtain ⟨lc5, X5, N5⟩ := own_gen X5 N5
    have K5 : Keep h0 T5.heap [] := K0.trans K5q all0
    have sz_b5 : h0.size ≤ b5 := Nat.le_trans K0.1 Y5_0
    refine step (fun t k => st5 t k) ?_
    exact ret (v := some (.ref b5)) X5 (fun h => by rw [Bd.returns] at h; cases h) (fun fs hr => retA X5 hx Bd.returns rfl rfl (B d30_16) hr) rfl ⟨b5, kb_5, rfl, N5, K5, sz_b5, Y5_1⟩ (by decide) (by decide)
theorem d31_0 : decode qc31 0 = .ok (.aload_n 0, 1) := by decide +kernel
theorem d31_1 : decode qc31 1 = .ok (.invokespecial 1, 3) := by decide +kernel
theorem d31_4 : decode qc31 4 = .ok (.aload_n 1, 1) := by decide +kernel
theorem d31_5 : decode qc31 5 = .ok (.invokevirtual 552, 3) := by decide +kernel
theorem ww155 (hw : HW Z a0) : Cond.before (Cond.methodLink cn_2 552 ({ cls := cn_0, name := "getValue", desc := "()[B" } : MethodName)) a0 Z = true := own_w hw 155 rfl
theorem ww159 (hw : HW Z a0) : Cond.before (Cond.code ({ cls := cn_0, name := "getValue", desc := "()[B" } : MethodName) jdk_68_method_64_code 1 (Option.some (FieldType.array FieldType.byte))) a0 Z = true := own_w hw 159 rfl
theorem pd_19 : parseMethodDescriptor "()[B" = some ⟨[], some (.array .byte)⟩ := by decide +kernel
theorem ww157 (hw : HW Z a0) : Cond.before (Cond.instanceMethod ({ cls := cn_0, name := "getValue", desc := "()[B" } : MethodName)) a0 Z = true := own_w hw 157 rfl
theorem d31_8 : decode qc31 8 = .ok (.astore_n 3, 1) := by decide +kernel
theorem d31_9 : decode qc31 9 = .ok (.aload_n 1, 1) := by decide +kernel
theorem d31_10 : decode qc31 10 = .ok (.invokevirtual 549, 3) := by decide +kernel
theorem ww160 (hw : HW Z a0) : Cond.before (Cond.methodLink cn_2 549 ({ cls := cn_0, name := "length", desc := "()I" } : MethodName)) a0 Z = true := own_w hw 160 rfl
theorem ww163 (hw : HW Z a0) : Cond.before (Cond.selects cn_4 ({ cls := cn_0, name := "length", desc := "()I" } : MethodName) ({ cls := cn_4, name := "length", desc := "()I" } : MethodName)) a0 Z = true := own_w hw 163 rfl
theorem ww165 (hw : HW Z a0) : Cond.before (Cond.code ({ cls := cn_4, name := "length", desc := "()I" } : MethodName) jdk_67_method_93_code 1 (Option.some FieldType.int)) a0 Z = true := own_w hw 165 rfl
theorem ww78 (hw : HW Z a0) : Cond.before (Cond.initialized cn_4) a0 Z = true := own_w hw 78 rfl
theorem ww164 (hw : HW Z a0) : Cond.before (Cond.instanceMethod ({ cls := cn_4, name := "length", desc := "()I" } : MethodName)) a0 Z = true := own_w hw 164 rfl
theorem d31_13 : decode qc31 13 = .ok (.istore 4, 2) := by decide +kernel
theorem d31_15 : decode qc31 15 = .ok (.aload_n 1, 1) := by decide +kernel
theorem d31_16 : decode qc31 16 = .ok (.invokevirtual 1047, 3) := by decide +kernel
theorem ww168 (hw : HW Z a0) : Cond.before (Cond.methodLink cn_2 1047 ({ cls := cn_0, name := "isLatin1", desc := "()Z" } : MethodName)) a0 Z = true := own_w hw 168 rfl
theorem ww171 (hw : HW Z a0) : Cond.before (Cond.selects cn_4 ({ cls := cn_0, name := "isLatin1", desc := "()Z" } : MethodName) ({ cls := cn_0, name := "isLatin1", desc := "()Z" } : MethodName)) a0 Z = true := own_w hw 171 rfl
theorem ww172 (hw : HW Z a0) : Cond.before (Cond.code ({ cls := cn_0, name := "isLatin1", desc := "()Z" } : MethodName) jdk_68_method_68_code 1 (Option.some FieldType.boolean)) a0 Z = true := own_w hw 172 rfl
theorem ww169 (hw : HW Z a0) : Cond.before (Cond.declares ({ cls := cn_0, name := "isLatin1", desc := "()Z" } : MethodName)) a0 Z = true := own_w hw 169 rfl
theorem ww170 (hw : HW Z a0) : Cond.before (Cond.instanceMethod ({ cls := cn_0, name := "isLatin1", desc := "()Z" } : MethodName)) a0 Z = true := own_w hw 170 rfl
theorem d31_19 : decode qc31 19 = .ok (.ifCond .eq 22, 3) := by decide +kernel
theorem d31_22 : decode qc31 22 = .ok (.aload_n 0, 1) := by decide +kernel
theorem d31_23 : decode qc31 23 = .ok (.iconst 0, 1) := by decide +kernel
theorem d31_24 : decode qc31 24 = .ok (.putfield 15, 3) := by decide +kernel
theorem d31_27 : decode qc31 27 = .ok (.aload_n 0, 1) := by decide +kernel
theorem d31_28 : decode qc31 28 = .ok (.aload_n 3, 1) := by decide +kernel
theorem d31_29 : decode qc31 29 = .ok (.iconst 0, 1) := by decide +kernel
theorem d31_30 : decode qc31 30 = .ok (.iload 4, 2) := by decide +kernel
theorem d31_32 : decode qc31 32 = .ok (.invokestatic 54, 3) := by decide +kernel
theorem ww173 (hw : HW Z a0) : Cond.before (Cond.methodLink cn_2 54 ({ cls := cn_9, name := "copyOfRange", desc := "([BII)[B" } : MethodName)) a0 Z = true := own_w hw 173 rfl
theorem ww176 (hw : HW Z a0) : Cond.before (Cond.code ({ cls := cn_9, name := "copyOfRange", desc := "([BII)[B" } : MethodName) jdk_65_method_132_code 3 (Option.some (FieldType.array FieldType.byte))) a0 Z = true := own_w hw 176 rfl
theorem ww174 (hw : HW Z a0) : Cond.before (Cond.static ({ cls := cn_9, name := "copyOfRange", desc := "([BII)[B" } : MethodName)) a0 Z = true := own_w hw 174 rfl
theorem d31_35 : decode qc31 35 = .ok (.putfield 9, 3) := by decide +kernel
theorem d31_38 : decode qc31 38 = .ok (.goto 59, 3) := by decide +kernel
theorem d31_97 : decode qc31 97 = .ok (.return_, 1) := by decide +kernel
abbrev rr_sx : Room := { frames := 3, cells := 1, slots := 34, locals := 49 }
abbrev y_31 : MethodName := ⟨cn_2, "<init>", cn_18⟩
theorem ef_sx (m : MethodId) (o0 o1 : Addr) : entryFrame m #[(.ref o0), (.ref o1), .null] 5 = mkF m 0 #[vR o0, vR o1, .val .null, u_, u_] [] := by first | (simp [entryFrame, mkF, argsToLocals, Value.category]; done) | rfl
def Q_sx (Z : State) (w_0 w_1 : Addr) (w_2 : Int32) (w_3 : Value) (o0 o1 a : Addr) (ka : ClassId) (q cn : Int32) (cs : List Int32) (h0 : Heap) (n0 : Nat) (v : Option Value) (h : Heap) (L : List Loc) : Prop := ∃ t : Addr, ∃ kk : ClassId, v = none ∧ Fr n0 L ∧ Keep h0 h [o0] ∧ h0.size ≤ t ∧ Exa Z h o0 cn_2 ∧ Fld Z h o0 cn_2 "value" "[B" (.ref t) ∧ Fld Z h o0 cn_2 "coder" "B" (.int 0) ∧ Arv Z h t kk .byte cn (own_by cs) (.int 0)
theorem rm_sx (l : Launch) (Z : State) (a0 : Array Value) (hw : HW Z a0) (ws : List Jvm.Cond) (w_0 w_1 : Addr) (w_2 : Int32) (w_3 : Value) (o0 o1 a : Addr) (ka : ClassId) (q cn : Int32) (cs : List Int32) (h0 : Heap) (n0 : Nat) (Z0 : n0 ≤ h0.size) (ST : own_St Z w_0 w_1 w_2 w_3) (O0 : Old Z n0 h0) (Ex : Exa Z h0 o0 cn_2) (geo : n0 ≤ o0) (Fa : Fld Z h0 o0 cn_2 "value" "[B" .null) (Fb : Fld Z h0 o0 cn_2 "coder" "B" (.int 0)) (Eb : Exa Z h0 o1 cn_4) (Fbv : Fld Z h0 o1 cn_0 "value" "[B" (.ref a)) (Fbc : Fld Z h0 o1 cn_0 "coder" "B" (.int 0)) (Fbn : Fld Z h0 o1 cn_0 "count" "I" (.int cn)) (Vb : Arv Z h0 a ka .byte q (own_by cs) (.int 0)) (Ea : Exa Z h0 a "[B") (hsb : own_sbp cn q cs) :
    own_Met l y_31 jdk_42_method_150_code 5 none ws rr_sx Z #[(.ref o0), (.ref o1), .null] h0 (Q_sx Z w_0 w_1 w_2 w_3 o0 o1 a ka q cn cs h0 n0) := by
  refine MetFree.of_bodySF (plainFor_of_name pn_0) hisR ?_
  intro p e s m args below meth c s₁ Bd hml0 hP hK
  obtain ⟨rfl, hZ, hh⟩ := hP
  have hx := Bd.exec
  have hby := Bd.bytes
  have B := @hb _ _ hby
  have hml : c.maxLocals = 5 := hml0
  have hown : s.vm.findClass cn_2 = some m.cls := findClass_of_methodNamed Bd.named
  have hnm := (name_of_methodNamed Bd.named Bd.method).1
  have X0 : Stand p l e rr_sx s m #[(.ref o0), (.ref o1), .null] below meth c s₁ [] 0 0 := Stand.of_body Bd
  have e0 : s₁.heap = h0 := by rw [← hh, Bd.state]; rfl
  have N0 := Fr.nil n0
  have K0 : Keep h0 h0 [o0] := Keep.refl _ _
  obtain ⟨G, step, ret, fin⟩ := own_openX X0 (rr_sx.cells) (rr_sx.slots) (Q_sx Z w_0 w_1 w_2 w_3 o0 o1 a ka q cn cs h0 n0) Bd.notSynchronized
  refine fin (g := entryFrame m #[(.ref o0), (.ref o1), .null] 5) ?_
  rw [ef_sx m o0 o1]
  have ne_o0_a : o0 ≠ a := own_ne_arv Ex (ww10 hw) Vb
  refine step (fun _ => XS.aloadN X0.here hx rfl (B d31_0) rfl rfl) ?_
  obtain ⟨T1, X1, e1, st1⟩ := initO X0 hx hZ hown (ww19 hw) (ww20 hw) (ww21 hw) e0 (g := (mkF m 1 #[vR o0, vR o1, .val .null, u_, u_] [(.ref o0)])) rfl (by rw [hml]; rfl) rfl (B d31_1) (by decide) (W := 0) (by show 2 * 0 + _ ≤ _; exact Nat.le_of_eq rfl) (by decide)
  refine step st1 ?_
  refine step (fun _ => XS.aloadN X1.here hx rfl (B d31_4) rfl rfl) ?_
  have hK2 := (backOf (R := rr_sx) (p := p) (e := e) (below := below) (s := s) (args := #[(.ref o0), (.ref o1), .null]) (len := 3) (W := 0) (rm_gv l Z a0 hw [] w_0 w_1 w_2 w_3 o1 a h0 n0 (own_old_le O0) ST O0 Fbv) hZ (ww159 hw) (ww86 hw) (by decide) (by decide))
  obtain ⟨cq2, kq2, q2a, q2b, q2c⟩ := isOf hZ e1 Eb
  obtain ⟨_, _, ⟨T2, L2, k2, n2⟩, -, X2, ⟨Lc2, hQ2, l2, y2, z2⟩, st2⟩ := X1.virtualBack hx (y := y_24) (z := y_24) hown (mvT hZ (ww155 hw)) (mvT hZ (ww156 hw)) (notFace_of_selects (args := #[]) (mvT hZ (ww158 hw))) (mvT hZ (ww158 hw)) (mvT hZ (ww157 hw)) (by decide) hK2 q2a q2c (g := (mkF m 5 #[vR o0, vR o1, .val .null, u_, u_] [(.ref o1)])) rfl (by rw [hml]; rfl) (Steps.refl _) (argsL := []) (rest := []) (lenOf pd_19 rfl) rfl (by show 2 * 0 + _ ≤ _; exact Nat.le_of_eq rfl) (B d31_5) (fun _ _ => ⟨rfl, e1, (by decide : 0 + 0 ≤ _), (by decide : 0 + 0 ≤ _)⟩)
  dsimp only [Pt.U, Pt.locs, Pt.cells, Pt.slots] at X2 l2 y2 z2 st2 hQ2
  subst l2 y2 z2
  obtain ⟨rfl, N2q, e2⟩ := hQ2
  have N2 := Fr.app N0 N2q
  obtain ⟨lc2, X2, N2⟩ := own_gen X2 N2
  refine step (fun t k => st2.trans k) ?_
  have r3 : (f_gv w_0 w_1 w_2 w_3 o1 a) = a := rfl
  rw [r3]
  refine step (fun _ => XS.astoreN X2.here hx rfl (B d31_8) rfl rfl (l' := #[vR o0, vR o1, .val .null, vR a, u_]) rfl) ?_
  refine step (fun _ => XS.aloadN X2.here hx rfl (B d31_9) rfl rfl) ?_
  have hK4 := (backOf (R := rr_sx) (p := p) (e := e) (below := below) (s := s) (args := #[(.ref o0), (.ref o1), .null]) (len := 3) (W := 0) (rm_sbl l Z a0 hw [] w_0 w_1 w_2 w_3 o1 cn h0 n0 (own_old_le O0) ST O0 Eb Fbn) hZ (ww165 hw) (ww78 hw) (by decide) (by decide))
  obtain ⟨cq4, kq4, q4a, q4b, q4c⟩ := isOf hZ e2 Eb
  obtain ⟨_, _, ⟨T4, L4, k4, n4⟩, -, X4, ⟨Lc4, hQ4, l4, y4, z4⟩, st4⟩ := X2.virtualBack hx (y := y_25) (z := y_26) hown (mvT hZ (ww160 hw)) (mvT hZ (ww161 hw)) (own_nf (args := #[]) (notFace_of_selects (args := #[]) (mvT hZ (ww158 hw))) (mvT hZ (ww156 hw)) rfl) (mvT hZ (ww163 hw)) (mvT hZ (ww164 hw)) (by decide) hK4 q4a q4c (g := (mkF m 10 #[vR o0, vR o1, .val .null, vR a, u_] [(.ref o1)])) rfl (by rw [hml]; rfl) (Steps.refl _) (argsL := []) (rest := []) (lenOf pd_15 rfl) rfl (by show 2 * 0 + _ ≤ _; exact Nat.le_of_eq rfl) (B d31_10) (fun _ _ => ⟨rfl, e2, (by decide : 0 + 0 ≤ _), (by decide : 0 + 0 ≤ _)⟩)
  dsimp only [Pt.U, Pt.locs, Pt.cells, Pt.slots] at X4 l4 y4 z4 st4 hQ4
  subst l4 y4 z4
  obtain ⟨rfl, N4q, e4⟩ := hQ4
  have N4 := Fr.app N2 N4q
  obtain ⟨lc4, X4, N4⟩ := own_gen X4 N4
  refine step (fun t k => st4.trans k) ?_
  have r5 : (f_sbl w_0 w_1 w_2 w_3 o1 cn) = cn := rfl
  rw [r5]
  refine step (fun _ => XS.istore X4.here hx rfl (B d31_13) rfl (l' := #[vR o0, vR o1, .val .null, vR a, vI cn]) rfl) ?_
  refine step (fun _ => XS.aloadN X4.here hx rfl (B d31_15) rfl rfl) ?_
  have hK6 := (backOf (R := rr_sx) (p := p) (e := e) (below := below) (s := s) (args := #[(.ref o0), (.ref o1), .null]) (len := 3) (W := 0) (rm_il l Z a0 hw [] w_0 w_1 w_2 w_3 o1 h0 n0 (own_old_le O0) ST O0 Fbc) hZ (ww172 hw) (ww86 hw) (by decide) (by decide))
  obtain ⟨cq6, kq6, q6a, q6b, q6c⟩ := isOf hZ e4 Eb
  obtain ⟨_, _, ⟨T6, L6, k6, n6⟩, -, X6, ⟨Lc6, hQ6, l6, y6, z6⟩, st6⟩ := X4.virtualBack hx (y := y_27) (z := y_27) hown (mvT hZ (ww168 hw)) (mvT hZ (ww169 hw)) (notFace_of_selects (args := #[]) (mvT hZ (ww171 hw))) (mvT hZ (ww171 hw)) (mvT hZ (ww170 hw)) (by decide) hK6 q6a q6c (g := (mkF m 16 #[vR o0, vR o1, .val .null, vR a, vI cn] [(.ref o1)])) rfl (by rw [hml]; rfl) (Steps.refl _) (argsL := []) (rest := []) (lenOf pd_6 rfl) rfl (by show 2 * 0 + _ ≤ _; exact Nat.le_of_eq rfl) (B d31_16) (fun _ _ => ⟨rfl, e4, (by decide : 0 + 0 ≤ _), (by decide : 0 + 0 ≤ _)⟩)
  dsimp only [Pt.U, Pt.locs, Pt.cells, Pt.slots] at X6 l6 y6 z6 st6 hQ6
  subst l6 y6 z6
  obtain ⟨rfl, N6q, e6⟩ := hQ6
  have N6 := Fr.app N4 N6q
  obtain ⟨lc6, X6, N6⟩ := own_gen X6 N6
  refine step (fun t k => st6.trans k) ?_
  have r7 : (f_il w_0 w_1 w_2 w_3 o1) = (1 : Int32) := rfl
  rw [r7]
  refine step (fun _ => XS.ifNo X6.here hx rfl (B d31_19) rfl ((if0 _ _).trans (feq (by decide : ¬ ((1 : Int32) = (0 : Int32)))).1)) ?_
  refine step (fun _ => XS.aloadN X6.here hx rfl (B d31_22) rfl rfl) ?_
  refine step (fun _ => XS.iconst X6.here hx rfl (B d31_23)) ?_
  obtain ⟨T8, h8, X8, e8, W8, st8⟩ := putFN X6 hx hZ hown (ww24 hw) Via.refl e6 Fb Ex (Or.inr ⟨(ww25 hw), rfl, hnm⟩) (ww10 hw) (ty := .byte) (v' := (.int (nar .byte (0 : Int32)))) (by decide) rfl (fits_nar_byte _) (g := (mkF m 24 #[vR o0, vR o1, .val .null, vR a, vI cn] [(.int 0), (.ref o0)])) rfl rfl (B d31_24)
  have F8 : Fld Z h8 o0 cn_2 "coder" "B" (.int 0) := Fld.same W8 Fb
  have N8 := Fr.snoc X8 N6 geo
  obtain ⟨lc8, X8, N8⟩ := own_gen X8 N8
  have O8 := O0.wr W8 geo
  have K8 : Keep h0 h8 [o0] := K0.wr W8 (Or.inl (List.mem_of_getElem? (i := 0) rfl))
  refine step st8 ?_
  refine step (fun _ => XS.aloadN X8.here hx rfl (B d31_27) rfl rfl) ?_
  refine step (fun _ => XS.aloadN X8.here hx rfl (B d31_28) rfl rfl) ?_
  refine step (fun _ => XS.iconst X8.here hx rfl (B d31_29)) ?_
  refine step (fun _ => XS.iload X8.here hx rfl (B d31_30) rfl) ?_
  have f10 := (Arv.other Vb W8 (Ne.symm ne_o0_a))
  have f11 := (Exa.wr W8 Ea)
  have hK9 := (backOf (R := rr_sx) (p := p) (e := e) (below := below) (s := s) (args := #[(.ref o0), (.ref o1), .null]) (len := 3) (W := 1) (rm_cr l Z a0 hw [] w_0 w_1 w_2 w_3 a cn ka q cs h8 n0 (own_old_le O8) ST O8 f10 f11 hsb) hZ (ww176 hw) (ww175 hw) (by decide) (by decide))
  obtain ⟨_, _, ⟨T9, L9, k9, n9⟩, -, X9, ⟨Lc9, hQ9, l9, y9, z9⟩, st9⟩ := Jvm.LawKit.callS X8 hx (y := y_30) hown (mvT hZ (ww173 hw)) (mvT hZ (ww174 hw)) (mvT hZ (ww175 hw)) (mvT hZ (ww176 hw)) (by decide) hK9 (g := (mkF m 32 #[vR o0, vR o1, .val .null, vR a, vI cn] [(.int cn), (.int 0), (.ref a), (.ref o0)])) rfl (by rw [hml]; rfl) (argsL := [(.ref a), (.int 0), (.int cn)]) (rest := [(.ref o0)]) (lenOf pd_18 rfl) rfl (by show 2 * 0 + _ ≤ _; exact Nat.le_of_eq rfl) (B d31_32) (fun _ _ => ⟨rfl, e8, (by decide : 0 + 1 ≤ _), (by decide : 0 + 34 ≤ _)⟩)
  dsimp only [Pt.U, Pt.locs, Pt.cells, Pt.slots] at X9 l9 y9 z9 st9 hQ9
  subst l9 y9 z9
  have f12 := (Exa.wr W8 Ex)
  obtain ⟨b9, kb_9, rfl, N9q, K9q, Y9_0, Y9_1⟩ := hQ9
  have N9 := Fr.app N8 N9q
  obtain ⟨lc9, X9, N9⟩ := own_gen X9 N9
  have K9 : Keep h0 T9.heap [o0] := K8.trans K9q all0
  have sz_b9 : h0.size ≤ b9 := Nat.le_trans K8.1 Y9_0
  have lt_o0_b9 : o0 < b9 := Nat.lt_of_lt_of_le f12.lt Y9_0
  refine step (fun t k => st9 t k) ?_
  have f15 := (Fld.keep (Fld.other W8 Fa (Or.inr (slot_ne (Or.inr (ww23 hw)) (Or.inr (ww25 hw)) (by decide) (t := (.array .byte)) (t' := .byte) (by decide) (by decide)))) K9q nin0)
  have f16 := (Exa.keep f12 K9q)
  obtain ⟨T14, h14, X14, e14, W14, st14⟩ := putF X9 hx hZ hown (host := "") (Or.inl (ww22 hw)) Via.refl rfl f15 f16 (Or.inr ⟨(ww23 hw), rfl, hnm⟩) (ww10 hw) (ty := (.array .byte)) (by decide) rfl rfl (g := (mkF m 35 #[vR o0, vR o1, .val .null, vR a, vI cn] [(.ref b9), (.ref o0)])) rfl rfl (B d31_35)
  have F14 : Fld Z h14 o0 cn_2 "value" "[B" (.ref b9) := Fld.same W14 f15
  have N14 := Fr.snoc X14 N9 geo
  obtain ⟨lc14, X14, N14⟩ := own_gen X14 N14
  have K14 : Keep h0 h14 [o0] := K9.wr W14 (Or.inl (List.mem_of_getElem? (i := 0) rfl))
  refine step st14 ?_
  refine step (fun _ => XS.goto X14.here hx rfl (pc0 := 38) (pc' := 97) rfl (B d31_38) (by decide) (by decide)) ?_
  have f17 := (Exa.wr W14 f16)
  have f18 := (Fld.other W14 (Fld.keep F8 K9q nin0) (Or.inr (slot_ne (Or.inr (ww25 hw)) (Or.inr (ww23 hw)) (by decide) (t := .byte) (t' := (.array .byte)) (by decide) (by decide))))
  have f19 := (Arv.other Y9_1 W14 (Nat.ne_of_gt lt_o0_b9))
  exact ret (v := none) X14 (fun _ => rfl) (fun fs hr => X14.returnOut hx Bd.returns (B d31_97) hr) e14 ⟨b9, kb_9, rfl, N14, K14, sz_b9, f17, F14, f18, f19⟩ (by decide) (by decide)
theorem d32_0 : decode qc32 0 = .ok (.aload_n 0, 1) := by decide +kernel
theorem d32_1 : decode qc32 1 = .ok (.aload_n 1, 1) := by decide +kernel
theorem d32_2 : decode qc32 2 = .ok (.aconst_null, 1) := by decide +kernel
theorem d32_3 : decode qc32 3 = .ok (.invokespecial 489, 3) := by decide +kernel
theorem ww152 (hw : HW Z a0) : Cond.before (Cond.methodLink cn_2 489 ({ cls := cn_2, name := "<init>", desc := cn_18 } : MethodName)) a0 Z = true := own_w hw 152 rfl
theorem ww154 (hw : HW Z a0) : Cond.before (Cond.code ({ cls := cn_2, name := "<init>", desc := cn_18 } : MethodName) jdk_42_method_150_code 5 (Option.none : Option Jvm.ClassFile.FieldType)) a0 Z = true := own_w hw 154 rfl
theorem pd_20 : parseMethodDescriptor cn_18 = some ⟨[(.object cn_0), (.object "java/lang/Void")], none⟩ := by decide +kernel
theorem ww153 (hw : HW Z a0) : Cond.before (Cond.instanceMethod ({ cls := cn_2, name := "<init>", desc := cn_18 } : MethodName)) a0 Z = true := own_w hw 153 rfl
theorem d32_6 : decode qc32 6 = .ok (.return_, 1) := by decide +kernel
abbrev rr_sy : Room := { frames := 4, cells := 1, slots := 34, locals := 65 }
abbrev y_32 : MethodName := ⟨cn_2, "<init>", cn_27⟩
theorem ef_sy (m : MethodId) (o0 o1 : Addr) : entryFrame m #[(.ref o0), (.ref o1)] 2 = mkF m 0 #[vR o0, vR o1] [] := by first | (simp [entryFrame, mkF, argsToLocals, Value.category]; done) | rfl
def Q_sy (Z : State) (w_0 w_1 : Addr) (w_2 : Int32) (w_3 : Value) (o0 o1 a : Addr) (ka : ClassId) (q cn : Int32) (cs : List Int32) (h0 : Heap) (n0 : Nat) (v : Option Value) (h : Heap) (L : List Loc) : Prop := ∃ t : Addr, ∃ kk : ClassId, v = none ∧ Fr n0 L ∧ Keep h0 h [o0] ∧ h0.size ≤ t ∧ Exa Z h o0 cn_2 ∧ Fld Z h o0 cn_2 "value" "[B" (.ref t) ∧ Fld Z h o0 cn_2 "coder" "B" (.int 0) ∧ Arv Z h t kk .byte cn (own_by cs) (.int 0)
theorem rm_sy (l : Launch) (Z : State) (a0 : Array Value) (hw : HW Z a0) (ws : List Jvm.Cond) (w_0 w_1 : Addr) (w_2 : Int32) (w_3 : Value) (o0 o1 a : Addr) (ka : ClassId) (q cn : Int32) (cs : List Int32) (h0 : Heap) (n0 : Nat) (Z0 : n0 ≤ h0.size) (ST : own_St Z w_0 w_1 w_2 w_3) (O0 : Old Z n0 h0) (Ex : Exa Z h0 o0 cn_2) (geo : n0 ≤ o0) (Fa : Fld Z h0 o0 cn_2 "value" "[B" .null) (Fb : Fld Z h0 o0 cn_2 "coder" "B" (.int 0)) (Eb : Exa Z h0 o1 cn_4) (Fbv : Fld Z h0 o1 cn_0 "value" "[B" (.ref a)) (Fbc : Fld Z h0 o1 cn_0 "coder" "B" (.int 0)) (Fbn : Fld Z h0 o1 cn_0 "count" "I" (.int cn)) (Vb : Arv Z h0 a ka .byte q (own_by cs) (.int 0)) (Ea : Exa Z h0 a "[B") (hsb : own_sbp cn q cs) :
    own_Met l y_32 jdk_42_method_53_code 2 none ws rr_sy Z #[(.ref o0), (.ref o1)] h0 (Q_sy Z w_0 w_1 w_2 w_3 o0 o1 a ka q cn cs h0 n0) := by
  refine MetFree.of_bodySF (plainFor_of_name pn_0) hisR ?_
  intro p e s m args below meth c s₁ Bd hml0 hP hK
  obtain ⟨rfl, hZ, hh⟩ := hP
  have hx := Bd.exec
  have hby := Bd.bytes
  have B := @hb _ _ hby
  have hml : c.maxLocals = 2 := hml0
  have hown : s.vm.findClass cn_2 = some m.cls := findClass_of_methodNamed Bd.named
  have X0 : Stand p l e rr_sy s m #[(.ref o0), (.ref o1)] below meth c s₁ [] 0 0 := Stand.of_body Bd
  have e0 : s₁.heap = h0 := by rw [← hh, Bd.state]; rfl
  have N0 := Fr.nil n0
  have K0 : Keep h0 h0 [o0] := Keep.refl _ _
  obtain ⟨G, step, ret, fin⟩ := own_openX X0 (rr_sy.cells) (rr_sy.slots) (Q_sy Z w_0 w_1 w_2 w_3 o0 o1 a ka q cn cs h0 n0) Bd.notSynchronized
  refine fin (g := entryFrame m #[(.ref o0), (.ref o1)] 2) ?_
  rw [ef_sy m o0 o1]
  refine step (fun _ => XS.aloadN X0.here hx rfl (B d32_0) rfl rfl) ?_
  refine step (fun _ => XS.aloadN X0.here hx rfl (B d32_1) rfl rfl) ?_
  refine step (fun _ => XS.aconstNull X0.here hx rfl (B d32_2)) ?_
  have hK1 := (backOf (R := rr_sy) (p := p) (e := e) (below := below) (s := s) (args := #[(.ref o0), (.ref o1)]) (len := 3) (W := 0) (rm_sx l Z a0 hw [] w_0 w_1 w_2 w_3 o0 o1 a ka q cn cs h0 n0 (own_old_le O0) ST O0 Ex geo Fa Fb Eb Fbv Fbc Fbn Vb Ea hsb) hZ (ww154 hw) (ww2 hw) (by decide) (by decide))
  obtain ⟨_, _, ⟨T1, L1, k1, n1⟩, -, X1, ⟨Lc1, hQ1, l1, y1, z1⟩, st1⟩ := X0.specialBack hx (y := y_31) rfl hown (mvT hZ (ww152 hw)) (mvT hZ (ww153 hw)) (mvT hZ (ww154 hw)) (by decide) hK1 (g := (mkF m 3 #[vR o0, vR o1] [.null, (.ref o1), (.ref o0)])) rfl (by rw [hml]; rfl) (Steps.refl _) (a := o0) (argsL := [(.ref o1), .null]) (rest := []) (lenOf pd_20 rfl) rfl (by show 2 * 0 + _ ≤ _; exact Nat.le_of_eq rfl) (B d32_3) (fun _ _ => ⟨rfl, e0, (by decide : 0 + 1 ≤ _), (by decide : 0 + 34 ≤ _)⟩)
  dsimp only [Pt.U, Pt.locs, Pt.cells, Pt.slots] at X1 l1 y1 z1 st1 hQ1
  subst l1 y1 z1
  obtain ⟨t_1, kk_1, rfl, N1q, K1q, Y1_0, Y1_1, Y1_2, Y1_3, Y1_4⟩ := hQ1
  have N1 := Fr.app N0 N1q
  obtain ⟨lc1, X1, N1⟩ := own_gen X1 N1
  have K1 : Keep h0 T1.heap [o0] := K0.trans K1q (allS (Or.inl (List.mem_of_getElem? (i := 0) rfl)) all0)
  have sz_t_1 : h0.size ≤ t_1 := Nat.le_trans K0.1 Y1_0
  refine step (fun t k => st1.trans k) ?_
  exact ret (v := none) X1 (fun _ => rfl) (fun fs hr => X1.returnOut hx Bd.returns (B d32_6) hr) rfl ⟨t_1, kk_1, rfl, N1, K1, sz_t_1, Y1_1, Y1_2, Y1_3, Y1_4⟩ (by decide) (by decide)
theorem d33_0 : decode qc33 0 = .ok (.new 18, 3) := by decide +kernel
theorem ww148 (hw : HW Z a0) : Cond.before (Cond.classLink cn_4 18 cn_2) a0 Z = true := own_w hw 148 rfl
theorem d33_3 : decode qc33 3 = .ok (.dup, 1) := by decide +kernel
theorem d33_4 : decode qc33 4 = .ok (.aload_n 0, 1) := by decide +kernel
theorem d33_5 : decode qc33 5 = .ok (.invokespecial 137, 3) := by decide +kernel
theorem ww149 (hw : HW Z a0) : Cond.before (Cond.methodLink cn_4 137 ({ cls := cn_2, name := "<init>", desc := cn_27 } : MethodName)) a0 Z = true := own_w hw 149 rfl
theorem ww151 (hw : HW Z a0) : Cond.before (Cond.code ({ cls := cn_2, name := "<init>", desc := cn_27 } : MethodName) jdk_42_method_53_code 2 (Option.none : Option Jvm.ClassFile.FieldType)) a0 Z = true := own_w hw 151 rfl
theorem pd_21 : parseMethodDescriptor cn_27 = some ⟨[(.object cn_4)], none⟩ := by decide +kernel
theorem ww150 (hw : HW Z a0) : Cond.before (Cond.instanceMethod ({ cls := cn_2, name := "<init>", desc := cn_27 } : MethodName)) a0 Z = true := own_w hw 150 rfl
theorem d33_8 : decode qc33 8 = .ok (.areturn, 1) := by decide +kernel
abbrev rr_ts : Room := { frames := 5, cells := 2, slots := 38, locals := 79 }
abbrev y_33 : MethodName := ⟨cn_4, "toString", cn_6⟩
theorem ef_ts (m : MethodId) (o0 : Addr) : entryFrame m #[(.ref o0)] 1 = mkF m 0 #[vR o0] [] := by first | (simp [entryFrame, mkF, argsToLocals, Value.category]; done) | rfl
def Q_ts (Z : State) (w_0 w_1 : Addr) (w_2 : Int32) (w_3 : Value) (o0 a : Addr) (ka : ClassId) (q cn : Int32) (cs : List Int32) (h0 : Heap) (n0 : Nat) (v : Option Value) (h : Heap) (L : List Loc) : Prop := ∃ b : Addr, ∃ t : Addr, ∃ kk : ClassId, v = some (.ref b) ∧ Fr n0 L ∧ Keep h0 h [] ∧ h0.size ≤ b ∧ h0.size ≤ t ∧ Exa Z h b cn_2 ∧ Fld Z h b cn_2 "value" "[B" (.ref t) ∧ Fld Z h b cn_2 "coder" "B" (.int 0) ∧ Arv Z h t kk .byte cn (own_by cs) (.int 0)
theorem rm_ts (l : Launch) (Z : State) (a0 : Array Value) (hw : HW Z a0) (ws : List Jvm.Cond) (w_0 w_1 : Addr) (w_2 : Int32) (w_3 : Value) (o0 a : Addr) (ka : ClassId) (q cn : Int32) (cs : List Int32) (h0 : Heap) (n0 : Nat) (Z0 : n0 ≤ h0.size) (ST : own_St Z w_0 w_1 w_2 w_3) (O0 : Old Z n0 h0) (Eb : Exa Z h0 o0 cn_4) (Fbv : Fld Z h0 o0 cn_0 "value" "[B" (.ref a)) (Fbc : Fld Z h0 o0 cn_0 "coder" "B" (.int 0)) (Fbn : Fld Z h0 o0 cn_0 "count" "I" (.int cn)) (Vb : Arv Z h0 a ka .byte q (own_by cs) (.int 0)) (Ea : Exa Z h0 a "[B") (hsb : own_sbp cn q cs) :
    own_Met l y_33 jdk_67_method_42_code 1 (some (.object cn_2)) ws rr_ts Z #[(.ref o0)] h0 (Q_ts Z w_0 w_1 w_2 w_3 o0 a ka q cn cs h0 n0) := by
  refine MetFree.of_bodySF (plainFor_of_name pn_4) hisR ?_
  intro p e s m args below meth c s₁ Bd hml0 hP hK
  obtain ⟨rfl, hZ, hh⟩ := hP
  have hx := Bd.exec
  have hby := Bd.bytes
  have B := @hb _ _ hby
  have hml : c.maxLocals = 1 := hml0
  have hown : s.vm.findClass cn_4 = some m.cls := findClass_of_methodNamed Bd.named
  have X0 : Stand p l e rr_ts s m #[(.ref o0)] below meth c s₁ [] 0 0 := Stand.of_body Bd
  have e0 : s₁.heap = h0 := by rw [← hh, Bd.state]; rfl
  have N0 := Fr.nil n0
  have K0 : Keep h0 h0 [] := Keep.refl _ _
  obtain ⟨G, step, ret, fin⟩ := own_openX X0 (rr_ts.cells) (rr_ts.slots) (Q_ts Z w_0 w_1 w_2 w_3 o0 a ka q cn cs h0 n0) Bd.notSynchronized
  refine fin (g := entryFrame m #[(.ref o0)] 1) ?_
  rw [ef_ts m o0]
  obtain ⟨T1, h1, X1, e1, E1, A1, D1, -, st1⟩ := newO X0 hx hZ hown (ww148 hw) (ww10 hw) (ww2 hw) e0 (g := (mkF m 0 #[vR o0] [])) rfl (B d33_0) (by decide) (by decide)
  obtain ⟨b1, g1⟩ : ∃ z, z = h0.size := ⟨_, rfl⟩
  rw [← g1] at A1 D1 st1
  have ge_b1 : n0 ≤ b1 := Nat.le_trans (own_old_le O0) (Nat.le_of_eq g1.symm)
  have sz_b1 : h0.size ≤ b1 := Nat.le_trans K0.1 (Nat.le_of_eq g1.symm)
  have O1 := O0.ext E1
  have K1 : Keep h0 h1 [] := K0.ext E1
  have F1_value : Fld Z h1 b1 cn_2 "value" "[B" .null := D1 (Or.inr (ww23 hw)) (ty := (.array .byte)) (by decide)
  have F1_coder : Fld Z h1 b1 cn_2 "coder" "B" (.int 0) := D1 (Or.inr (ww25 hw)) (ty := .byte) (by decide)
  refine step st1 ?_
  refine step (fun _ => XS.dup X1.here hx rfl (B d33_3) rfl rfl) ?_
  refine step (fun _ => XS.aloadN X1.here hx rfl (B d33_4) rfl rfl) ?_
  have f3 := (Exa.ext E1 Eb)
  have f4 := (Fld.ext E1 Fbv)
  have f5 := (Fld.ext E1 Fbc)
  have f6 := (Fld.ext E1 Fbn)
  have f7 := (Vb.ext E1)
  have f8 := (Exa.ext E1 Ea)
  have hK2 := (backOf (R := rr_ts) (p := p) (e := e) (below := below) (s := s) (args := #[(.ref o0)]) (len := 3) (W := 1) (rm_sy l Z a0 hw [] w_0 w_1 w_2 w_3 b1 o0 a ka q cn cs h1 n0 (own_old_le O1) ST O1 A1 ge_b1 F1_value F1_coder f3 f4 f5 f6 f7 f8 hsb) hZ (ww151 hw) (ww2 hw) (by decide) (by decide))
  obtain ⟨_, _, ⟨T2, L2, k2, n2⟩, -, X2, ⟨Lc2, hQ2, l2, y2, z2⟩, st2⟩ := X1.specialBack hx (y := y_32) rfl hown (mvT hZ (ww149 hw)) (mvT hZ (ww150 hw)) (mvT hZ (ww151 hw)) (by decide) hK2 (g := (mkF m 5 #[vR o0] [(.ref o0), (.ref b1), (.ref b1)])) rfl (by rw [hml]; rfl) (Steps.refl _) (a := b1) (argsL := [(.ref o0)]) (rest := [(.ref b1)]) (lenOf pd_21 rfl) rfl (by show 2 * 0 + _ ≤ _; exact Nat.le_of_eq rfl) (B d33_5) (fun _ _ => ⟨rfl, e1, (by decide : 1 + 1 ≤ _), (by decide : 4 + 34 ≤ _)⟩)
  dsimp only [Pt.U, Pt.locs, Pt.cells, Pt.slots] at X2 l2 y2 z2 st2 hQ2
  subst l2 y2 z2
  obtain ⟨t_2, kk_2, rfl, N2q, K2q, Y2_0, Y2_1, Y2_2, Y2_3, Y2_4⟩ := hQ2
  have N2 := Fr.app N0 N2q
  obtain ⟨lc2, X2, N2⟩ := own_gen X2 N2
  have K2 : Keep h0 T2.heap [] := K1.trans K2q (allS (Or.inr sz_b1) all0)
  have sz_t_2 : h0.size ≤ t_2 := Nat.le_trans K1.1 Y2_0
  refine step (fun t k => st2.trans k) ?_
  exact ret (v := some (.ref b1)) X2 (fun h => by rw [Bd.returns] at h; cases h) (fun fs hr => retA X2 hx Bd.returns rfl rfl (B d33_8) hr) rfl ⟨b1, t_2, kk_2, rfl, N2, K2, sz_b1, sz_t_2, Y2_1, Y2_2, Y2_3, Y2_4⟩ (by decide) (by decide)
def own_d (p P : Int32) : Int32 := (48 : Int32) + ((p / P) % (10 : Int32))
def own_dgs : Nat → Int32 → List Int32
  | 1, p => [own_d p (1 : Int32)]
  | 2, p => [own_d p (10 : Int32), own_d p (1 : Int32)]
  | 3, p => [own_d p (100 : Int32), own_d p (10 : Int32), own_d p (1 : Int32)]
  | 4, p => [own_d p (1000 : Int32), own_d p (100 : Int32), own_d p (10 : Int32), own_d p (1 : Int32)]
  | 5, p => [own_d p (10000 : Int32), own_d p (1000 : Int32), own_d p (100 : Int32), own_d p (10 : Int32), own_d p (1 : Int32)]
  | 6, p => [own_d p (100000 : Int32), own_d p (10000 : Int32), own_d p (1000 : Int32), own_d p (100 : Int32), own_d p (10 : Int32), own_d p (1 : Int32)]
  | 7, p => [own_d p (1000000 : Int32), own_d p (100000 : Int32), own_d p (10000 : Int32), own_d p (1000 : Int32), own_d p (100 : Int32), own_d p (10 : Int32), own_d p (1 : Int32)]
  | 8, p => [own_d p (10000000 : Int32), own_d p (1000000 : Int32), own_d p (100000 : Int32), own_d p (10000 : Int32), own_d p (1000 : Int32), own_d p (100 : Int32), own_d p (10 : Int32), own_d p (1 : Int32)]
  | 9, p => [own_d p (100000000 : Int32), own_d p (10000000 : Int32), own_d p (1000000 : Int32), own_d p (100000 : Int32), own_d p (10000 : Int32), own_d p (1000 : Int32), own_d p (100 : Int32), own_d p (10 : Int32), own_d p (1 : Int32)]
  | 10, p => [own_d p (1000000000 : Int32), own_d p (100000000 : Int32), own_d p (10000000 : Int32), own_d p (1000000 : Int32), own_d p (100000 : Int32), own_d p (10000 : Int32), own_d p (1000 : Int32), own_d p (100 : Int32), own_d p (10 : Int32), own_d p (1 : Int32)]
  | _, _ => []
def own_sz (p n : Int32) : Prop := (n = (1 : Int32) ∧ 1 ≤ p.toInt ∧ p.toInt < 10) ∨ (n = (2 : Int32) ∧ 10 ≤ p.toInt ∧ p.toInt < 100) ∨ (n = (3 : Int32) ∧ 100 ≤ p.toInt ∧ p.toInt < 1000) ∨ (n = (4 : Int32) ∧ 1000 ≤ p.toInt ∧ p.toInt < 10000) ∨ (n = (5 : Int32) ∧ 10000 ≤ p.toInt ∧ p.toInt < 100000) ∨ (n = (6 : Int32) ∧ 100000 ≤ p.toInt ∧ p.toInt < 1000000) ∨ (n = (7 : Int32) ∧ 1000000 ≤ p.toInt ∧ p.toInt < 10000000) ∨ (n = (8 : Int32) ∧ 10000000 ≤ p.toInt ∧ p.toInt < 100000000) ∨ (n = (9 : Int32) ∧ 100000000 ≤ p.toInt ∧ p.toInt < 1000000000) ∨ (n = (10 : Int32) ∧ 1000000000 ≤ p.toInt ∧ p.toInt < 2147483648)
theorem own_n {a b : Int32} {k : Int} (ha : a.toInt = k) (h : b.toInt ≤ k) : ¬ a < b := by
  rw [own_xlt, ha]
  omega
theorem own_y {a b : Int32} {k : Int} (ha : a.toInt = k) (h : k < b.toInt) : a < b := by
  rw [own_xlt, ha]
  omega
theorem own_nr {a b : Int32} {k : Int} (ha : a.toInt = k) (h : k ≤ b.toInt) : ¬ b < a := by
  rw [own_xlt, ha]
  omega
theorem own_yr {a b : Int32} {k : Int} (ha : a.toInt = k) (h : b.toInt < k) : b < a := by
  rw [own_xlt, ha]
  omega
theorem own_hj {r : Int32} (h : 0 ≤ r.toInt ∧ r.toInt < 100) : ¬ r < 0 ∧ r < (100 : Int32) := by
  have k1 : (0 : Int32).toInt = 0 := by decide
  have k2 : (100 : Int32).toInt = 100 := by decide
  simp only [own_xlt]
  omega
theorem own_bq {q v : Int32} (hq : q = v / (100 : Int32)) (h : v.toInt < 0) : q.toInt = -((-v.toInt) / 100) := by
  rw [hq]
  exact (c_idiv v (100 : Int32) 100 (by decide) (by decide)).2 h
theorem own_br {q v r : Int32} (hq : q.toInt = -((-v.toInt) / 100)) (h : v.toInt < 0) (hr : r = (q * (100 : Int32)) - v) : r.toInt = (-v.toInt) % 100 := by
  rw [hr]
  have c1 := c_imul q (100 : Int32)
  rw [(by decide : (100 : Int32).toInt = 100)] at c1
  have c2 := c_isub (q * (100 : Int32)) v
  have r0 := rng32 v
  have r1 := rng32 (q * (100 : Int32))
  have r2 := rng32 ((q * (100 : Int32)) - v)
  omega
theorem own_ng {y : Int32} (h : -100 < y.toInt ∧ y.toInt ≤ 0) : (-y).toInt = -y.toInt := by
  have c1 := c_ineg y
  have r1 := rng32 (-y)
  omega
theorem own_nd {x : Int32} (h : 0 ≤ x.toInt ∧ x.toInt < 128) : nar .byte x = x := by
  show x.toInt8.toInt32 = x
  have c1 := c_i2b x
  rw [own_xeq]
  omega
theorem own_fO {r : Int32} (h : 0 ≤ r.toInt ∧ r.toInt < 100) : ((48 : Int32) + (r % (10 : Int32))).toInt = 48 + r.toInt % 10 := by
  have c1 := (c_irem r (10 : Int32) 10 (by decide)).1 h.1
  have c2 := c_iadd (48 : Int32) (r % (10 : Int32))
  have k1 : (48 : Int32).toInt = 48 := by decide
  have r1 := rng32 ((48 : Int32) + (r % (10 : Int32)))
  omega
theorem own_fT {r : Int32} (h : 0 ≤ r.toInt ∧ r.toInt < 100) : ((48 : Int32) + (r / (10 : Int32))).toInt = 48 + r.toInt / 10 := by
  have c1 := (c_idiv r (10 : Int32) 10 (by decide) (by decide)).1 h.1
  have c2 := c_iadd (48 : Int32) (r / (10 : Int32))
  have k1 : (48 : Int32).toInt = 48 := by decide
  have r1 := rng32 ((48 : Int32) + (r / (10 : Int32)))
  omega
theorem own_ndO {r : Int32} (h : 0 ≤ r.toInt ∧ r.toInt < 100) : nar .byte ((48 : Int32) + (r % (10 : Int32))) = ((48 : Int32) + (r % (10 : Int32))) := own_nd (by rw [own_fO h]; omega)
theorem own_ndT {r : Int32} (h : 0 ≤ r.toInt ∧ r.toInt < 100) : nar .byte ((48 : Int32) + (r / (10 : Int32))) = ((48 : Int32) + (r / (10 : Int32))) := own_nd (by rw [own_fT h]; omega)
theorem own_di {p P : Int32} {m : Int} (hp : 0 < p.toInt) (hP : P.toInt = m) (hm : 0 < m) (h1 : P ≠ -1) : (own_d p P).toInt = 48 + (p.toInt / m) % 10 := by
  have c1 := (c_idiv p P m hP h1).1 (Int.le_of_lt hp)
  have c0 : 0 ≤ p.toInt / m := Int.ediv_nonneg (Int.le_of_lt hp) (Int.le_of_lt hm)
  have c2 := (c_irem (p / P) (10 : Int32) 10 (by decide)).1 (by rw [c1]; exact c0)
  have c3 := c_iadd (48 : Int32) ((p / P) % (10 : Int32))
  have k1 : (48 : Int32).toInt = 48 := by decide
  have r1 := rng32 ((48 : Int32) + ((p / P) % (10 : Int32)))
  show ((48 : Int32) + ((p / P) % (10 : Int32))).toInt = _
  rw [c1] at c2
  omega
theorem own_dO {p P r : Int32} {m : Int} (hp : 0 < p.toInt) (hP : P.toInt = m) (hm : 0 < m) (h1 : P ≠ -1) (hr : r.toInt = (p.toInt / m) % 100) : ((48 : Int32) + (r % (10 : Int32))) = own_d p P := by
  rw [own_xeq, own_di hp hP hm h1, own_fO (by omega), hr]
  omega
theorem own_dT {p P r : Int32} {m : Int} (hp : 0 < p.toInt) (hP : P.toInt = m * 10) (hm : 0 < m) (h1 : P ≠ -1) (hr : r.toInt = (p.toInt / m) % 100) : ((48 : Int32) + (r / (10 : Int32))) = own_d p P := by
  rw [own_xeq, own_di hp hP (by omega) h1, own_fT (by omega), hr, ← Int.ediv_ediv_of_nonneg (Int.le_of_lt hm)]
  omega
theorem own_pos {p : Int32} (h : (0 : Int32) < p) : 0 < p.toInt := by
  have k : (0 : Int32).toInt = 0 := by decide
  rw [own_xlt] at h
  omega
theorem own_posn {p : Int32} (h : (0 : Int32) < p) : ¬ p < (0 : Int32) := by
  have k : (0 : Int32).toInt = 0 := by decide
  rw [own_xlt] at h ⊢
  omega
theorem d34_0 : decode qc34 0 = .ok (.iconst 1, 1) := by decide +kernel
theorem d34_1 : decode qc34 1 = .ok (.istore_n 1, 1) := by decide +kernel
theorem d34_2 : decode qc34 2 = .ok (.iload_n 0, 1) := by decide +kernel
theorem d34_3 : decode qc34 3 = .ok (.ifCond .lt 8, 3) := by decide +kernel
theorem d34_6 : decode qc34 6 = .ok (.iconst 0, 1) := by decide +kernel
theorem d34_7 : decode qc34 7 = .ok (.istore_n 1, 1) := by decide +kernel
theorem d34_8 : decode qc34 8 = .ok (.iload_n 0, 1) := by decide +kernel
theorem d34_9 : decode qc34 9 = .ok (.ineg, 1) := by decide +kernel
theorem d34_10 : decode qc34 10 = .ok (.istore_n 0, 1) := by decide +kernel
theorem d34_11 : decode qc34 11 = .ok (.bipush (-10), 2) := by decide +kernel
theorem d34_13 : decode qc34 13 = .ok (.istore_n 2, 1) := by decide +kernel
theorem d34_14 : decode qc34 14 = .ok (.iconst 1, 1) := by decide +kernel
theorem d34_15 : decode qc34 15 = .ok (.istore_n 3, 1) := by decide +kernel
theorem d34_16 : decode qc34 16 = .ok (.iload_n 3, 1) := by decide +kernel
theorem d34_17 : decode qc34 17 = .ok (.bipush 10, 2) := by decide +kernel
theorem d34_19 : decode qc34 19 = .ok (.if_icmp .ge 23, 3) := by decide +kernel
theorem d34_22 : decode qc34 22 = .ok (.iload_n 0, 1) := by decide +kernel
theorem d34_23 : decode qc34 23 = .ok (.iload_n 2, 1) := by decide +kernel
theorem d34_24 : decode qc34 24 = .ok (.if_icmp .le 7, 3) := by decide +kernel
theorem d34_27 : decode qc34 27 = .ok (.iload_n 3, 1) := by decide +kernel
theorem d34_28 : decode qc34 28 = .ok (.iload_n 1, 1) := by decide +kernel
theorem d34_29 : decode qc34 29 = .ok (.iadd, 1) := by decide +kernel
theorem d34_30 : decode qc34 30 = .ok (.ireturn, 1) := by decide +kernel
theorem d34_31 : decode qc34 31 = .ok (.bipush 10, 2) := by decide +kernel
theorem d34_33 : decode qc34 33 = .ok (.iload_n 2, 1) := by decide +kernel
theorem d34_34 : decode qc34 34 = .ok (.imul, 1) := by decide +kernel
theorem d34_35 : decode qc34 35 = .ok (.istore_n 2, 1) := by decide +kernel
theorem d34_36 : decode qc34 36 = .ok (.iinc 3 1, 3) := by decide +kernel
theorem d34_39 : decode qc34 39 = .ok (.goto (-23), 3) := by decide +kernel
theorem d34_42 : decode qc34 42 = .ok (.bipush 10, 2) := by decide +kernel
theorem d34_44 : decode qc34 44 = .ok (.iload_n 1, 1) := by decide +kernel
theorem d34_45 : decode qc34 45 = .ok (.iadd, 1) := by decide +kernel
theorem d34_46 : decode qc34 46 = .ok (.ireturn, 1) := by decide +kernel
abbrev rr_ss : Room := { frames := 0, cells := 0, slots := 0, locals := 0 }
abbrev y_34 : MethodName := ⟨cn_7, "stringSize", "(I)I"⟩
theorem pn_7 : plainName cn_7 = true := by first | (simp [plainName, overriddenIn]; done) | decide +kernel
theorem ef_ss (m : MethodId) (p0 : Int32) : entryFrame m #[(.int p0)] 4 = mkF m 0 #[vI p0, u_, u_, u_] [] := by first | (simp [entryFrame, mkF, argsToLocals, Value.category]; done) | rfl
def Q_ss (Z : State) (w_0 w_1 : Addr) (w_2 : Int32) (w_3 : Value) (p0 : Int32) (h0 : Heap) (n0 : Nat) (v : Option Value) (h : Heap) (L : List Loc) : Prop := ∃ n : Int32, v = some (.int n) ∧ Fr n0 L ∧ Keep h0 h [] ∧ own_sz p0 n
theorem rm_ss (l : Launch) (Z : State) (a0 : Array Value) (hw : HW Z a0) (ws : List Jvm.Cond) (w_0 w_1 : Addr) (w_2 : Int32) (w_3 : Value) (p0 : Int32) (h0 : Heap) (n0 : Nat) (Z0 : n0 ≤ h0.size) (ST : own_St Z w_0 w_1 w_2 w_3) (O0 : Old Z n0 h0) (hp : (0 : Int32) < p0) :
    own_Met l y_34 jdk_33_method_13_code 4 (some .int) ws rr_ss Z #[(.int p0)] h0 (Q_ss Z w_0 w_1 w_2 w_3 p0 h0 n0) := by
  refine MetFree.of_bodySF (plainFor_of_name pn_7) hisR ?_
  intro p e s m args below meth c s₁ Bd hml0 hP hK
  obtain ⟨rfl, hZ, hh⟩ := hP
  have hx := Bd.exec
  have hby := Bd.bytes
  have B := @hb _ _ hby
  have hml : c.maxLocals = 4 := hml0
  have hown : s.vm.findClass cn_7 = some m.cls := findClass_of_methodNamed Bd.named
  have X0 : Stand p l e rr_ss s m #[(.int p0)] below meth c s₁ [] 0 0 := Stand.of_body Bd
  have e0 : s₁.heap = h0 := by rw [← hh, Bd.state]; rfl
  have N0 := Fr.nil n0
  have K0 : Keep h0 h0 [] := Keep.refl _ _
  obtain ⟨G, step, ret, fin⟩ := own_openX X0 (rr_ss.cells) (rr_ss.slots) (Q_ss Z w_0 w_1 w_2 w_3 p0 h0 n0) Bd.notSynchronized
  refine fin (g := entryFrame m #[(.int p0)] 4) ?_
  rw [ef_ss m p0]
  refine step (fun _ => XS.iconst X0.here hx rfl (B d34_0)) ?_
  refine step (fun _ => XS.istoreN X0.here hx rfl (B d34_1) rfl (l' := #[vI p0, vI 1, u_, u_]) rfl) ?_
  refine step (fun _ => XS.iloadN X0.here hx rfl (B d34_2) rfl) ?_
  refine step (fun _ => XS.ifNo X0.here hx rfl (B d34_3) rfl ((if0 _ _).trans (flt (own_posn hp)).1)) ?_
  refine step (fun _ => XS.iconst X0.here hx rfl (B d34_6)) ?_
  refine step (fun _ => XS.istoreN X0.here hx rfl (B d34_7) rfl (l' := #[vI p0, vI 0, u_, u_]) rfl) ?_
  show G s₁ (mkF m 8 #[vI p0, vI 0, u_, u_] [])
  refine step (fun _ => XS.iloadN X0.here hx rfl (B d34_8) rfl) ?_
  refine step (fun _ => XS.ineg X0.here hx rfl (B d34_9) rfl) ?_
  refine step (fun _ => XS.istoreN X0.here hx rfl (B d34_10) rfl (l' := #[vI ((-p0)), vI 0, u_, u_]) rfl) ?_
  refine step (fun _ => XS.bipush X0.here hx rfl (B d34_11)) ?_
  refine step (fun _ => XS.istoreN X0.here hx rfl (B d34_13) rfl (l' := #[vI ((-p0)), vI 0, vI ((-10)), u_]) rfl) ?_
  refine step (fun _ => XS.iconst X0.here hx rfl (B d34_14)) ?_
  show G s₁ (mkF m 15 #[vI ((-p0)), vI 0, vI ((-10)), u_] [(.int 1)])
  refine step (fun _ => XS.istoreN X0.here hx rfl (B d34_15) rfl (l' := #[vI ((-p0)), vI 0, vI ((-10)), vI 1]) rfl) ?_
  refine step (fun _ => XS.iloadN X0.here hx rfl (B d34_16) rfl) ?_
  refine step (fun _ => XS.bipush X0.here hx rfl (B d34_17)) ?_
  refine step (fun _ => XS.icmpNo X0.here hx rfl (B d34_19) rfl (tlt (by decide : (1 : Int32) < (10 : Int32))).2.1) ?_
  refine step (fun _ => XS.iloadN X0.here hx rfl (B d34_22) rfl) ?_
  refine step (fun _ => XS.iloadN X0.here hx rfl (B d34_23) rfl) ?_
  show G s₁ (mkF m 24 #[vI ((-p0)), vI 0, vI ((-10)), vI 1] [(.int (-10)), (.int (-p0))])
  by_cases hc1 : (-10 : Int32) < (-p0)
  · skip
    refine step (fun _ => XS.icmpNo X0.here hx rfl (B d34_24) rfl (tlt hc1).2.2.2) ?_
    refine step (fun _ => XS.iloadN X0.here hx rfl (B d34_27) rfl) ?_
    refine step (fun _ => XS.iloadN X0.here hx rfl (B d34_28) rfl) ?_
    refine step (fun _ => XS.iadd X0.here hx rfl (B d34_29) rfl) ?_
    show G s₁ (mkF m 30 #[vI ((-p0)), vI 0, vI ((-10)), vI 1] [(.int ((1 : Int32) + (0 : Int32)))])
    rw [(by decide : ((1 : Int32) + (0 : Int32)) = (1 : Int32))]
    have hz2 : 1 ≤ p0.toInt ∧ p0.toInt < 10 := by
      have k0 := own_pos hp
      have c1 := c_ineg p0
      have r0 := rng32 p0
      have r1 := rng32 (-p0)
      have k2 : (-10 : Int32).toInt = -10 := by decide
      have g2 := hc1
      rw [own_xlt] at g2
      omega
    exact ret (v := some (.int 1)) X0 (fun h => by rw [Bd.returns] at h; cases h) (fun fs hr => retI X0 hx Bd.returns (B d34_30) hr) e0 ⟨(1 : Int32), rfl, N0, K0, (Or.inl ⟨rfl, hz2⟩)⟩ (by decide) (by decide)
  · skip
    refine step (fun _ => XS.icmpYes X0.here hx rfl (pc0 := 24) (pc' := 31) rfl (B d34_24) rfl (flt hc1).2.2.2 (by decide) (by decide)) ?_
    refine step (fun _ => XS.bipush X0.here hx rfl (B d34_31)) ?_
    refine step (fun _ => XS.iloadN X0.here hx rfl (B d34_33) rfl) ?_
    refine step (fun _ => XS.imul X0.here hx rfl (B d34_34) rfl) ?_
    show G s₁ (mkF m 35 #[vI ((-p0)), vI 0, vI ((-10)), vI 1] [(.int ((10 : Int32) * (-10 : Int32)))])
    rw [(by decide : ((10 : Int32) * (-10 : Int32)) = (-100 : Int32))]
    refine step (fun _ => XS.istoreN X0.here hx rfl (B d34_35) rfl (l' := #[vI ((-p0)), vI 0, vI ((-100)), vI 1]) rfl) ?_
    refine step (fun _ => XS.iinc X0.here hx rfl (B d34_36) rfl (l' := #[vI ((-p0)), vI 0, vI ((-100)), vI (((1 : Int32) + (1 : Int32)))]) rfl) ?_
    show G s₁ (mkF m 39 #[vI ((-p0)), vI 0, vI ((-100)), vI (((1 : Int32) + (1 : Int32)))] [])
    rw [(by decide : ((1 : Int32) + (1 : Int32)) = (2 : Int32))]
    refine step (fun _ => XS.goto X0.here hx rfl (pc0 := 39) (pc' := 16) rfl (B d34_39) (by decide) (by decide)) ?_
    refine step (fun _ => XS.iloadN X0.here hx rfl (B d34_16) rfl) ?_
    refine step (fun _ => XS.bipush X0.here hx rfl (B d34_17)) ?_
    refine step (fun _ => XS.icmpNo X0.here hx rfl (B d34_19) rfl (tlt (by decide : (2 : Int32) < (10 : Int32))).2.1) ?_
    refine step (fun _ => XS.iloadN X0.here hx rfl (B d34_22) rfl) ?_
    refine step (fun _ => XS.iloadN X0.here hx rfl (B d34_23) rfl) ?_
    show G s₁ (mkF m 24 #[vI ((-p0)), vI 0, vI ((-100)), vI 2] [(.int (-100)), (.int (-p0))])
    by_cases hc3 : (-100 : Int32) < (-p0)
    · skip
      refine step (fun _ => XS.icmpNo X0.here hx rfl (B d34_24) rfl (tlt hc3).2.2.2) ?_
      refine step (fun _ => XS.iloadN X0.here hx rfl (B d34_27) rfl) ?_
      refine step (fun _ => XS.iloadN X0.here hx rfl (B d34_28) rfl) ?_
      refine step (fun _ => XS.iadd X0.here hx rfl (B d34_29) rfl) ?_
      show G s₁ (mkF m 30 #[vI ((-p0)), vI 0, vI ((-100)), vI 2] [(.int ((2 : Int32) + (0 : Int32)))])
      rw [(by decide : ((2 : Int32) + (0 : Int32)) = (2 : Int32))]
      have hz4 : 10 ≤ p0.toInt ∧ p0.toInt < 100 := by
        have k0 := own_pos hp
        have c1 := c_ineg p0
        have r0 := rng32 p0
        have r1 := rng32 (-p0)
        have k2 : (-10 : Int32).toInt = -10 := by decide
        have g2 := hc1
        rw [own_xlt] at g2
        have k3 : (-100 : Int32).toInt = -100 := by decide
        have g3 := hc3
        rw [own_xlt] at g3
        omega
      exact ret (v := some (.int 2)) X0 (fun h => by rw [Bd.returns] at h; cases h) (fun fs hr => retI X0 hx Bd.returns (B d34_30) hr) e0 ⟨(2 : Int32), rfl, N0, K0, (Or.inr (Or.inl ⟨rfl, hz4⟩))⟩ (by decide) (by decide)
    · skip
      refine step (fun _ => XS.icmpYes X0.here hx rfl (pc0 := 24) (pc' := 31) rfl (B d34_24) rfl (flt hc3).2.2.2 (by decide) (by decide)) ?_
      refine step (fun _ => XS.bipush X0.here hx rfl (B d34_31)) ?_
      refine step (fun _ => XS.iloadN X0.here hx rfl (B d34_33) rfl) ?_
      refine step (fun _ => XS.imul X0.here hx rfl (B d34_34) rfl) ?_
      show G s₁ (mkF m 35 #[vI ((-p0)), vI 0, vI ((-100)), vI 2] [(.int ((10 : Int32) * (-100 : Int32)))])
      rw [(by decide : ((10 : Int32) * (-100 : Int32)) = (-1000 : Int32))]
      refine step (fun _ => XS.istoreN X0.here hx rfl (B d34_35) rfl (l' := #[vI ((-p0)), vI 0, vI ((-1000)), vI 2]) rfl) ?_
      refine step (fun _ => XS.iinc X0.here hx rfl (B d34_36) rfl (l' := #[vI ((-p0)), vI 0, vI ((-1000)), vI (((2 : Int32) + (1 : Int32)))]) rfl) ?_
      show G s₁ (mkF m 39 #[vI ((-p0)), vI 0, vI ((-1000)), vI (((2 : Int32) + (1 : Int32)))] [])
      rw [(by decide : ((2 : Int32) + (1 : Int32)) = (3 : Int32))]
      refine step (fun _ => XS.goto X0.here hx rfl (pc0 := 39) (pc' := 16) rfl (B d34_39) (by decide) (by decide)) ?_
      refine step (fun _ => XS.iloadN X0.here hx rfl (B d34_16) rfl) ?_
      refine step (fun _ => XS.bipush X0.here hx rfl (B d34_17)) ?_
      refine step (fun _ => XS.icmpNo X0.here hx rfl (B d34_19) rfl (tlt (by decide : (3 : Int32) < (10 : Int32))).2.1) ?_
      refine step (fun _ => XS.iloadN X0.here hx rfl (B d34_22) rfl) ?_
      refine step (fun _ => XS.iloadN X0.here hx rfl (B d34_23) rfl) ?_
      show G s₁ (mkF m 24 #[vI ((-p0)), vI 0, vI ((-1000)), vI 3] [(.int (-1000)), (.int (-p0))])
      by_cases hc5 : (-1000 : Int32) < (-p0)
      · skip
        refine step (fun _ => XS.icmpNo X0.here hx rfl (B d34_24) rfl (tlt hc5).2.2.2) ?_
        refine step (fun _ => XS.iloadN X0.here hx rfl (B d34_27) rfl) ?_
        refine step (fun _ => XS.iloadN X0.here hx rfl (B d34_28) rfl) ?_
        refine step (fun _ => XS.iadd X0.here hx rfl (B d34_29) rfl) ?_
        show G s₁ (mkF m 30 #[vI ((-p0)), vI 0, vI ((-1000)), vI 3] [(.int ((3 : Int32) + (0 : Int32)))])
        rw [(by decide : ((3 : Int32) + (0 : Int32)) = (3 : Int32))]
        have hz6 : 100 ≤ p0.toInt ∧ p0.toInt < 1000 := by
          have k0 := own_pos hp
          have c1 := c_ineg p0
          have r0 := rng32 p0
          have r1 := rng32 (-p0)
          have k3 : (-100 : Int32).toInt = -100 := by decide
          have g3 := hc3
          rw [own_xlt] at g3
          have k4 : (-1000 : Int32).toInt = -1000 := by decide
          have g4 := hc5
          rw [own_xlt] at g4
          omega
        exact ret (v := some (.int 3)) X0 (fun h => by rw [Bd.returns] at h; cases h) (fun fs hr => retI X0 hx Bd.returns (B d34_30) hr) e0 ⟨(3 : Int32), rfl, N0, K0, (Or.inr (Or.inr (Or.inl ⟨rfl, hz6⟩)))⟩ (by decide) (by decide)
      · skip
        refine step (fun _ => XS.icmpYes X0.here hx rfl (pc0 := 24) (pc' := 31) rfl (B d34_24) rfl (flt hc5).2.2.2 (by decide) (by decide)) ?_
        refine step (fun _ => XS.bipush X0.here hx rfl (B d34_31)) ?_
        refine step (fun _ => XS.iloadN X0.here hx rfl (B d34_33) rfl) ?_
        refine step (fun _ => XS.imul X0.here hx rfl (B d34_34) rfl) ?_
        show G s₁ (mkF m 35 #[vI ((-p0)), vI 0, vI ((-1000)), vI 3] [(.int ((10 : Int32) * (-1000 : Int32)))])
        rw [(by decide : ((10 : Int32) * (-1000 : Int32)) = (-10000 : Int32))]
        refine step (fun _ => XS.istoreN X0.here hx rfl (B d34_35) rfl (l' := #[vI ((-p0)), vI 0, vI ((-10000)), vI 3]) rfl) ?_
        refine step (fun _ => XS.iinc X0.here hx rfl (B d34_36) rfl (l' := #[vI ((-p0)), vI 0, vI ((-10000)), vI (((3 : Int32) + (1 : Int32)))]) rfl) ?_
        show G s₁ (mkF m 39 #[vI ((-p0)), vI 0, vI ((-10000)), vI (((3 : Int32) + (1 : Int32)))] [])
        rw [(by decide : ((3 : Int32) + (1 : Int32)) = (4 : Int32))]
        refine step (fun _ => XS.goto X0.here hx rfl (pc0 := 39) (pc' := 16) rfl (B d34_39) (by decide) (by decide)) ?_
        refine step (fun _ => XS.iloadN X0.here hx rfl (B d34_16) rfl) ?_
        refine step (fun _ => XS.bipush X0.here hx rfl (B d34_17)) ?_
        refine step (fun _ => XS.icmpNo X0.here hx rfl (B d34_19) rfl (tlt (by decide : (4 : Int32) < (10 : Int32))).2.1) ?_
        refine step (fun _ => XS.iloadN X0.here hx rfl (B d34_22) rfl) ?_
        refine step (fun _ => XS.iloadN X0.here hx rfl (B d34_23) rfl) ?_
        show G s₁ (mkF m 24 #[vI ((-p0)), vI 0, vI ((-10000)), vI 4] [(.int (-10000)), (.int (-p0))])
        by_cases hc7 : (-10000 : Int32) < (-p0)
        · skip
          refine step (fun _ => XS.icmpNo X0.here hx rfl (B d34_24) rfl (tlt hc7).2.2.2) ?_
          refine step (fun _ => XS.iloadN X0.here hx rfl (B d34_27) rfl) ?_
          refine step (fun _ => XS.iloadN X0.here hx rfl (B d34_28) rfl) ?_
          refine step (fun _ => XS.iadd X0.here hx rfl (B d34_29) rfl) ?_
          show G s₁ (mkF m 30 #[vI ((-p0)), vI 0, vI ((-10000)), vI 4] [(.int ((4 : Int32) + (0 : Int32)))])
          rw [(by decide : ((4 : Int32) + (0 : Int32)) = (4 : Int32))]
          have hz8 : 1000 ≤ p0.toInt ∧ p0.toInt < 10000 := by
            have k0 := own_pos hp
            have c1 := c_ineg p0
            have r0 := rng32 p0
            have r1 := rng32 (-p0)
            have k4 : (-1000 : Int32).toInt = -1000 := by decide
            have g4 := hc5
            rw [own_xlt] at g4
            have k5 : (-10000 : Int32).toInt = -10000 := by decide
            have g5 := hc7
            rw [own_xlt] at g5
            omega
          exact ret (v := some (.int 4)) X0 (fun h => by rw [Bd.returns] at h; cases h) (fun fs hr => retI X0 hx Bd.returns (B d34_30) hr) e0 ⟨(4 : Int32), rfl, N0, K0, (Or.inr (Or.inr (Or.inr (Or.inl ⟨rfl, hz8⟩))))⟩ (by decide) (by decide)
        · skip
          refine step (fun _ => XS.icmpYes X0.here hx rfl (pc0 := 24) (pc' := 31) rfl (B d34_24) rfl (flt hc7).2.2.2 (by decide) (by decide)) ?_
          refine step (fun _ => XS.bipush X0.here hx rfl (B d34_31)) ?_
          refine step (fun _ => XS.iloadN X0.here hx rfl (B d34_33) rfl) ?_
          refine step (fun _ => XS.imul X0.here hx rfl (B d34_34) rfl) ?_
          show G s₁ (mkF m 35 #[vI ((-p0)), vI 0, vI ((-10000)), vI 4] [(.int ((10 : Int32) * (-10000 : Int32)))])
          rw [(by decide : ((10 : Int32) * (-10000 : Int32)) = (-100000 : Int32))]
          refine step (fun _ => XS.istoreN X0.here hx rfl (B d34_35) rfl (l' := #[vI ((-p0)), vI 0, vI ((-100000)), vI 4]) rfl) ?_
          refine step (fun _ => XS.iinc X0.here hx rfl (B d34_36) rfl (l' := #[vI ((-p0)), vI 0, vI ((-100000)), vI (((4 : Int32) + (1 : Int32)))]) rfl) ?_
          show G s₁ (mkF m 39 #[vI ((-p0)), vI 0, vI ((-100000)), vI (((4 : Int32) + (1 : Int32)))] [])
          rw [(by decide : ((4 : Int32) + (1 : Int32)) = (5 : Int32))]
          refine step (fun _ => XS.goto X0.here hx rfl (pc0 := 39) (pc' := 16) rfl (B d34_39) (by decide) (by decide)) ?_
          refine step (fun _ => XS.iloadN X0.here hx rfl (B d34_16) rfl) ?_
          refine step (fun _ => XS.bipush X0.here hx rfl (B d34_17)) ?_
          refine step (fun _ => XS.icmpNo X0.here hx rfl (B d34_19) rfl (tlt (by decide : (5 : Int32) < (10 : Int32))).2.1) ?_
          refine step (fun _ => XS.iloadN X0.here hx rfl (B d34_22) rfl) ?_
          refine step (fun _ => XS.iloadN X0.here hx rfl (B d34_23) rfl) ?_
          show G s₁ (mkF m 24 #[vI ((-p0)), vI 0, vI ((-100000)), vI 5] [(.int (-100000)), (.int (-p0))])
          by_cases hc9 : (-100000 : Int32) < (-p0)
          · skip
            refine step (fun _ => XS.icmpNo X0.here hx rfl (B d34_24) rfl (tlt hc9).2.2.2) ?_
            refine step (fun _ => XS.iloadN X0.here hx rfl (B d34_27) rfl) ?_
            refine step (fun _ => XS.iloadN X0.here hx rfl (B d34_28) rfl) ?_
            refine step (fun _ => XS.iadd X0.here hx rfl (B d34_29) rfl) ?_
            show G s₁ (mkF m 30 #[vI ((-p0)), vI 0, vI ((-100000)), vI 5] [(.int ((5 : Int32) + (0 : Int32)))])
            rw [(by decide : ((5 : Int32) + (0 : Int32)) = (5 : Int32))]
            have hz10 : 10000 ≤ p0.toInt ∧ p0.toInt < 100000 := by
              have k0 := own_pos hp
              have c1 := c_ineg p0
              have r0 := rng32 p0
              have r1 := rng32 (-p0)
              have k5 : (-10000 : Int32).toInt = -10000 := by decide
              have g5 := hc7
              rw [own_xlt] at g5
              have k6 : (-100000 : Int32).toInt = -100000 := by decide
              have g6 := hc9
              rw [own_xlt] at g6
              omega
            exact ret (v := some (.int 5)) X0 (fun h => by rw [Bd.returns] at h; cases h) (fun fs hr => retI X0 hx Bd.returns (B d34_30) hr) e0 ⟨(5 : Int32), rfl, N0, K0, (Or.inr (Or.inr (Or.inr (Or.inr (Or.inl ⟨rfl, hz10⟩)))))⟩ (by decide) (by decide)
          · skip
            refine step (fun _ => XS.icmpYes X0.here hx rfl (pc0 := 24) (pc' := 31) rfl (B d34_24) rfl (flt hc9).2.2.2 (by decide) (by decide)) ?_
            refine step (fun _ => XS.bipush X0.here hx rfl (B d34_31)) ?_
            refine step (fun _ => XS.iloadN X0.here hx rfl (B d34_33) rfl) ?_
            refine step (fun _ => XS.imul X0.here hx rfl (B d34_34) rfl) ?_
            show G s₁ (mkF m 35 #[vI ((-p0)), vI 0, vI ((-100000)), vI 5] [(.int ((10 : Int32) * (-100000 : Int32)))])
            rw [(by decide : ((10 : Int32) * (-100000 : Int32)) = (-1000000 : Int32))]
            refine step (fun _ => XS.istoreN X0.here hx rfl (B d34_35) rfl (l' := #[vI ((-p0)), vI 0, vI ((-1000000)), vI 5]) rfl) ?_
            refine step (fun _ => XS.iinc X0.here hx rfl (B d34_36) rfl (l' := #[vI ((-p0)), vI 0, vI ((-1000000)), vI (((5 : Int32) + (1 : Int32)))]) rfl) ?_
            show G s₁ (mkF m 39 #[vI ((-p0)), vI 0, vI ((-1000000)), vI (((5 : Int32) + (1 : Int32)))] [])
            rw [(by decide : ((5 : Int32) + (1 : Int32)) = (6 : Int32))]
            refine step (fun _ => XS.goto X0.here hx rfl (pc0 := 39) (pc' := 16) rfl (B d34_39) (by decide) (by decide)) ?_
            refine step (fun _ => XS.iloadN X0.here hx rfl (B d34_16) rfl) ?_
            refine step (fun _ => XS.bipush X0.here hx rfl (B d34_17)) ?_
            refine step (fun _ => XS.icmpNo X0.here hx rfl (B d34_19) rfl (tlt (by decide : (6 : Int32) < (10 : Int32))).2.1) ?_
            refine step (fun _ => XS.iloadN X0.here hx rfl (B d34_22) rfl) ?_
            refine step (fun _ => XS.iloadN X0.here hx rfl (B d34_23) rfl) ?_
            show G s₁ (mkF m 24 #[vI ((-p0)), vI 0, vI ((-1000000)), vI 6] [(.int (-1000000)), (.int (-p0))])
            by_cases hc11 : (-1000000 : Int32) < (-p0)
            · skip
              refine step (fun _ => XS.icmpNo X0.here hx rfl (B d34_24) rfl (tlt hc11).2.2.2) ?_
              refine step (fun _ => XS.iloadN X0.here hx rfl (B d34_27) rfl) ?_
              refine step (fun _ => XS.iloadN X0.here hx rfl (B d34_28) rfl) ?_
              refine step (fun _ => XS.iadd X0.here hx rfl (B d34_29) rfl) ?_
              show G s₁ (mkF m 30 #[vI ((-p0)), vI 0, vI ((-1000000)), vI 6] [(.int ((6 : Int32) + (0 : Int32)))])
              rw [(by decide : ((6 : Int32) + (0 : Int32)) = (6 : Int32))]
              have hz12 : 100000 ≤ p0.toInt ∧ p0.toInt < 1000000 := by
                have k0 := own_pos hp
                have c1 := c_ineg p0
                have r0 := rng32 p0
                have r1 := rng32 (-p0)
                have k6 : (-100000 : Int32).toInt = -100000 := by decide
                have g6 := hc9
                rw [own_xlt] at g6
                have k7 : (-1000000 : Int32).toInt = -1000000 := by decide
                have g7 := hc11
                rw [own_xlt] at g7
                omega
              exact ret (v := some (.int 6)) X0 (fun h => by rw [Bd.returns] at h; cases h) (fun fs hr => retI X0 hx Bd.returns (B d34_30) hr) e0 ⟨(6 : Int32), rfl, N0, K0, (Or.inr (Or.inr (Or.inr (Or.inr (Or.inr (Or.inl ⟨rfl, hz12⟩))))))⟩ (by decide) (by decide)
            · skip
              refine step (fun _ => XS.icmpYes X0.here hx rfl (pc0 := 24) (pc' := 31) rfl (B d34_24) rfl (flt hc11).2.2.2 (by decide) (by decide)) ?_
              refine step (fun _ => XS.bipush X0.here hx rfl (B d34_31)) ?_
              refine step (fun _ => XS.iloadN X0.here hx rfl (B d34_33) rfl) ?_
              refine step (fun _ => XS.imul X0.here hx rfl (B d34_34) rfl) ?_
              show G s₁ (mkF m 35 #[vI ((-p0)), vI 0, vI ((-1000000)), vI 6] [(.int ((10 : Int32) * (-1000000 : Int32)))])
              rw [(by decide : ((10 : Int32) * (-1000000 : Int32)) = (-10000000 : Int32))]
              refine step (fun _ => XS.istoreN X0.here hx rfl (B d34_35) rfl (l' := #[vI ((-p0)), vI 0, vI ((-10000000)), vI 6]) rfl) ?_
              refine step (fun _ => XS.iinc X0.here hx rfl (B d34_36) rfl (l' := #[vI ((-p0)), vI 0, vI ((-10000000)), vI (((6 : Int32) + (1 : Int32)))]) rfl) ?_
              show G s₁ (mkF m 39 #[vI ((-p0)), vI 0, vI ((-10000000)), vI (((6 : Int32) + (1 : Int32)))] [])
              rw [(by decide : ((6 : Int32) + (1 : Int32)) = (7 : Int32))]
              refine step (fun _ => XS.goto X0.here hx rfl (pc0 := 39) (pc' := 16) rfl (B d34_39) (by decide) (by decide)) ?_
              refine step (fun _ => XS.iloadN X0.here hx rfl (B d34_16) rfl) ?_
              refine step (fun _ => XS.bipush X0.here hx rfl (B d34_17)) ?_
              refine step (fun _ => XS.icmpNo X0.here hx rfl (B d34_19) rfl (tlt (by decide : (7 : Int32) < (10 : Int32))).2.1) ?_
              refine step (fun _ => XS.iloadN X0.here hx rfl (B d34_22) rfl) ?_
              refine step (fun _ => XS.iloadN X0.here hx rfl (B d34_23) rfl) ?_
              show G s₁ (mkF m 24 #[vI ((-p0)), vI 0, vI ((-10000000)), vI 7] [(.int (-10000000)), (.int (-p0))])
              by_cases hc13 : (-10000000 : Int32) < (-p0)
              · skip
                refine step (fun _ => XS.icmpNo X0.here hx rfl (B d34_24) rfl (tlt hc13).2.2.2) ?_
                refine step (fun _ => XS.iloadN X0.here hx rfl (B d34_27) rfl) ?_
                refine step (fun _ => XS.iloadN X0.here hx rfl (B d34_28) rfl) ?_
                refine step (fun _ => XS.iadd X0.here hx rfl (B d34_29) rfl) ?_
                show G s₁ (mkF m 30 #[vI ((-p0)), vI 0, vI ((-10000000)), vI 7] [(.int ((7 : Int32) + (0 : Int32)))])
                rw [(by decide : ((7 : Int32) + (0 : Int32)) = (7 : Int32))]
                have hz14 : 1000000 ≤ p0.toInt ∧ p0.toInt < 10000000 := by
                  have k0 := own_pos hp
                  have c1 := c_ineg p0
                  have r0 := rng32 p0
                  have r1 := rng32 (-p0)
                  have k7 : (-1000000 : Int32).toInt = -1000000 := by decide
                  have g7 := hc11
                  rw [own_xlt] at g7
                  have k8 : (-10000000 : Int32).toInt = -10000000 := by decide
                  have g8 := hc13
                  rw [own_xlt] at g8
                  omega
                exact ret (v := some (.int 7)) X0 (fun h => by rw [Bd.returns] at h; cases h) (fun fs hr => retI X0 hx Bd.returns (B d34_30) hr) e0 ⟨(7 : Int32), rfl, N0, K0, (Or.inr (Or.inr (Or.inr (Or.inr (Or.inr (Or.inr (Or.inl ⟨rfl, hz14⟩)))))))⟩ (by decide) (by decide)
              · skip
                refine step (fun _ => XS.icmpYes X0.here hx rfl (pc0 := 24) (pc' := 31) rfl (B d34_24) rfl (flt hc13).2.2.2 (by decide) (by decide)) ?_
                refine step (fun _ => XS.bipush X0.here hx rfl (B d34_31)) ?_
                refine step (fun _ => XS.iloadN X0.here hx rfl (B d34_33) rfl) ?_
                refine step (fun _ => XS.imul X0.here hx rfl (B d34_34) rfl) ?_
                show G s₁ (mkF m 35 #[vI ((-p0)), vI 0, vI ((-10000000)), vI 7] [(.int ((10 : Int32) * (-10000000 : Int32)))])
                rw [(by decide : ((10 : Int32) * (-10000000 : Int32)) = (-100000000 : Int32))]
                refine step (fun _ => XS.istoreN X0.here hx rfl (B d34_35) rfl (l' := #[vI ((-p0)), vI 0, vI ((-100000000)), vI 7]) rfl) ?_
                refine step (fun _ => XS.iinc X0.here hx rfl (B d34_36) rfl (l' := #[vI ((-p0)), vI 0, vI ((-100000000)), vI (((7 : Int32) + (1 : Int32)))]) rfl) ?_
                show G s₁ (mkF m 39 #[vI ((-p0)), vI 0, vI ((-100000000)), vI (((7 : Int32) + (1 : Int32)))] [])
                rw [(by decide : ((7 : Int32) + (1 : Int32)) = (8 : Int32))]
                refine step (fun _ => XS.goto X0.here hx rfl (pc0 := 39) (pc' := 16) rfl (B d34_39) (by decide) (by decide)) ?_
                refine step (fun _ => XS.iloadN X0.here hx rfl (B d34_16) rfl) ?_
                refine step (fun _ => XS.bipush X0.here hx rfl (B d34_17)) ?_
                refine step (fun _ => XS.icmpNo X0.here hx rfl (B d34_19) rfl (tlt (by decide : (8 : Int32) < (10 : Int32))).2.1) ?_
                refine step (fun _ => XS.iloadN X0.here hx rfl (B d34_22) rfl) ?_
                refine step (fun _ => XS.iloadN X0.here hx rfl (B d34_23) rfl) ?_
                show G s₁ (mkF m 24 #[vI ((-p0)), vI 0, vI ((-100000000)), vI 8] [(.int (-100000000)), (.int (-p0))])
                by_cases hc15 : (-100000000 : Int32) < (-p0)
                · skip
                  refine step (fun _ => XS.icmpNo X0.here hx rfl (B d34_24) rfl (tlt hc15).2.2.2) ?_
                  refine step (fun _ => XS.iloadN X0.here hx rfl (B d34_27) rfl) ?_
                  refine step (fun _ => XS.iloadN X0.here hx rfl (B d34_28) rfl) ?_
                  refine step (fun _ => XS.iadd X0.here hx rfl (B d34_29) rfl) ?_
                  show G s₁ (mkF m 30 #[vI ((-p0)), vI 0, vI ((-100000000)), vI 8] [(.int ((8 : Int32) + (0 : Int32)))])
                  rw [(by decide : ((8 : Int32) + (0 : Int32)) = (8 : Int32))]
                  have hz16 : 10000000 ≤ p0.toInt ∧ p0.toInt < 100000000 := by
                    have k0 := own_pos hp
                    have c1 := c_ineg p0
                    have r0 := rng32 p0
                    have r1 := rng32 (-p0)
                    have k8 : (-10000000 : Int32).toInt = -10000000 := by decide
                    have g8 := hc13
                    rw [own_xlt] at g8
                    have k9 : (-100000000 : Int32).toInt = -100000000 := by decide
                    have g9 := hc15
                    rw [own_xlt] at g9
                    omega
                  exact ret (v := some (.int 8)) X0 (fun h => by rw [Bd.returns] at h; cases h) (fun fs hr => retI X0 hx Bd.returns (B d34_30) hr) e0 ⟨(8 : Int32), rfl, N0, K0, (Or.inr (Or.inr (Or.inr (Or.inr (Or.inr (Or.inr (Or.inr (Or.inl ⟨rfl, hz16⟩))))))))⟩ (by decide) (by decide)
                · skip
                  refine step (fun _ => XS.icmpYes X0.here hx rfl (pc0 := 24) (pc' := 31) rfl (B d34_24) rfl (flt hc15).2.2.2 (by decide) (by decide)) ?_
                  refine step (fun _ => XS.bipush X0.here hx rfl (B d34_31)) ?_
                  refine step (fun _ => XS.iloadN X0.here hx rfl (B d34_33) rfl) ?_
                  refine step (fun _ => XS.imul X0.here hx rfl (B d34_34) rfl) ?_
                  show G s₁ (mkF m 35 #[vI ((-p0)), vI 0, vI ((-100000000)), vI 8] [(.int ((10 : Int32) * (-100000000 : Int32)))])
                  rw [(by decide : ((10 : Int32) * (-100000000 : Int32)) = (-1000000000 : Int32))]
                  refine step (fun _ => XS.istoreN X0.here hx rfl (B d34_35) rfl (l' := #[vI ((-p0)), vI 0, vI ((-1000000000)), vI 8]) rfl) ?_
                  refine step (fun _ => XS.iinc X0.here hx rfl (B d34_36) rfl (l' := #[vI ((-p0)), vI 0, vI ((-1000000000)), vI (((8 : Int32) + (1 : Int32)))]) rfl) ?_
                  show G s₁ (mkF m 39 #[vI ((-p0)), vI 0, vI ((-1000000000)), vI (((8 : Int32) + (1 : Int32)))] [])
                  rw [(by decide : ((8 : Int32) + (1 : Int32)) = (9 : Int32))]
                  refine step (fun _ => XS.goto X0.here hx rfl (pc0 := 39) (pc' := 16) rfl (B d34_39) (by decide) (by decide)) ?_
                  refine step (fun _ => XS.iloadN X0.here hx rfl (B d34_16) rfl) ?_
                  refine step (fun _ => XS.bipush X0.here hx rfl (B d34_17)) ?_
                  refine step (fun _ => XS.icmpNo X0.here hx rfl (B d34_19) rfl (tlt (by decide : (9 : Int32) < (10 : Int32))).2.1) ?_
                  refine step (fun _ => XS.iloadN X0.here hx rfl (B d34_22) rfl) ?_
                  refine step (fun _ => XS.iloadN X0.here hx rfl (B d34_23) rfl) ?_
                  show G s₁ (mkF m 24 #[vI ((-p0)), vI 0, vI ((-1000000000)), vI 9] [(.int (-1000000000)), (.int (-p0))])
                  by_cases hc17 : (-1000000000 : Int32) < (-p0)
                  · skip
                    refine step (fun _ => XS.icmpNo X0.here hx rfl (B d34_24) rfl (tlt hc17).2.2.2) ?_
                    refine step (fun _ => XS.iloadN X0.here hx rfl (B d34_27) rfl) ?_
                    refine step (fun _ => XS.iloadN X0.here hx rfl (B d34_28) rfl) ?_
                    refine step (fun _ => XS.iadd X0.here hx rfl (B d34_29) rfl) ?_
                    show G s₁ (mkF m 30 #[vI ((-p0)), vI 0, vI ((-1000000000)), vI 9] [(.int ((9 : Int32) + (0 : Int32)))])
                    rw [(by decide : ((9 : Int32) + (0 : Int32)) = (9 : Int32))]
                    have hz18 : 100000000 ≤ p0.toInt ∧ p0.toInt < 1000000000 := by
                      have k0 := own_pos hp
                      have c1 := c_ineg p0
                      have r0 := rng32 p0
                      have r1 := rng32 (-p0)
                      have k9 : (-100000000 : Int32).toInt = -100000000 := by decide
                      have g9 := hc15
                      rw [own_xlt] at g9
                      have k10 : (-1000000000 : Int32).toInt = -1000000000 := by decide
                      have g10 := hc17
                      rw [own_xlt] at g10
                      omega
                    exact ret (v := some (.int 9)) X0 (fun h => by rw [Bd.returns] at h; cases h) (fun fs hr => retI X0 hx Bd.returns (B d34_30) hr) e0 ⟨(9 : Int32), rfl, N0, K0, (Or.inr (Or.inr (Or.inr (Or.inr (Or.inr (Or.inr (Or.inr (Or.inr (Or.inl ⟨rfl, hz18⟩)))))))))⟩ (by decide) (by decide)
                  · skip
                    refine step (fun _ => XS.icmpYes X0.here hx rfl (pc0 := 24) (pc' := 31) rfl (B d34_24) rfl (flt hc17).2.2.2 (by decide) (by decide)) ?_
                    refine step (fun _ => XS.bipush X0.here hx rfl (B d34_31)) ?_
                    refine step (fun _ => XS.iloadN X0.here hx rfl (B d34_33) rfl) ?_
                    refine step (fun _ => XS.imul X0.here hx rfl (B d34_34) rfl) ?_
                    show G s₁ (mkF m 35 #[vI ((-p0)), vI 0, vI ((-1000000000)), vI 9] [(.int ((10 : Int32) * (-1000000000 : Int32)))])
                    rw [(by decide : ((10 : Int32) * (-1000000000 : Int32)) = (-1410065408 : Int32))]
                    refine step (fun _ => XS.istoreN X0.here hx rfl (B d34_35) rfl (l' := #[vI ((-p0)), vI 0, vI ((-1410065408)), vI 9]) rfl) ?_
                    refine step (fun _ => XS.iinc X0.here hx rfl (B d34_36) rfl (l' := #[vI ((-p0)), vI 0, vI ((-1410065408)), vI (((9 : Int32) + (1 : Int32)))]) rfl) ?_
                    show G s₁ (mkF m 39 #[vI ((-p0)), vI 0, vI ((-1410065408)), vI (((9 : Int32) + (1 : Int32)))] [])
                    rw [(by decide : ((9 : Int32) + (1 : Int32)) = (10 : Int32))]
                    refine step (fun _ => XS.goto X0.here hx rfl (pc0 := 39) (pc' := 16) rfl (B d34_39) (by decide) (by decide)) ?_
                    refine step (fun _ => XS.iloadN X0.here hx rfl (B d34_16) rfl) ?_
                    refine step (fun _ => XS.bipush X0.here hx rfl (B d34_17)) ?_
                    refine step (fun _ => XS.icmpYes X0.here hx rfl (pc0 := 19) (pc' := 42) rfl (B d34_19) rfl (flt (by decide : ¬ ((10 : Int32) < (10 : Int32)))).2.1 (by decide) (by decide)) ?_
                    refine step (fun _ => XS.bipush X0.here hx rfl (B d34_42)) ?_
                    refine step (fun _ => XS.iloadN X0.here hx rfl (B d34_44) rfl) ?_
                    show G s₁ (mkF m 45 #[vI ((-p0)), vI 0, vI ((-1410065408)), vI 10] [(.int 0), (.int 10)])
                    refine step (fun _ => XS.iadd X0.here hx rfl (B d34_45) rfl) ?_
                    show G s₁ (mkF m 46 #[vI ((-p0)), vI 0, vI ((-1410065408)), vI 10] [(.int ((10 : Int32) + (0 : Int32)))])
                    rw [(by decide : ((10 : Int32) + (0 : Int32)) = (10 : Int32))]
                    have hz19 : 1000000000 ≤ p0.toInt ∧ p0.toInt < 2147483648 := by
                      have k0 := own_pos hp
                      have c1 := c_ineg p0
                      have r0 := rng32 p0
                      have r1 := rng32 (-p0)
                      have k10 : (-1000000000 : Int32).toInt = -1000000000 := by decide
                      have g10 := hc17
                      rw [own_xlt] at g10
                      omega
                    exact ret (v := some (.int 10)) X0 (fun h => by rw [Bd.returns] at h; cases h) (fun fs hr => retI X0 hx Bd.returns (B d34_46) hr) e0 ⟨(10 : Int32), rfl, N0, K0, (Or.inr (Or.inr (Or.inr (Or.inr (Or.inr (Or.inr (Or.inr (Or.inr (Or.inr (⟨rfl, hz19⟩))))))))))⟩ (by decide) (by decide)
theorem ww237 (hw : HW Z a0) : Cond.before (Cond.fieldLink cn_7 83 cn_7 "DigitOnes" "[B") a0 Z = true := own_w hw 237 rfl
theorem ww238 (hw : HW Z a0) : Cond.before (Cond.fieldLink cn_7 87 cn_7 "DigitTens" "[B") a0 Z = true := own_w hw 238 rfl
theorem d35_22 : decode qc35 22 = .ok (.iload_n 0, 1) := by decide +kernel
theorem d35_23 : decode qc35 23 = .ok (.bipush (-100), 2) := by decide +kernel
theorem d35_25 : decode qc35 25 = .ok (.if_icmp .gt 47, 3) := by decide +kernel
theorem d35_28 : decode qc35 28 = .ok (.iload_n 0, 1) := by decide +kernel
theorem d35_29 : decode qc35 29 = .ok (.bipush 100, 2) := by decide +kernel
theorem d35_31 : decode qc35 31 = .ok (.idiv, 1) := by decide +kernel
theorem d35_32 : decode qc35 32 = .ok (.istore_n 3, 1) := by decide +kernel
theorem d35_33 : decode qc35 33 = .ok (.iload_n 3, 1) := by decide +kernel
theorem d35_34 : decode qc35 34 = .ok (.bipush 100, 2) := by decide +kernel
theorem d35_36 : decode qc35 36 = .ok (.imul, 1) := by decide +kernel
theorem d35_37 : decode qc35 37 = .ok (.iload_n 0, 1) := by decide +kernel
theorem d35_38 : decode qc35 38 = .ok (.isub, 1) := by decide +kernel
theorem d35_39 : decode qc35 39 = .ok (.istore 4, 2) := by decide +kernel
theorem d35_41 : decode qc35 41 = .ok (.iload_n 3, 1) := by decide +kernel
theorem d35_42 : decode qc35 42 = .ok (.istore_n 0, 1) := by decide +kernel
theorem d35_43 : decode qc35 43 = .ok (.aload_n 2, 1) := by decide +kernel
theorem d35_44 : decode qc35 44 = .ok (.iinc 5 (-1), 3) := by decide +kernel
theorem d35_47 : decode qc35 47 = .ok (.iload 5, 2) := by decide +kernel
theorem d35_49 : decode qc35 49 = .ok (.getstatic 83, 3) := by decide +kernel
theorem d35_52 : decode qc35 52 = .ok (.iload 4, 2) := by decide +kernel
theorem d35_54 : decode qc35 54 = .ok (.baload, 1) := by decide +kernel
theorem d35_55 : decode qc35 55 = .ok (.bastore, 1) := by decide +kernel
theorem d35_56 : decode qc35 56 = .ok (.aload_n 2, 1) := by decide +kernel
theorem d35_57 : decode qc35 57 = .ok (.iinc 5 (-1), 3) := by decide +kernel
theorem d35_60 : decode qc35 60 = .ok (.iload 5, 2) := by decide +kernel
theorem d35_62 : decode qc35 62 = .ok (.getstatic 87, 3) := by decide +kernel
theorem d35_65 : decode qc35 65 = .ok (.iload 4, 2) := by decide +kernel
theorem d35_67 : decode qc35 67 = .ok (.baload, 1) := by decide +kernel
theorem d35_68 : decode qc35 68 = .ok (.bastore, 1) := by decide +kernel
theorem d35_69 : decode qc35 69 = .ok (.goto (-47), 3) := by decide +kernel
theorem own_gcT {p : Program} {l : Launch} {e : Env} {R : Room} {s : State} {m : MethodId} {args : Array Value} {below : List Frame} {meth : Method} {c : Code} (hx : p.tables.exec = Jvm.exec) {Z : State} {a0 : Array Value} (hw : HW Z a0) {w_0 : Addr} {w_1 : Addr} {w_2 : Int32} {w_3 : Value} (ST : own_St Z w_0 w_1 w_2 w_3) (hZ : Z.Warmed39 s.vm) (hown : s.vm.findClass cn_7 = some m.cls) (hby : c.code = jdk_33_method_12_code) {G : State → JFrame → Prop} (step : ∀ {T T' : State} {g g' : JFrame}, (∀ t, Steps p.tables e below (T'.setTop g') t → Steps p.tables e below (T.setTop g) t) → G T' g' → G T g)
    {h0 : Heap} {n0 : Nat} {o2 : Addr} {ka : ClassId} (geo : n0 ≤ o2) {x p1 c0 c1 c2 : Int32} {s3 s4 : Slot} (h3 : s3 = u_ ∨ ∃ w, s3 = .val w ∧ w.category = 1) (h4 : s4 = u_ ∨ ∃ w, s4 = .val w ∧ w.category = 1) {i1 i2 : Nat} {vs : List Value} (hc1 : c0 + (-1 : Int32) = c1) (hc2 : c1 + (-1 : Int32) = c2) (hj1 : ¬ c1 < 0 ∧ c1 < (16 : Int32)) (e1 : c1.toNatClampNeg = i1) (l1 : i1 < vs.length) (hj2 : ¬ c2 < 0 ∧ c2 < (16 : Int32)) (e2 : c2.toNatClampNeg = i2) (l2 : i2 < vs.length) (hxl : x.toInt ≤ -100)
    {T : State} {lc : List Loc} {cells slots : Nat} {h : Heap} {s0 : Array Slot} (hs0 : s0 = #[vI x, vI p1, vR o2, s3, s4, vI c0, vI 0]) (X : Stand p l e R s m args below meth c T lc cells slots) (e0 : T.heap = h) (N0 : Fr n0 lc) (O0 : Old Z n0 h) (K0 : Keep h0 h [o2]) (V0 : Arv Z h o2 ka .byte (16 : Int32) vs (.int 0))
    (KT : ∀ (T' : State) (lc' : List Loc) (s1 : Array Slot) (h' : Heap) (y r : Int32), Stand p l e R s m args below meth c T' lc' cells slots → T'.heap = h' → s1 = #[vI y, vI p1, vR o2, vI y, vI r, vI c2, vI 0] → Fr n0 lc' → Old Z n0 h' → Keep h0 h' [o2] → Arv Z h' o2 ka .byte (16 : Int32) ((vs.set i1 (.int ((48 : Int32) + (r % (10 : Int32))))).set i2 (.int ((48 : Int32) + (r / (10 : Int32))))) (.int 0) → y.toInt = -((-x.toInt) / 100) → r.toInt = (-x.toInt) % 100 → G T' (mkF m 22 s1 [])) :
    G T (mkF m 22 s0 []) := by
  have B := @hb _ _ hby
  refine step (fun t k_ => XS.iloadN X.here hx rfl (B d35_22) (by rw [hs0]; rfl) k_) ?_
  refine step (fun t k_ => XS.bipush X.here hx rfl (B d35_23) k_) ?_
  have ho := own_n (b := x) (by decide : (-100 : Int32).toInt = -100) hxl
  refine step (fun t k_ => XS.icmpNo X.here hx rfl (B d35_25) rfl (flt ho).2.2.1 k_) ?_
  refine step (fun t k_ => XS.iloadN X.here hx rfl (B d35_28) (by rw [hs0]; rfl) k_) ?_
  refine step (fun t k_ => XS.bipush X.here hx rfl (B d35_29) k_) ?_
  refine step (fun t k_ => XS.idiv X.here hx rfl (B d35_31) rfl (by decide) k_) ?_
  show G T (mkF m 32 s0 [(.int (x / (100 : Int32)))])
  obtain ⟨y, hy⟩ := own_ex (x / (100 : Int32))
  rw [← hy]
  have bq := own_bq hy (by omega)
  obtain ⟨lz1, hlz1⟩ := own_sl #[vI x, vI p1, vR o2, vI y, s4, vI c0, vI 0]
  refine step (fun t k_ => XS.istoreN X.here hx rfl (B d35_32) rfl (l' := lz1) (by rw [hs0, hlz1]; exact XS.store1 rfl h3 rfl) k_) ?_
  refine step (fun t k_ => XS.iloadN X.here hx rfl (B d35_33) (by rw [hlz1]; rfl) k_) ?_
  refine step (fun t k_ => XS.bipush X.here hx rfl (B d35_34) k_) ?_
  refine step (fun t k_ => XS.imul X.here hx rfl (B d35_36) rfl k_) ?_
  refine step (fun t k_ => XS.iloadN X.here hx rfl (B d35_37) (by rw [hlz1]; rfl) k_) ?_
  refine step (fun t k_ => XS.isub X.here hx rfl (B d35_38) rfl k_) ?_
  show G T (mkF m 39 lz1 [(.int ((y * (100 : Int32)) - x))])
  obtain ⟨r, hr⟩ := own_ex ((y * (100 : Int32)) - x)
  rw [← hr]
  have br := own_br bq (by omega) hr
  have hr0 : 0 ≤ r.toInt ∧ r.toInt < 100 := by omega
  obtain ⟨lz2, hlz2⟩ := own_sl #[vI x, vI p1, vR o2, vI y, vI r, vI c0, vI 0]
  refine step (fun t k_ => XS.istore X.here hx rfl (B d35_39) rfl (l' := lz2) (by rw [hlz1, hlz2]; exact XS.store1 rfl h4 rfl) k_) ?_
  refine step (fun t k_ => XS.iloadN X.here hx rfl (B d35_41) (by rw [hlz2]; rfl) k_) ?_
  obtain ⟨lz3, hlz3⟩ := own_sl #[vI y, vI p1, vR o2, vI y, vI r, vI c0, vI 0]
  refine step (fun t k_ => XS.istoreN X.here hx rfl (B d35_42) rfl (l' := lz3) (by rw [hlz2, hlz3]; rfl) k_) ?_
  refine step (fun t k_ => XS.aloadN X.here hx rfl (B d35_43) (by rw [hlz3]; rfl) rfl k_) ?_
  obtain ⟨lz4, hlz4⟩ := own_sl #[vI y, vI p1, vR o2, vI y, vI r, vI c1, vI 0]
  refine step (fun t k_ => XS.iinc X.here hx rfl (B d35_44) (by rw [hlz3]; rfl) (l' := lz4) (by rw [hlz3, hlz4, ← hc1]; rfl) k_) ?_
  refine step (fun t k_ => XS.iload X.here hx rfl (B d35_47) (by rw [hlz4]; rfl) k_) ?_
  obtain ⟨Ta0, Xa0, ea0, sa0⟩ := getS2 X hx hZ hown (host := "") (Or.inl (ww237 hw)) Via.refl e0 (Sta.ext O0.2 ST.k0) (g := (mkF m 49 lz4 [(.int c1), (.ref o2)])) rfl (B d35_49)
  refine step sa0 ?_
  refine step (fun t k_ => XS.iload Xa0.here hx rfl (B d35_52) (by rw [hlz4]; rfl) k_) ?_
  have sb0 := own_ldDig Xa0 hx hZ ea0 ST.k8 O0.2 (own_hj hr0) (g := (mkF m 54 lz4 [(.int r), (.ref w_0), (.int c1), (.ref o2)])) rfl rfl (B d35_54)
  refine step sb0 ?_
  obtain ⟨Tb0, hb0, Xb0, eb0, Wb0, Vb0, sc0⟩ := own_stB Xa0 hx hZ ea0 V0 (j := c1) hj1 (i := i1) e1 l1 (g := (mkF m 55 lz4 [(.int ((48 : Int32) + (r % (10 : Int32)))), (.int c1), (.ref o2)])) rfl rfl (B d35_55)
  rw [own_ndO hr0] at Vb0
  have Nb0 := Fr.snoc Xb0 N0 geo
  obtain ⟨lb0, Xb0, Nb0⟩ := own_gen Xb0 Nb0
  have Ob0 := O0.wr Wb0 geo
  have Kb0 := K0.wr Wb0 (Or.inl (List.mem_of_getElem? (i := 0) rfl))
  refine step sc0 ?_
  refine step (fun t k_ => XS.aloadN Xb0.here hx rfl (B d35_56) (by rw [hlz4]; rfl) rfl k_) ?_
  obtain ⟨lz5, hlz5⟩ := own_sl #[vI y, vI p1, vR o2, vI y, vI r, vI c2, vI 0]
  refine step (fun t k_ => XS.iinc Xb0.here hx rfl (B d35_57) (by rw [hlz4]; rfl) (l' := lz5) (by rw [hlz4, hlz5, ← hc2]; rfl) k_) ?_
  refine step (fun t k_ => XS.iload Xb0.here hx rfl (B d35_60) (by rw [hlz5]; rfl) k_) ?_
  obtain ⟨Ta1, Xa1, ea1, sa1⟩ := getS2 Xb0 hx hZ hown (host := "") (Or.inl (ww238 hw)) Via.refl eb0 (Sta.ext Ob0.2 ST.k2) (g := (mkF m 62 lz5 [(.int c2), (.ref o2)])) rfl (B d35_62)
  refine step sa1 ?_
  refine step (fun t k_ => XS.iload Xa1.here hx rfl (B d35_65) (by rw [hlz5]; rfl) k_) ?_
  have sb1 := own_ldDig Xa1 hx hZ ea1 ST.k9 Ob0.2 (own_hj hr0) (g := (mkF m 67 lz5 [(.int r), (.ref w_1), (.int c2), (.ref o2)])) rfl rfl (B d35_67)
  refine step sb1 ?_
  obtain ⟨Tb1, hb1, Xb1, eb1, Wb1, Vb1, sc1⟩ := own_stB Xa1 hx hZ ea1 Vb0 (j := c2) hj2 (i := i2) e2 (by rw [List.length_set]; exact l2) (g := (mkF m 68 lz5 [(.int ((48 : Int32) + (r / (10 : Int32)))), (.int c2), (.ref o2)])) rfl rfl (B d35_68)
  rw [own_ndT hr0] at Vb1
  have Nb1 := Fr.snoc Xb1 Nb0 geo
  obtain ⟨lb1, Xb1, Nb1⟩ := own_gen Xb1 Nb1
  have Ob1 := Ob0.wr Wb1 geo
  have Kb1 := Kb0.wr Wb1 (Or.inl (List.mem_of_getElem? (i := 0) rfl))
  refine step sc1 ?_
  refine step (fun t k_ => XS.goto Xb1.here hx rfl (pc0 := 69) (pc' := 22) rfl (B d35_69) (by decide) (by decide) k_) ?_
  exact KT _ _ _ _ y r Xb1 eb1 hlz5 Nb1 Ob1 Kb1 Vb1 bq br
theorem d35_72 : decode qc35 72 = .ok (.aload_n 2, 1) := by decide +kernel
theorem d35_73 : decode qc35 73 = .ok (.iinc 5 (-1), 3) := by decide +kernel
theorem d35_76 : decode qc35 76 = .ok (.iload 5, 2) := by decide +kernel
theorem d35_78 : decode qc35 78 = .ok (.getstatic 83, 3) := by decide +kernel
theorem d35_81 : decode qc35 81 = .ok (.iload_n 0, 1) := by decide +kernel
theorem d35_82 : decode qc35 82 = .ok (.ineg, 1) := by decide +kernel
theorem d35_83 : decode qc35 83 = .ok (.baload, 1) := by decide +kernel
theorem d35_84 : decode qc35 84 = .ok (.bastore, 1) := by decide +kernel
theorem d35_85 : decode qc35 85 = .ok (.iload_n 0, 1) := by decide +kernel
theorem d35_86 : decode qc35 86 = .ok (.bipush (-9), 2) := by decide +kernel
theorem d35_88 : decode qc35 88 = .ok (.if_icmp .ge 16, 3) := by decide +kernel
theorem d35_104 : decode qc35 104 = .ok (.iload 6, 2) := by decide +kernel
theorem d35_106 : decode qc35 106 = .ok (.ifCond .eq 12, 3) := by decide +kernel
theorem d35_118 : decode qc35 118 = .ok (.iload 5, 2) := by decide +kernel
theorem own_gcE1 {p : Program} {l : Launch} {e : Env} {R : Room} {s : State} {m : MethodId} {args : Array Value} {below : List Frame} {meth : Method} {c : Code} (hx : p.tables.exec = Jvm.exec) {Z : State} {a0 : Array Value} (hw : HW Z a0) {w_0 : Addr} {w_1 : Addr} {w_2 : Int32} {w_3 : Value} (ST : own_St Z w_0 w_1 w_2 w_3) (hZ : Z.Warmed39 s.vm) (hown : s.vm.findClass cn_7 = some m.cls) (hby : c.code = jdk_33_method_12_code) {G : State → JFrame → Prop} (step : ∀ {T T' : State} {g g' : JFrame}, (∀ t, Steps p.tables e below (T'.setTop g') t → Steps p.tables e below (T.setTop g) t) → G T' g' → G T g)
    {h0 : Heap} {n0 : Nat} {o2 : Addr} {ka : ClassId} (geo : n0 ≤ o2) {x p1 c0 c1 : Int32} {s3 s4 : Slot} {i1 : Nat} {vs : List Value} (hc1 : c0 + (-1 : Int32) = c1) (hj1 : ¬ c1 < 0 ∧ c1 < (16 : Int32)) (e1 : c1.toNatClampNeg = i1) (l1 : i1 < vs.length) (hx0 : x.toInt ≤ 0) (hxl : -100 < x.toInt ∧ -9 ≤ x.toInt)
    {T : State} {lc : List Loc} {cells slots : Nat} {h : Heap} {s0 : Array Slot} (hs0 : s0 = #[vI x, vI p1, vR o2, s3, s4, vI c0, vI 0]) (X : Stand p l e R s m args below meth c T lc cells slots) (e0 : T.heap = h) (N0 : Fr n0 lc) (O0 : Old Z n0 h) (K0 : Keep h0 h [o2]) (V0 : Arv Z h o2 ka .byte (16 : Int32) vs (.int 0))
    (KT : ∀ (T' : State) (lc' : List Loc) (s1 : Array Slot) (h' : Heap) (r : Int32), Stand p l e R s m args below meth c T' lc' cells slots → T'.heap = h' → Fr n0 lc' → Old Z n0 h' → Keep h0 h' [o2] → Arv Z h' o2 ka .byte (16 : Int32) (vs.set i1 (.int ((48 : Int32) + (r % (10 : Int32))))) (.int 0) → r.toInt = -x.toInt → G T' (mkF m 120 s1 [(.int c1)])) :
    G T (mkF m 22 s0 []) := by
  have B := @hb _ _ hby
  refine step (fun t k_ => XS.iloadN X.here hx rfl (B d35_22) (by rw [hs0]; rfl) k_) ?_
  refine step (fun t k_ => XS.bipush X.here hx rfl (B d35_23) k_) ?_
  have ho := own_y (b := x) (by decide : (-100 : Int32).toInt = -100) hxl.1
  refine step (fun t k_ => XS.icmpYes X.here hx rfl (pc0 := 25) (pc' := 72) rfl (B d35_25) rfl (tlt ho).2.2.1 (by decide) (by decide) k_) ?_
  obtain ⟨r, hr⟩ := own_ex (-x)
  have br : r.toInt = -x.toInt := by rw [hr]; exact own_ng (by omega)
  have hr0 : 0 ≤ r.toInt ∧ r.toInt < 100 := by omega
  refine step (fun t k_ => XS.aloadN X.here hx rfl (B d35_72) (by rw [hs0]; rfl) rfl k_) ?_
  obtain ⟨lz0, hlz0⟩ := own_sl #[vI x, vI p1, vR o2, s3, s4, vI c1, vI 0]
  refine step (fun t k_ => XS.iinc X.here hx rfl (B d35_73) (by rw [hs0]; rfl) (l' := lz0) (by rw [hs0, hlz0, ← hc1]; rfl) k_) ?_
  refine step (fun t k_ => XS.iload X.here hx rfl (B d35_76) (by rw [hlz0]; rfl) k_) ?_
  obtain ⟨Ta0, Xa0, ea0, sa0⟩ := getS2 X hx hZ hown (host := "") (Or.inl (ww237 hw)) Via.refl e0 (Sta.ext O0.2 ST.k0) (g := (mkF m 78 lz0 [(.int c1), (.ref o2)])) rfl (B d35_78)
  refine step sa0 ?_
  refine step (fun t k_ => XS.iloadN Xa0.here hx rfl (B d35_81) (by rw [hlz0]; rfl) k_) ?_
  refine step (fun t k_ => XS.ineg Xa0.here hx rfl (B d35_82) rfl k_) ?_
  show G Ta0 (mkF m 83 lz0 [(.int (-x)), (.ref w_0), (.int c1), (.ref o2)])
  rw [← hr]
  have sb0 := own_ldDig Xa0 hx hZ ea0 ST.k8 O0.2 (own_hj hr0) (g := (mkF m 83 lz0 [(.int r), (.ref w_0), (.int c1), (.ref o2)])) rfl rfl (B d35_83)
  refine step sb0 ?_
  obtain ⟨Tb0, hb0, Xb0, eb0, Wb0, Vb0, sc0⟩ := own_stB Xa0 hx hZ ea0 V0 (j := c1) hj1 (i := i1) e1 l1 (g := (mkF m 84 lz0 [(.int ((48 : Int32) + (r % (10 : Int32)))), (.int c1), (.ref o2)])) rfl rfl (B d35_84)
  rw [own_ndO hr0] at Vb0
  have Nb0 := Fr.snoc Xb0 N0 geo
  obtain ⟨lb0, Xb0, Nb0⟩ := own_gen Xb0 Nb0
  have Ob0 := O0.wr Wb0 geo
  have Kb0 := K0.wr Wb0 (Or.inl (List.mem_of_getElem? (i := 0) rfl))
  refine step sc0 ?_
  refine step (fun t k_ => XS.iloadN Xb0.here hx rfl (B d35_85) (by rw [hlz0]; rfl) k_) ?_
  refine step (fun t k_ => XS.bipush Xb0.here hx rfl (B d35_86) k_) ?_
  have hn := own_nr (b := x) (by decide : (-9 : Int32).toInt = -9) hxl.2
  refine step (fun t k_ => XS.icmpYes Xb0.here hx rfl (pc0 := 88) (pc' := 104) rfl (B d35_88) rfl (flt hn).2.1 (by decide) (by decide) k_) ?_
  refine step (fun t k_ => XS.iload Xb0.here hx rfl (B d35_104) (by rw [hlz0]; rfl) k_) ?_
  refine step (fun t k_ => XS.ifYes Xb0.here hx rfl (pc0 := 106) (pc' := 118) rfl (B d35_106) rfl ((if0 _ _).trans (teq (by decide : (0 : Int32) = (0 : Int32))).1) (by decide) (by decide) k_) ?_
  refine step (fun t k_ => XS.iload Xb0.here hx rfl (B d35_118) (by rw [hlz0]; rfl) k_) ?_
  exact KT _ _ lz0 _ r Xb0 eb0 Nb0 Ob0 Kb0 Vb0 br
theorem d35_91 : decode qc35 91 = .ok (.aload_n 2, 1) := by decide +kernel
theorem d35_92 : decode qc35 92 = .ok (.iinc 5 (-1), 3) := by decide +kernel
theorem d35_95 : decode qc35 95 = .ok (.iload 5, 2) := by decide +kernel
theorem d35_97 : decode qc35 97 = .ok (.getstatic 87, 3) := by decide +kernel
theorem d35_100 : decode qc35 100 = .ok (.iload_n 0, 1) := by decide +kernel
theorem d35_101 : decode qc35 101 = .ok (.ineg, 1) := by decide +kernel
theorem d35_102 : decode qc35 102 = .ok (.baload, 1) := by decide +kernel
theorem d35_103 : decode qc35 103 = .ok (.bastore, 1) := by decide +kernel
theorem own_gcE2 {p : Program} {l : Launch} {e : Env} {R : Room} {s : State} {m : MethodId} {args : Array Value} {below : List Frame} {meth : Method} {c : Code} (hx : p.tables.exec = Jvm.exec) {Z : State} {a0 : Array Value} (hw : HW Z a0) {w_0 : Addr} {w_1 : Addr} {w_2 : Int32} {w_3 : Value} (ST : own_St Z w_0 w_1 w_2 w_3) (hZ : Z.Warmed39 s.vm) (hown : s.vm.findClass cn_7 = some m.cls) (hby : c.code = jdk_33_method_12_code) {G : State → JFrame → Prop} (step : ∀ {T T' : State} {g g' : JFrame}, (∀ t, Steps p.tables e below (T'.setTop g') t → Steps p.tables e below (T.setTop g) t) → G T' g' → G T g)
    {h0 : Heap} {n0 : Nat} {o2 : Addr} {ka : ClassId} (geo : n0 ≤ o2) {x p1 c0 c1 c2 : Int32} {s3 s4 : Slot} {i1 i2 : Nat} {vs : List Value} (hc1 : c0 + (-1 : Int32) = c1) (hj1 : ¬ c1 < 0 ∧ c1 < (16 : Int32)) (e1 : c1.toNatClampNeg = i1) (l1 : i1 < vs.length) (hc2 : c1 + (-1 : Int32) = c2) (hj2 : ¬ c2 < 0 ∧ c2 < (16 : Int32)) (e2 : c2.toNatClampNeg = i2) (l2 : i2 < vs.length) (hx0 : x.toInt ≤ 0) (hxl : -100 < x.toInt ∧ x.toInt < -9)
    {T : State} {lc : List Loc} {cells slots : Nat} {h : Heap} {s0 : Array Slot} (hs0 : s0 = #[vI x, vI p1, vR o2, s3, s4, vI c0, vI 0]) (X : Stand p l e R s m args below meth c T lc cells slots) (e0 : T.heap = h) (N0 : Fr n0 lc) (O0 : Old Z n0 h) (K0 : Keep h0 h [o2]) (V0 : Arv Z h o2 ka .byte (16 : Int32) vs (.int 0))
    (KT : ∀ (T' : State) (lc' : List Loc) (s1 : Array Slot) (h' : Heap) (r : Int32), Stand p l e R s m args below meth c T' lc' cells slots → T'.heap = h' → Fr n0 lc' → Old Z n0 h' → Keep h0 h' [o2] → Arv Z h' o2 ka .byte (16 : Int32) ((vs.set i1 (.int ((48 : Int32) + (r % (10 : Int32))))).set i2 (.int ((48 : Int32) + (r / (10 : Int32))))) (.int 0) → r.toInt = -x.toInt → G T' (mkF m 120 s1 [(.int c2)])) :
    G T (mkF m 22 s0 []) := by
  have B := @hb _ _ hby
  refine step (fun t k_ => XS.iloadN X.here hx rfl (B d35_22) (by rw [hs0]; rfl) k_) ?_
  refine step (fun t k_ => XS.bipush X.here hx rfl (B d35_23) k_) ?_
  have ho := own_y (b := x) (by decide : (-100 : Int32).toInt = -100) hxl.1
  refine step (fun t k_ => XS.icmpYes X.here hx rfl (pc0 := 25) (pc' := 72) rfl (B d35_25) rfl (tlt ho).2.2.1 (by decide) (by decide) k_) ?_
  obtain ⟨r, hr⟩ := own_ex (-x)
  have br : r.toInt = -x.toInt := by rw [hr]; exact own_ng (by omega)
  have hr0 : 0 ≤ r.toInt ∧ r.toInt < 100 := by omega
  refine step (fun t k_ => XS.aloadN X.here hx rfl (B d35_72) (by rw [hs0]; rfl) rfl k_) ?_
  obtain ⟨lz0, hlz0⟩ := own_sl #[vI x, vI p1, vR o2, s3, s4, vI c1, vI 0]
  refine step (fun t k_ => XS.iinc X.here hx rfl (B d35_73) (by rw [hs0]; rfl) (l' := lz0) (by rw [hs0, hlz0, ← hc1]; rfl) k_) ?_
  refine step (fun t k_ => XS.iload X.here hx rfl (B d35_76) (by rw [hlz0]; rfl) k_) ?_
  obtain ⟨Ta0, Xa0, ea0, sa0⟩ := getS2 X hx hZ hown (host := "") (Or.inl (ww237 hw)) Via.refl e0 (Sta.ext O0.2 ST.k0) (g := (mkF m 78 lz0 [(.int c1), (.ref o2)])) rfl (B d35_78)
  refine step sa0 ?_
  refine step (fun t k_ => XS.iloadN Xa0.here hx rfl (B d35_81) (by rw [hlz0]; rfl) k_) ?_
  refine step (fun t k_ => XS.ineg Xa0.here hx rfl (B d35_82) rfl k_) ?_
  show G Ta0 (mkF m 83 lz0 [(.int (-x)), (.ref w_0), (.int c1), (.ref o2)])
  rw [← hr]
  have sb0 := own_ldDig Xa0 hx hZ ea0 ST.k8 O0.2 (own_hj hr0) (g := (mkF m 83 lz0 [(.int r), (.ref w_0), (.int c1), (.ref o2)])) rfl rfl (B d35_83)
  refine step sb0 ?_
  obtain ⟨Tb0, hb0, Xb0, eb0, Wb0, Vb0, sc0⟩ := own_stB Xa0 hx hZ ea0 V0 (j := c1) hj1 (i := i1) e1 l1 (g := (mkF m 84 lz0 [(.int ((48 : Int32) + (r % (10 : Int32)))), (.int c1), (.ref o2)])) rfl rfl (B d35_84)
  rw [own_ndO hr0] at Vb0
  have Nb0 := Fr.snoc Xb0 N0 geo
  obtain ⟨lb0, Xb0, Nb0⟩ := own_gen Xb0 Nb0
  have Ob0 := O0.wr Wb0 geo
  have Kb0 := K0.wr Wb0 (Or.inl (List.mem_of_getElem? (i := 0) rfl))
  refine step sc0 ?_
  refine step (fun t k_ => XS.iloadN Xb0.here hx rfl (B d35_85) (by rw [hlz0]; rfl) k_) ?_
  refine step (fun t k_ => XS.bipush Xb0.here hx rfl (B d35_86) k_) ?_
  have hn := own_yr (b := x) (by decide : (-9 : Int32).toInt = -9) hxl.2
  refine step (fun t k_ => XS.icmpNo Xb0.here hx rfl (B d35_88) rfl (tlt hn).2.1 k_) ?_
  refine step (fun t k_ => XS.aloadN Xb0.here hx rfl (B d35_91) (by rw [hlz0]; rfl) rfl k_) ?_
  obtain ⟨lz1, hlz1⟩ := own_sl #[vI x, vI p1, vR o2, s3, s4, vI c2, vI 0]
  refine step (fun t k_ => XS.iinc Xb0.here hx rfl (B d35_92) (by rw [hlz0]; rfl) (l' := lz1) (by rw [hlz0, hlz1, ← hc2]; rfl) k_) ?_
  refine step (fun t k_ => XS.iload Xb0.here hx rfl (B d35_95) (by rw [hlz1]; rfl) k_) ?_
  obtain ⟨Ta1, Xa1, ea1, sa1⟩ := getS2 Xb0 hx hZ hown (host := "") (Or.inl (ww238 hw)) Via.refl eb0 (Sta.ext Ob0.2 ST.k2) (g := (mkF m 97 lz1 [(.int c2), (.ref o2)])) rfl (B d35_97)
  refine step sa1 ?_
  refine step (fun t k_ => XS.iloadN Xa1.here hx rfl (B d35_100) (by rw [hlz1]; rfl) k_) ?_
  refine step (fun t k_ => XS.ineg Xa1.here hx rfl (B d35_101) rfl k_) ?_
  show G Ta1 (mkF m 102 lz1 [(.int (-x)), (.ref w_1), (.int c2), (.ref o2)])
  rw [← hr]
  have sb1 := own_ldDig Xa1 hx hZ ea1 ST.k9 Ob0.2 (own_hj hr0) (g := (mkF m 102 lz1 [(.int r), (.ref w_1), (.int c2), (.ref o2)])) rfl rfl (B d35_102)
  refine step sb1 ?_
  obtain ⟨Tb1, hb1, Xb1, eb1, Wb1, Vb1, sc1⟩ := own_stB Xa1 hx hZ ea1 Vb0 (j := c2) hj2 (i := i2) e2 (by rw [List.length_set]; exact l2) (g := (mkF m 103 lz1 [(.int ((48 : Int32) + (r / (10 : Int32)))), (.int c2), (.ref o2)])) rfl rfl (B d35_103)
  rw [own_ndT hr0] at Vb1
  have Nb1 := Fr.snoc Xb1 Nb0 geo
  obtain ⟨lb1, Xb1, Nb1⟩ := own_gen Xb1 Nb1
  have Ob1 := Ob0.wr Wb1 geo
  have Kb1 := Kb0.wr Wb1 (Or.inl (List.mem_of_getElem? (i := 0) rfl))
  refine step sc1 ?_
  refine step (fun t k_ => XS.iload Xb1.here hx rfl (B d35_104) (by rw [hlz1]; rfl) k_) ?_
  refine step (fun t k_ => XS.ifYes Xb1.here hx rfl (pc0 := 106) (pc' := 118) rfl (B d35_106) rfl ((if0 _ _).trans (teq (by decide : (0 : Int32) = (0 : Int32))).1) (by decide) (by decide) k_) ?_
  refine step (fun t k_ => XS.iload Xb1.here hx rfl (B d35_118) (by rw [hlz1]; rfl) k_) ?_
  exact KT _ _ lz1 _ r Xb1 eb1 Nb1 Ob1 Kb1 Vb1 br
theorem d35_0 : decode qc35 0 = .ok (.iload_n 1, 1) := by decide +kernel
theorem d35_1 : decode qc35 1 = .ok (.istore 5, 2) := by decide +kernel
theorem d35_3 : decode qc35 3 = .ok (.iload_n 0, 1) := by decide +kernel
theorem d35_4 : decode qc35 4 = .ok (.ifCond .ge 7, 3) := by decide +kernel
theorem d35_11 : decode qc35 11 = .ok (.iconst 0, 1) := by decide +kernel
theorem d35_12 : decode qc35 12 = .ok (.istore 6, 2) := by decide +kernel
theorem d35_14 : decode qc35 14 = .ok (.iload 6, 2) := by decide +kernel
theorem d35_16 : decode qc35 16 = .ok (.ifCond .ne 6, 3) := by decide +kernel
theorem d35_19 : decode qc35 19 = .ok (.iload_n 0, 1) := by decide +kernel
theorem d35_20 : decode qc35 20 = .ok (.ineg, 1) := by decide +kernel
theorem d35_21 : decode qc35 21 = .ok (.istore_n 0, 1) := by decide +kernel
theorem own_gcS {p : Program} {l : Launch} {e : Env} {R : Room} {s : State} {m : MethodId} {args : Array Value} {below : List Frame} {meth : Method} {c : Code} (hx : p.tables.exec = Jvm.exec) (hby : c.code = jdk_33_method_12_code) {G : State → JFrame → Prop} (step : ∀ {T T' : State} {g g' : JFrame}, (∀ t, Steps p.tables e below (T'.setTop g') t → Steps p.tables e below (T.setTop g) t) → G T' g' → G T g) {o2 : Addr} {p0 p1 : Int32} (hp : (0 : Int32) < p0) {T : State} {lc : List Loc} {cells slots : Nat} {s0 : Array Slot} (hs0 : s0 = #[vI p0, vI p1, vR o2, u_, u_, u_, u_]) (X : Stand p l e R s m args below meth c T lc cells slots)
    (KT : ∀ (s1 : Array Slot) (x0 : Int32), s1 = #[vI x0, vI p1, vR o2, u_, u_, vI p1, vI 0] → x0.toInt = -(p0.toInt / 1) → G T (mkF m 22 s1 [])) :
    G T (mkF m 0 s0 []) := by
  have B := @hb _ _ hby
  refine step (fun t k_ => XS.iloadN X.here hx rfl (B d35_0) (by rw [hs0]; rfl) k_) ?_
  obtain ⟨lz1, hlz1⟩ := own_sl #[vI p0, vI p1, vR o2, u_, u_, vI p1, u_]
  refine step (fun t k_ => XS.istore X.here hx rfl (B d35_1) rfl (l' := lz1) (by rw [hs0, hlz1]; rfl) k_) ?_
  refine step (fun t k_ => XS.iloadN X.here hx rfl (B d35_3) (by rw [hlz1]; rfl) k_) ?_
  refine step (fun t k_ => XS.ifYes X.here hx rfl (pc0 := 4) (pc' := 11) rfl (B d35_4) rfl ((if0 _ _).trans (flt (own_posn hp)).2.1) (by decide) (by decide) k_) ?_
  refine step (fun t k_ => XS.iconst X.here hx rfl (B d35_11) k_) ?_
  obtain ⟨lz2, hlz2⟩ := own_sl #[vI p0, vI p1, vR o2, u_, u_, vI p1, vI 0]
  refine step (fun t k_ => XS.istore X.here hx rfl (B d35_12) rfl (l' := lz2) (by rw [hlz1, hlz2]; rfl) k_) ?_
  refine step (fun t k_ => XS.iload X.here hx rfl (B d35_14) (by rw [hlz2]; rfl) k_) ?_
  refine step (fun t k_ => XS.ifNo X.here hx rfl (B d35_16) rfl ((if0 _ _).trans (teq (by decide : (0 : Int32) = (0 : Int32))).2) k_) ?_
  refine step (fun t k_ => XS.iloadN X.here hx rfl (B d35_19) (by rw [hlz2]; rfl) k_) ?_
  refine step (fun t k_ => XS.ineg X.here hx rfl (B d35_20) rfl k_) ?_
  show G T (mkF m 21 lz2 [(.int (-p0))])
  obtain ⟨x0, hx0⟩ := own_ex (-p0)
  rw [← hx0]
  have ex0 : x0.toInt = -(p0.toInt / 1) := by
    rw [hx0]
    have c1 := c_ineg p0
    have r0 := rng32 p0
    have r1 := rng32 (-p0)
    have k0 := own_pos hp
    omega
  obtain ⟨lz3, hlz3⟩ := own_sl #[vI x0, vI p1, vR o2, u_, u_, vI p1, vI 0]
  refine step (fun t k_ => XS.istoreN X.here hx rfl (B d35_21) rfl (l' := lz3) (by rw [hlz2, hlz3]; rfl) k_) ?_
  exact KT lz3 x0 hlz3 ex0
theorem d35_120 : decode qc35 120 = .ok (.ireturn, 1) := by decide +kernel
abbrev rr_gc1 : Room := { frames := 0, cells := 0, slots := 0, locals := 0 }
abbrev y_35 : MethodName := ⟨cn_7, "getChars", "(II[B)I"⟩
theorem ef_gc1 (m : MethodId) (p0 : Int32) (o2 : Addr) : entryFrame m #[(.int p0), (.int 7), (.ref o2)] 7 = mkF m 0 #[vI p0, vI 7, vR o2, u_, u_, u_, u_] [] := by first | (simp [entryFrame, mkF, argsToLocals, Value.category]; done) | rfl
def Q_gc1 (Z : State) (w_0 w_1 : Addr) (w_2 : Int32) (w_3 : Value) (p0 : Int32) (o2 : Addr) (ka : ClassId) (h0 : Heap) (n0 : Nat) (v : Option Value) (h : Heap) (L : List Loc) : Prop := ∃ d0 : Int32, v = some (.int 6) ∧ Fr n0 L ∧ Keep h0 h [o2] ∧ Arv Z h o2 ka .byte (16 : Int32) [(.int 32), (.int 108), (.int 105), (.int 110), (.int 101), (.int 32), (.int d0), (.int 0), (.int 0), (.int 0), (.int 0), (.int 0), (.int 0), (.int 0), (.int 0), (.int 0)] (.int 0) ∧ d0 = own_d p0 (1 : Int32)
theorem rm_gc1 (l : Launch) (Z : State) (a0 : Array Value) (hw : HW Z a0) (ws : List Jvm.Cond) (w_0 w_1 : Addr) (w_2 : Int32) (w_3 : Value) (p0 : Int32) (o2 : Addr) (ka : ClassId) (h0 : Heap) (n0 : Nat) (Z0 : n0 ≤ h0.size) (ST : own_St Z w_0 w_1 w_2 w_3) (O0 : Old Z n0 h0) (hp : (0 : Int32) < p0) (hlo : 1 ≤ p0.toInt ∧ p0.toInt < 10) (Va : Arv Z h0 o2 ka .byte (16 : Int32) [(.int 32), (.int 108), (.int 105), (.int 110), (.int 101), (.int 32), (.int 0), (.int 0), (.int 0), (.int 0), (.int 0), (.int 0), (.int 0), (.int 0), (.int 0), (.int 0)] (.int 0)) (geo : n0 ≤ o2) :
    own_Met l y_35 jdk_33_method_12_code 7 (some .int) ws rr_gc1 Z #[(.int p0), (.int 7), (.ref o2)] h0 (Q_gc1 Z w_0 w_1 w_2 w_3 p0 o2 ka h0 n0) := by
  refine MetFree.of_bodySF (plainFor_of_name pn_7) hisR ?_
  intro p e s m args below meth c s₁ Bd hml0 hP hK
  obtain ⟨rfl, hZ, hh⟩ := hP
  have hx := Bd.exec
  have hby := Bd.bytes
  have B := @hb _ _ hby
  have hml : c.maxLocals = 7 := hml0
  have hown : s.vm.findClass cn_7 = some m.cls := findClass_of_methodNamed Bd.named
  have X0 : Stand p l e rr_gc1 s m #[(.int p0), (.int 7), (.ref o2)] below meth c s₁ [] 0 0 := Stand.of_body Bd
  have e0 : s₁.heap = h0 := by rw [← hh, Bd.state]; rfl
  have N0 := Fr.nil n0
  have K0 : Keep h0 h0 [o2] := Keep.refl _ _
  obtain ⟨G, step, ret, fin⟩ := own_openX X0 (rr_gc1.cells) (rr_gc1.slots) (Q_gc1 Z w_0 w_1 w_2 w_3 p0 o2 ka h0 n0) Bd.notSynchronized
  refine fin (g := entryFrame m #[(.int p0), (.int 7), (.ref o2)] 7) ?_
  rw [ef_gc1 m p0 o2]
  obtain ⟨ls0, hls0⟩ := own_sl #[vI p0, vI 7, vR o2, u_, u_, u_, u_]
  suffices hG0 : G s₁ (mkF m 0 ls0 []) by rw [hls0] at hG0; exact hG0
  refine own_gcS hx hby step hp (p1 := (7 : Int32)) hls0 X0 ?_
  intro lsa x0 hlsa ex0
  refine own_gcE1 hx hw ST hZ hown hby step geo (x := x0) (p1 := (7 : Int32)) (c0 := (7 : Int32)) (c1 := (6 : Int32)) (i1 := 6) (by decide) (by decide) rfl (by show 6 < 16; decide) (by omega) (by omega) hlsa X0 e0 N0 O0 K0 Va ?_
  intro T1 lc1 ls1 h1 r1 X1 e1 N1 O1 K1 V1 hr1
  replace V1 : Arv Z h1 o2 ka .byte (16 : Int32) [(.int 32), (.int 108), (.int 105), (.int 110), (.int 101), (.int 32), (.int ((48 : Int32) + (r1 % (10 : Int32)))), (.int 0), (.int 0), (.int 0), (.int 0), (.int 0), (.int 0), (.int 0), (.int 0), (.int 0)] (.int 0) := V1
  have br1 : r1.toInt = (p0.toInt / 1) % 100 := by rw [hr1, ex0, Int.neg_neg]; omega
  exact ret (v := some (.int 6)) X1 (fun h => by rw [Bd.returns] at h; cases h) (fun fs hr => retI X1 hx Bd.returns (B d35_120) hr) e1 ⟨((48 : Int32) + (r1 % (10 : Int32))), rfl, N1, K1, V1, (own_dO (own_pos hp) (P := (1 : Int32)) (m := 1) (by decide) (by decide) (by decide) br1)⟩ (by decide) (by decide)
abbrev rr_gc2 : Room := { frames := 0, cells := 0, slots := 0, locals := 0 }
theorem ef_gc2 (m : MethodId) (p0 : Int32) (o2 : Addr) : entryFrame m #[(.int p0), (.int 8), (.ref o2)] 7 = mkF m 0 #[vI p0, vI 8, vR o2, u_, u_, u_, u_] [] := by first | (simp [entryFrame, mkF, argsToLocals, Value.category]; done) | rfl
def Q_gc2 (Z : State) (w_0 w_1 : Addr) (w_2 : Int32) (w_3 : Value) (p0 : Int32) (o2 : Addr) (ka : ClassId) (h0 : Heap) (n0 : Nat) (v : Option Value) (h : Heap) (L : List Loc) : Prop := ∃ d0 : Int32, ∃ d1 : Int32, v = some (.int 6) ∧ Fr n0 L ∧ Keep h0 h [o2] ∧ Arv Z h o2 ka .byte (16 : Int32) [(.int 32), (.int 108), (.int 105), (.int 110), (.int 101), (.int 32), (.int d0), (.int d1), (.int 0), (.int 0), (.int 0), (.int 0), (.int 0), (.int 0), (.int 0), (.int 0)] (.int 0) ∧ d0 = own_d p0 (10 : Int32) ∧ d1 = own_d p0 (1 : Int32)
theorem rm_gc2 (l : Launch) (Z : State) (a0 : Array Value) (hw : HW Z a0) (ws : List Jvm.Cond) (w_0 w_1 : Addr) (w_2 : Int32) (w_3 : Value) (p0 : Int32) (o2 : Addr) (ka : ClassId) (h0 : Heap) (n0 : Nat) (Z0 : n0 ≤ h0.size) (ST : own_St Z w_0 w_1 w_2 w_3) (O0 : Old Z n0 h0) (hp : (0 : Int32) < p0) (hlo : 10 ≤ p0.toInt ∧ p0.toInt < 100) (Va : Arv Z h0 o2 ka .byte (16 : Int32) [(.int 32), (.int 108), (.int 105), (.int 110), (.int 101), (.int 32), (.int 0), (.int 0), (.int 0), (.int 0), (.int 0), (.int 0), (.int 0), (.int 0), (.int 0), (.int 0)] (.int 0)) (geo : n0 ≤ o2) :
    own_Met l y_35 jdk_33_method_12_code 7 (some .int) ws rr_gc2 Z #[(.int p0), (.int 8), (.ref o2)] h0 (Q_gc2 Z w_0 w_1 w_2 w_3 p0 o2 ka h0 n0) := by
  refine MetFree.of_bodySF (plainFor_of_name pn_7) hisR ?_
  intro p e s m args below meth c s₁ Bd hml0 hP hK
  obtain ⟨rfl, hZ, hh⟩ := hP
  have hx := Bd.exec
  have hby := Bd.bytes
  have B := @hb _ _ hby
  have hml : c.maxLocals = 7 := hml0
  have hown : s.vm.findClass cn_7 = some m.cls := findClass_of_methodNamed Bd.named
  have X0 : Stand p l e rr_gc2 s m #[(.int p0), (.int 8), (.ref o2)] below meth c s₁ [] 0 0 := Stand.of_body Bd
  have e0 : s₁.heap = h0 := by rw [← hh, Bd.state]; rfl
  have N0 := Fr.nil n0
  have K0 : Keep h0 h0 [o2] := Keep.refl _ _
  obtain ⟨G, step, ret, fin⟩ := own_openX X0 (rr_gc2.cells) (rr_gc2.slots) (Q_gc2 Z w_0 w_1 w_2 w_3 p0 o2 ka h0 n0) Bd.notSynchronized
  refine fin (g := entryFrame m #[(.int p0), (.int 8), (.ref o2)] 7) ?_
  rw [ef_gc2 m p0 o2]
  obtain ⟨ls0, hls0⟩ := own_sl #[vI p0, vI 8, vR o2, u_, u_, u_, u_]
  suffices hG0 : G s₁ (mkF m 0 ls0 []) by rw [hls0] at hG0; exact hG0
  refine own_gcS hx hby step hp (p1 := (8 : Int32)) hls0 X0 ?_
  intro lsa x0 hlsa ex0
  refine own_gcE2 hx hw ST hZ hown hby step geo (x := x0) (p1 := (8 : Int32)) (c0 := (8 : Int32)) (c1 := (7 : Int32)) (c2 := (6 : Int32)) (i1 := 7) (i2 := 6) (by decide) (by decide) rfl (by show 7 < 16; decide) (by decide) (by decide) rfl (by show 6 < 16; decide) (by omega) (by omega) hlsa X0 e0 N0 O0 K0 Va ?_
  intro T1 lc1 ls1 h1 r1 X1 e1 N1 O1 K1 V1 hr1
  replace V1 : Arv Z h1 o2 ka .byte (16 : Int32) [(.int 32), (.int 108), (.int 105), (.int 110), (.int 101), (.int 32), (.int ((48 : Int32) + (r1 / (10 : Int32)))), (.int ((48 : Int32) + (r1 % (10 : Int32)))), (.int 0), (.int 0), (.int 0), (.int 0), (.int 0), (.int 0), (.int 0), (.int 0)] (.int 0) := V1
  have br1 : r1.toInt = (p0.toInt / 1) % 100 := by rw [hr1, ex0, Int.neg_neg]; omega
  exact ret (v := some (.int 6)) X1 (fun h => by rw [Bd.returns] at h; cases h) (fun fs hr => retI X1 hx Bd.returns (B d35_120) hr) e1 ⟨((48 : Int32) + (r1 / (10 : Int32))), ((48 : Int32) + (r1 % (10 : Int32))), rfl, N1, K1, V1, ⟨(own_dT (own_pos hp) (P := (10 : Int32)) (m := 1) (by decide) (by decide) (by decide) br1), (own_dO (own_pos hp) (P := (1 : Int32)) (m := 1) (by decide) (by decide) (by decide) br1)⟩⟩ (by decide) (by decide)
abbrev rr_gc3 : Room := { frames := 0, cells := 0, slots := 0, locals := 0 }
theorem ef_gc3 (m : MethodId) (p0 : Int32) (o2 : Addr) : entryFrame m #[(.int p0), (.int 9), (.ref o2)] 7 = mkF m 0 #[vI p0, vI 9, vR o2, u_, u_, u_, u_] [] := by first | (simp [entryFrame, mkF, argsToLocals, Value.category]; done) | rfl
def Q_gc3 (Z : State) (w_0 w_1 : Addr) (w_2 : Int32) (w_3 : Value) (p0 : Int32) (o2 : Addr) (ka : ClassId) (h0 : Heap) (n0 : Nat) (v : Option Value) (h : Heap) (L : List Loc) : Prop := ∃ d0 : Int32, ∃ d1 : Int32, ∃ d2 : Int32, v = some (.int 6) ∧ Fr n0 L ∧ Keep h0 h [o2] ∧ Arv Z h o2 ka .byte (16 : Int32) [(.int 32), (.int 108), (.int 105), (.int 110), (.int 101), (.int 32), (.int d0), (.int d1), (.int d2), (.int 0), (.int 0), (.int 0), (.int 0), (.int 0), (.int 0), (.int 0)] (.int 0) ∧ d0 = own_d p0 (100 : Int32) ∧ d1 = own_d p0 (10 : Int32) ∧ d2 = own_d p0 (1 : Int32)
theorem rm_gc3 (l : Launch) (Z : State) (a0 : Array Value) (hw : HW Z a0) (ws : List Jvm.Cond) (w_0 w_1 : Addr) (w_2 : Int32) (w_3 : Value) (p0 : Int32) (o2 : Addr) (ka : ClassId) (h0 : Heap) (n0 : Nat) (Z0 : n0 ≤ h0.size) (ST : own_St Z w_0 w_1 w_2 w_3) (O0 : Old Z n0 h0) (hp : (0 : Int32) < p0) (hlo : 100 ≤ p0.toInt ∧ p0.toInt < 1000) (Va : Arv Z h0 o2 ka .byte (16 : Int32) [(.int 32), (.int 108), (.int 105), (.int 110), (.int 101), (.int 32), (.int 0), (.int 0), (.int 0), (.int 0), (.int 0), (.int 0), (.int 0), (.int 0), (.int 0), (.int 0)] (.int 0)) (geo : n0 ≤ o2) :
    own_Met l y_35 jdk_33_method_12_code 7 (some .int) ws rr_gc3 Z #[(.int p0), (.int 9), (.ref o2)] h0 (Q_gc3 Z w_0 w_1 w_2 w_3 p0 o2 ka h0 n0) := by
  refine MetFree.of_bodySF (plainFor_of_name pn_7) hisR ?_
  intro p e s m args below meth c s₁ Bd hml0 hP hK
  obtain ⟨rfl, hZ, hh⟩ := hP
  have hx := Bd.exec
  have hby := Bd.bytes
  have B := @hb _ _ hby
  have hml : c.maxLocals = 7 := hml0
  have hown : s.vm.findClass cn_7 = some m.cls := findClass_of_methodNamed Bd.named
  have X0 : Stand p l e rr_gc3 s m #[(.int p0), (.int 9), (.ref o2)] below meth c s₁ [] 0 0 := Stand.of_body Bd
  have e0 : s₁.heap = h0 := by rw [← hh, Bd.state]; rfl
  have N0 := Fr.nil n0
  have K0 : Keep h0 h0 [o2] := Keep.refl _ _
  obtain ⟨G, step, ret, fin⟩ := own_openX X0 (rr_gc3.cells) (rr_gc3.slots) (Q_gc3 Z w_0 w_1 w_2 w_3 p0 o2 ka h0 n0) Bd.notSynchronized
  refine fin (g := entryFrame m #[(.int p0), (.int 9), (.ref o2)] 7) ?_
  rw [ef_gc3 m p0 o2]
  obtain ⟨ls0, hls0⟩ := own_sl #[vI p0, vI 9, vR o2, u_, u_, u_, u_]
  suffices hG0 : G s₁ (mkF m 0 ls0 []) by rw [hls0] at hG0; exact hG0
  refine own_gcS hx hby step hp (p1 := (9 : Int32)) hls0 X0 ?_
  intro lsa x0 hlsa ex0
  refine own_gcT hx hw ST hZ hown hby step geo (x := x0) (p1 := (9 : Int32)) (c0 := (9 : Int32)) (c1 := (8 : Int32)) (c2 := (7 : Int32)) (Or.inl rfl) (Or.inl rfl) (i1 := 8) (i2 := 7) (by decide) (by decide) (by decide) rfl (by show 8 < 16; decide) (by decide) rfl (by show 7 < 16; decide) (by omega) hlsa X0 e0 N0 O0 K0 Va ?_
  intro T1 lc1 ls1 h1 y1 r1 X1 e1 hls1 N1 O1 K1 V1 hy1 hr1
  replace V1 : Arv Z h1 o2 ka .byte (16 : Int32) [(.int 32), (.int 108), (.int 105), (.int 110), (.int 101), (.int 32), (.int 0), (.int ((48 : Int32) + (r1 / (10 : Int32)))), (.int ((48 : Int32) + (r1 % (10 : Int32)))), (.int 0), (.int 0), (.int 0), (.int 0), (.int 0), (.int 0), (.int 0)] (.int 0) := V1
  have br1 : r1.toInt = (p0.toInt / 1) % 100 := by rw [hr1, ex0, Int.neg_neg]
  have ex1 : y1.toInt = -(p0.toInt / 100) := by rw [hy1, ex0, Int.neg_neg, Int.ediv_ediv_of_nonneg (by decide)]; rfl
  refine own_gcE1 hx hw ST hZ hown hby step geo (x := y1) (p1 := (9 : Int32)) (c0 := (7 : Int32)) (c1 := (6 : Int32)) (i1 := 6) (by decide) (by decide) rfl (by show 6 < 16; decide) (by omega) (by omega) hls1 X1 e1 N1 O1 K1 V1 ?_
  intro T2 lc2 ls2 h2 r2 X2 e2 N2 O2 K2 V2 hr2
  replace V2 : Arv Z h2 o2 ka .byte (16 : Int32) [(.int 32), (.int 108), (.int 105), (.int 110), (.int 101), (.int 32), (.int ((48 : Int32) + (r2 % (10 : Int32)))), (.int ((48 : Int32) + (r1 / (10 : Int32)))), (.int ((48 : Int32) + (r1 % (10 : Int32)))), (.int 0), (.int 0), (.int 0), (.int 0), (.int 0), (.int 0), (.int 0)] (.int 0) := V2
  have br2 : r2.toInt = (p0.toInt / 100) % 100 := by rw [hr2, ex1, Int.neg_neg]; omega
  exact ret (v := some (.int 6)) X2 (fun h => by rw [Bd.returns] at h; cases h) (fun fs hr => retI X2 hx Bd.returns (B d35_120) hr) e2 ⟨((48 : Int32) + (r2 % (10 : Int32))), ((48 : Int32) + (r1 / (10 : Int32))), ((48 : Int32) + (r1 % (10 : Int32))), rfl, N2, K2, V2, ⟨(own_dO (own_pos hp) (P := (100 : Int32)) (m := 100) (by decide) (by decide) (by decide) br2), (own_dT (own_pos hp) (P := (10 : Int32)) (m := 1) (by decide) (by decide) (by decide) br1), (own_dO (own_pos hp) (P := (1 : Int32)) (m := 1) (by decide) (by decide) (by decide) br1)⟩⟩ (by decide) (by decide)
abbrev rr_gc4 : Room := { frames := 0, cells := 0, slots := 0, locals := 0 }
theorem ef_gc4 (m : MethodId) (p0 : Int32) (o2 : Addr) : entryFrame m #[(.int p0), (.int 10), (.ref o2)] 7 = mkF m 0 #[vI p0, vI 10, vR o2, u_, u_, u_, u_] [] := by first | (simp [entryFrame, mkF, argsToLocals, Value.category]; done) | rfl
def Q_gc4 (Z : State) (w_0 w_1 : Addr) (w_2 : Int32) (w_3 : Value) (p0 : Int32) (o2 : Addr) (ka : ClassId) (h0 : Heap) (n0 : Nat) (v : Option Value) (h : Heap) (L : List Loc) : Prop := ∃ d0 : Int32, ∃ d1 : Int32, ∃ d2 : Int32, ∃ d3 : Int32, v = some (.int 6) ∧ Fr n0 L ∧ Keep h0 h [o2] ∧ Arv Z h o2 ka .byte (16 : Int32) [(.int 32), (.int 108), (.int 105), (.int 110), (.int 101), (.int 32), (.int d0), (.int d1), (.int d2), (.int d3), (.int 0), (.int 0), (.int 0), (.int 0), (.int 0), (.int 0)] (.int 0) ∧ d0 = own_d p0 (1000 : Int32) ∧ d1 = own_d p0 (100 : Int32) ∧ d2 = own_d p0 (10 : Int32) ∧ d3 = own_d p0 (1 : Int32)
theorem rm_gc4 (l : Launch) (Z : State) (a0 : Array Value) (hw : HW Z a0) (ws : List Jvm.Cond) (w_0 w_1 : Addr) (w_2 : Int32) (w_3 : Value) (p0 : Int32) (o2 : Addr) (ka : ClassId) (h0 : Heap) (n0 : Nat) (Z0 : n0 ≤ h0.size) (ST : own_St Z w_0 w_1 w_2 w_3) (O0 : Old Z n0 h0) (hp : (0 : Int32) < p0) (hlo : 1000 ≤ p0.toInt ∧ p0.toInt < 10000) (Va : Arv Z h0 o2 ka .byte (16 : Int32) [(.int 32), (.int 108), (.int 105), (.int 110), (.int 101), (.int 32), (.int 0), (.int 0), (.int 0), (.int 0), (.int 0), (.int 0), (.int 0), (.int 0), (.int 0), (.int 0)] (.int 0)) (geo : n0 ≤ o2) :
    own_Met l y_35 jdk_33_method_12_code 7 (some .int) ws rr_gc4 Z #[(.int p0), (.int 10), (.ref o2)] h0 (Q_gc4 Z w_0 w_1 w_2 w_3 p0 o2 ka h0 n0) := by
  refine MetFree.of_bodySF (plainFor_of_name pn_7) hisR ?_
  intro p e s m args below meth c s₁ Bd hml0 hP hK
  obtain ⟨rfl, hZ, hh⟩ := hP
  have hx := Bd.exec
  have hby := Bd.bytes
  have B := @hb _ _ hby
  have hml : c.maxLocals = 7 := hml0
  have hown : s.vm.findClass cn_7 = some m.cls := findClass_of_methodNamed Bd.named
  have X0 : Stand p l e rr_gc4 s m #[(.int p0), (.int 10), (.ref o2)] below meth c s₁ [] 0 0 := Stand.of_body Bd
  have e0 : s₁.heap = h0 := by rw [← hh, Bd.state]; rfl
  have N0 := Fr.nil n0
  have K0 : Keep h0 h0 [o2] := Keep.refl _ _
  obtain ⟨G, step, ret, fin⟩ := own_openX X0 (rr_gc4.cells) (rr_gc4.slots) (Q_gc4 Z w_0 w_1 w_2 w_3 p0 o2 ka h0 n0) Bd.notSynchronized
  refine fin (g := entryFrame m #[(.int p0), (.int 10), (.ref o2)] 7) ?_
  rw [ef_gc4 m p0 o2]
  obtain ⟨ls0, hls0⟩ := own_sl #[vI p0, vI 10, vR o2, u_, u_, u_, u_]
  suffices hG0 : G s₁ (mkF m 0 ls0 []) by rw [hls0] at hG0; exact hG0
  refine own_gcS hx hby step hp (p1 := (10 : Int32)) hls0 X0 ?_
  intro lsa x0 hlsa ex0
  refine own_gcT hx hw ST hZ hown hby step geo (x := x0) (p1 := (10 : Int32)) (c0 := (10 : Int32)) (c1 := (9 : Int32)) (c2 := (8 : Int32)) (Or.inl rfl) (Or.inl rfl) (i1 := 9) (i2 := 8) (by decide) (by decide) (by decide) rfl (by show 9 < 16; decide) (by decide) rfl (by show 8 < 16; decide) (by omega) hlsa X0 e0 N0 O0 K0 Va ?_
  intro T1 lc1 ls1 h1 y1 r1 X1 e1 hls1 N1 O1 K1 V1 hy1 hr1
  replace V1 : Arv Z h1 o2 ka .byte (16 : Int32) [(.int 32), (.int 108), (.int 105), (.int 110), (.int 101), (.int 32), (.int 0), (.int 0), (.int ((48 : Int32) + (r1 / (10 : Int32)))), (.int ((48 : Int32) + (r1 % (10 : Int32)))), (.int 0), (.int 0), (.int 0), (.int 0), (.int 0), (.int 0)] (.int 0) := V1
  have br1 : r1.toInt = (p0.toInt / 1) % 100 := by rw [hr1, ex0, Int.neg_neg]
  have ex1 : y1.toInt = -(p0.toInt / 100) := by rw [hy1, ex0, Int.neg_neg, Int.ediv_ediv_of_nonneg (by decide)]; rfl
  refine own_gcE2 hx hw ST hZ hown hby step geo (x := y1) (p1 := (10 : Int32)) (c0 := (8 : Int32)) (c1 := (7 : Int32)) (c2 := (6 : Int32)) (i1 := 7) (i2 := 6) (by decide) (by decide) rfl (by show 7 < 16; decide) (by decide) (by decide) rfl (by show 6 < 16; decide) (by omega) (by omega) hls1 X1 e1 N1 O1 K1 V1 ?_
  intro T2 lc2 ls2 h2 r2 X2 e2 N2 O2 K2 V2 hr2
  replace V2 : Arv Z h2 o2 ka .byte (16 : Int32) [(.int 32), (.int 108), (.int 105), (.int 110), (.int 101), (.int 32), (.int ((48 : Int32) + (r2 / (10 : Int32)))), (.int ((48 : Int32) + (r2 % (10 : Int32)))), (.int ((48 : Int32) + (r1 / (10 : Int32)))), (.int ((48 : Int32) + (r1 % (10 : Int32)))), (.int 0), (.int 0), (.int 0), (.int 0), (.int 0), (.int 0)] (.int 0) := V2
  have br2 : r2.toInt = (p0.toInt / 100) % 100 := by rw [hr2, ex1, Int.neg_neg]; omega
  exact ret (v := some (.int 6)) X2 (fun h => by rw [Bd.returns] at h; cases h) (fun fs hr => retI X2 hx Bd.returns (B d35_120) hr) e2 ⟨((48 : Int32) + (r2 / (10 : Int32))), ((48 : Int32) + (r2 % (10 : Int32))), ((48 : Int32) + (r1 / (10 : Int32))), ((48 : Int32) + (r1 % (10 : Int32))), rfl, N2, K2, V2, ⟨(own_dT (own_pos hp) (P := (1000 : Int32)) (m := 100) (by decide) (by decide) (by decide) br2), (own_dO (own_pos hp) (P := (100 : Int32)) (m := 100) (by decide) (by decide) (by decide) br2), (own_dT (own_pos hp) (P := (10 : Int32)) (m := 1) (by decide) (by decide) (by decide) br1), (own_dO (own_pos hp) (P := (1 : Int32)) (m := 1) (by decide) (by decide) (by decide) br1)⟩⟩ (by decide) (by decide)
abbrev rr_gc5 : Room := { frames := 0, cells := 0, slots := 0, locals := 0 }
theorem ef_gc5 (m : MethodId) (p0 : Int32) (o2 : Addr) : entryFrame m #[(.int p0), (.int 11), (.ref o2)] 7 = mkF m 0 #[vI p0, vI 11, vR o2, u_, u_, u_, u_] [] := by first | (simp [entryFrame, mkF, argsToLocals, Value.category]; done) | rfl
def Q_gc5 (Z : State) (w_0 w_1 : Addr) (w_2 : Int32) (w_3 : Value) (p0 : Int32) (o2 : Addr) (ka : ClassId) (h0 : Heap) (n0 : Nat) (v : Option Value) (h : Heap) (L : List Loc) : Prop := ∃ d0 : Int32, ∃ d1 : Int32, ∃ d2 : Int32, ∃ d3 : Int32, ∃ d4 : Int32, v = some (.int 6) ∧ Fr n0 L ∧ Keep h0 h [o2] ∧ Arv Z h o2 ka .byte (16 : Int32) [(.int 32), (.int 108), (.int 105), (.int 110), (.int 101), (.int 32), (.int d0), (.int d1), (.int d2), (.int d3), (.int d4), (.int 0), (.int 0), (.int 0), (.int 0), (.int 0)] (.int 0) ∧ d0 = own_d p0 (10000 : Int32) ∧ d1 = own_d p0 (1000 : Int32) ∧ d2 = own_d p0 (100 : Int32) ∧ d3 = own_d p0 (10 : Int32) ∧ d4 = own_d p0 (1 : Int32)
theorem rm_gc5 (l : Launch) (Z : State) (a0 : Array Value) (hw : HW Z a0) (ws : List Jvm.Cond) (w_0 w_1 : Addr) (w_2 : Int32) (w_3 : Value) (p0 : Int32) (o2 : Addr) (ka : ClassId) (h0 : Heap) (n0 : Nat) (Z0 : n0 ≤ h0.size) (ST : own_St Z w_0 w_1 w_2 w_3) (O0 : Old Z n0 h0) (hp : (0 : Int32) < p0) (hlo : 10000 ≤ p0.toInt ∧ p0.toInt < 100000) (Va : Arv Z h0 o2 ka .byte (16 : Int32) [(.int 32), (.int 108), (.int 105), (.int 110), (.int 101), (.int 32), (.int 0), (.int 0), (.int 0), (.int 0), (.int 0), (.int 0), (.int 0), (.int 0), (.int 0), (.int 0)] (.int 0)) (geo : n0 ≤ o2) :
    own_Met l y_35 jdk_33_method_12_code 7 (some .int) ws rr_gc5 Z #[(.int p0), (.int 11), (.ref o2)] h0 (Q_gc5 Z w_0 w_1 w_2 w_3 p0 o2 ka h0 n0) := by
  refine MetFree.of_bodySF (plainFor_of_name pn_7) hisR ?_
  intro p e s m args below meth c s₁ Bd hml0 hP hK
  obtain ⟨rfl, hZ, hh⟩ := hP
  have hx := Bd.exec
  have hby := Bd.bytes
  have B := @hb _ _ hby
  have hml : c.maxLocals = 7 := hml0
  have hown : s.vm.findClass cn_7 = some m.cls := findClass_of_methodNamed Bd.named
  have X0 : Stand p l e rr_gc5 s m #[(.int p0), (.int 11), (.ref o2)] below meth c s₁ [] 0 0 := Stand.of_body Bd
  have e0 : s₁.heap = h0 := by rw [← hh, Bd.state]; rfl
  have N0 := Fr.nil n0
  have K0 : Keep h0 h0 [o2] := Keep.refl _ _
  obtain ⟨G, step, ret, fin⟩ := own_openX X0 (rr_gc5.cells) (rr_gc5.slots) (Q_gc5 Z w_0 w_1 w_2 w_3 p0 o2 ka h0 n0) Bd.notSynchronized
  refine fin (g := entryFrame m #[(.int p0), (.int 11), (.ref o2)] 7) ?_
  rw [ef_gc5 m p0 o2]
  obtain ⟨ls0, hls0⟩ := own_sl #[vI p0, vI 11, vR o2, u_, u_, u_, u_]
  suffices hG0 : G s₁ (mkF m 0 ls0 []) by rw [hls0] at hG0; exact hG0
  refine own_gcS hx hby step hp (p1 := (11 : Int32)) hls0 X0 ?_
  intro lsa x0 hlsa ex0
  refine own_gcT hx hw ST hZ hown hby step geo (x := x0) (p1 := (11 : Int32)) (c0 := (11 : Int32)) (c1 := (10 : Int32)) (c2 := (9 : Int32)) (Or.inl rfl) (Or.inl rfl) (i1 := 10) (i2 := 9) (by decide) (by decide) (by decide) rfl (by show 10 < 16; decide) (by decide) rfl (by show 9 < 16; decide) (by omega) hlsa X0 e0 N0 O0 K0 Va ?_
  intro T1 lc1 ls1 h1 y1 r1 X1 e1 hls1 N1 O1 K1 V1 hy1 hr1
  replace V1 : Arv Z h1 o2 ka .byte (16 : Int32) [(.int 32), (.int 108), (.int 105), (.int 110), (.int 101), (.int 32), (.int 0), (.int 0), (.int 0), (.int ((48 : Int32) + (r1 / (10 : Int32)))), (.int ((48 : Int32) + (r1 % (10 : Int32)))), (.int 0), (.int 0), (.int 0), (.int 0), (.int 0)] (.int 0) := V1
  have br1 : r1.toInt = (p0.toInt / 1) % 100 := by rw [hr1, ex0, Int.neg_neg]
  have ex1 : y1.toInt = -(p0.toInt / 100) := by rw [hy1, ex0, Int.neg_neg, Int.ediv_ediv_of_nonneg (by decide)]; rfl
  refine own_gcT hx hw ST hZ hown hby step geo (x := y1) (p1 := (11 : Int32)) (c0 := (9 : Int32)) (c1 := (8 : Int32)) (c2 := (7 : Int32)) (Or.inr ⟨_, rfl, rfl⟩) (Or.inr ⟨_, rfl, rfl⟩) (i1 := 8) (i2 := 7) (by decide) (by decide) (by decide) rfl (by show 8 < 16; decide) (by decide) rfl (by show 7 < 16; decide) (by omega) hls1 X1 e1 N1 O1 K1 V1 ?_
  intro T2 lc2 ls2 h2 y2 r2 X2 e2 hls2 N2 O2 K2 V2 hy2 hr2
  replace V2 : Arv Z h2 o2 ka .byte (16 : Int32) [(.int 32), (.int 108), (.int 105), (.int 110), (.int 101), (.int 32), (.int 0), (.int ((48 : Int32) + (r2 / (10 : Int32)))), (.int ((48 : Int32) + (r2 % (10 : Int32)))), (.int ((48 : Int32) + (r1 / (10 : Int32)))), (.int ((48 : Int32) + (r1 % (10 : Int32)))), (.int 0), (.int 0), (.int 0), (.int 0), (.int 0)] (.int 0) := V2
  have br2 : r2.toInt = (p0.toInt / 100) % 100 := by rw [hr2, ex1, Int.neg_neg]
  have ex2 : y2.toInt = -(p0.toInt / 10000) := by rw [hy2, ex1, Int.neg_neg, Int.ediv_ediv_of_nonneg (by decide)]; rfl
  refine own_gcE1 hx hw ST hZ hown hby step geo (x := y2) (p1 := (11 : Int32)) (c0 := (7 : Int32)) (c1 := (6 : Int32)) (i1 := 6) (by decide) (by decide) rfl (by show 6 < 16; decide) (by omega) (by omega) hls2 X2 e2 N2 O2 K2 V2 ?_
  intro T3 lc3 ls3 h3 r3 X3 e3 N3 O3 K3 V3 hr3
  replace V3 : Arv Z h3 o2 ka .byte (16 : Int32) [(.int 32), (.int 108), (.int 105), (.int 110), (.int 101), (.int 32), (.int ((48 : Int32) + (r3 % (10 : Int32)))), (.int ((48 : Int32) + (r2 / (10 : Int32)))), (.int ((48 : Int32) + (r2 % (10 : Int32)))), (.int ((48 : Int32) + (r1 / (10 : Int32)))), (.int ((48 : Int32) + (r1 % (10 : Int32)))), (.int 0), (.int 0), (.int 0), (.int 0), (.int 0)] (.int 0) := V3
  have br3 : r3.toInt = (p0.toInt / 10000) % 100 := by rw [hr3, ex2, Int.neg_neg]; omega
  exact ret (v := some (.int 6)) X3 (fun h => by rw [Bd.returns] at h; cases h) (fun fs hr => retI X3 hx Bd.returns (B d35_120) hr) e3 ⟨((48 : Int32) + (r3 % (10 : Int32))), ((48 : Int32) + (r2 / (10 : Int32))), ((48 : Int32) + (r2 % (10 : Int32))), ((48 : Int32) + (r1 / (10 : Int32))), ((48 : Int32) + (r1 % (10 : Int32))), rfl, N3, K3, V3, ⟨(own_dO (own_pos hp) (P := (10000 : Int32)) (m := 10000) (by decide) (by decide) (by decide) br3), (own_dT (own_pos hp) (P := (1000 : Int32)) (m := 100) (by decide) (by decide) (by decide) br2), (own_dO (own_pos hp) (P := (100 : Int32)) (m := 100) (by decide) (by decide) (by decide) br2), (own_dT (own_pos hp) (P := (10 : Int32)) (m := 1) (by decide) (by decide) (by decide) br1), (own_dO (own_pos hp) (P := (1 : Int32)) (m := 1) (by decide) (by decide) (by decide) br1)⟩⟩ (by decide) (by decide)
abbrev rr_gc6 : Room := { frames := 0, cells := 0, slots := 0, locals := 0 }
theorem ef_gc6 (m : MethodId) (p0 : Int32) (o2 : Addr) : entryFrame m #[(.int p0), (.int 12), (.ref o2)] 7 = mkF m 0 #[vI p0, vI 12, vR o2, u_, u_, u_, u_] [] := by first | (simp [entryFrame, mkF, argsToLocals, Value.category]; done) | rfl
def Q_gc6 (Z : State) (w_0 w_1 : Addr) (w_2 : Int32) (w_3 : Value) (p0 : Int32) (o2 : Addr) (ka : ClassId) (h0 : Heap) (n0 : Nat) (v : Option Value) (h : Heap) (L : List Loc) : Prop := ∃ d0 : Int32, ∃ d1 : Int32, ∃ d2 : Int32, ∃ d3 : Int32, ∃ d4 : Int32, ∃ d5 : Int32, v = some (.int 6) ∧ Fr n0 L ∧ Keep h0 h [o2] ∧ Arv Z h o2 ka .byte (16 : Int32) [(.int 32), (.int 108), (.int 105), (.int 110), (.int 101), (.int 32), (.int d0), (.int d1), (.int d2), (.int d3), (.int d4), (.int d5), (.int 0), (.int 0), (.int 0), (.int 0)] (.int 0) ∧ d0 = own_d p0 (100000 : Int32) ∧ d1 = own_d p0 (10000 : Int32) ∧ d2 = own_d p0 (1000 : Int32) ∧ d3 = own_d p0 (100 : Int32) ∧ d4 = own_d p0 (10 : Int32) ∧ d5 = own_d p0 (1 : Int32)
theorem rm_gc6 (l : Launch) (Z : State) (a0 : Array Value) (hw : HW Z a0) (ws : List Jvm.Cond) (w_0 w_1 : Addr) (w_2 : Int32) (w_3 : Value) (p0 : Int32) (o2 : Addr) (ka : ClassId) (h0 : Heap) (n0 : Nat) (Z0 : n0 ≤ h0.size) (ST : own_St Z w_0 w_1 w_2 w_3) (O0 : Old Z n0 h0) (hp : (0 : Int32) < p0) (hlo : 100000 ≤ p0.toInt ∧ p0.toInt < 1000000) (Va : Arv Z h0 o2 ka .byte (16 : Int32) [(.int 32), (.int 108), (.int 105), (.int 110), (.int 101), (.int 32), (.int 0), (.int 0), (.int 0), (.int 0), (.int 0), (.int 0), (.int 0), (.int 0), (.int 0), (.int 0)] (.int 0)) (geo : n0 ≤ o2) :
    own_Met l y_35 jdk_33_method_12_code 7 (some .int) ws rr_gc6 Z #[(.int p0), (.int 12), (.ref o2)] h0 (Q_gc6 Z w_0 w_1 w_2 w_3 p0 o2 ka h0 n0) := by
  refine MetFree.of_bodySF (plainFor_of_name pn_7) hisR ?_
  intro p e s m args below meth c s₁ Bd hml0 hP hK
  obtain ⟨rfl, hZ, hh⟩ := hP
  have hx := Bd.exec
  have hby := Bd.bytes
  have B := @hb _ _ hby
  have hml : c.maxLocals = 7 := hml0
  have hown : s.vm.findClass cn_7 = some m.cls := findClass_of_methodNamed Bd.named
  have X0 : Stand p l e rr_gc6 s m #[(.int p0), (.int 12), (.ref o2)] below meth c s₁ [] 0 0 := Stand.of_body Bd
  have e0 : s₁.heap = h0 := by rw [← hh, Bd.state]; rfl
  have N0 := Fr.nil n0
  have K0 : Keep h0 h0 [o2] := Keep.refl _ _
  obtain ⟨G, step, ret, fin⟩ := own_openX X0 (rr_gc6.cells) (rr_gc6.slots) (Q_gc6 Z w_0 w_1 w_2 w_3 p0 o2 ka h0 n0) Bd.notSynchronized
  refine fin (g := entryFrame m #[(.int p0), (.int 12), (.ref o2)] 7) ?_
  rw [ef_gc6 m p0 o2]
  obtain ⟨ls0, hls0⟩ := own_sl #[vI p0, vI 12, vR o2, u_, u_, u_, u_]
  suffices hG0 : G s₁ (mkF m 0 ls0 []) by rw [hls0] at hG0; exact hG0
  refine own_gcS hx hby step hp (p1 := (12 : Int32)) hls0 X0 ?_
  intro lsa x0 hlsa ex0
  refine own_gcT hx hw ST hZ hown hby step geo (x := x0) (p1 := (12 : Int32)) (c0 := (12 : Int32)) (c1 := (11 : Int32)) (c2 := (10 : Int32)) (Or.inl rfl) (Or.inl rfl) (i1 := 11) (i2 := 10) (by decide) (by decide) (by decide) rfl (by show 11 < 16; decide) (by decide) rfl (by show 10 < 16; decide) (by omega) hlsa X0 e0 N0 O0 K0 Va ?_
  intro T1 lc1 ls1 h1 y1 r1 X1 e1 hls1 N1 O1 K1 V1 hy1 hr1
  replace V1 : Arv Z h1 o2 ka .byte (16 : Int32) [(.int 32), (.int 108), (.int 105), (.int 110), (.int 101), (.int 32), (.int 0), (.int 0), (.int 0), (.int 0), (.int ((48 : Int32) + (r1 / (10 : Int32)))), (.int ((48 : Int32) + (r1 % (10 : Int32)))), (.int 0), (.int 0), (.int 0), (.int 0)] (.int 0) := V1
  have br1 : r1.toInt = (p0.toInt / 1) % 100 := by rw [hr1, ex0, Int.neg_neg]
  have ex1 : y1.toInt = -(p0.toInt / 100) := by rw [hy1, ex0, Int.neg_neg, Int.ediv_ediv_of_nonneg (by decide)]; rfl
  refine own_gcT hx hw ST hZ hown hby step geo (x := y1) (p1 := (12 : Int32)) (c0 := (10 : Int32)) (c1 := (9 : Int32)) (c2 := (8 : Int32)) (Or.inr ⟨_, rfl, rfl⟩) (Or.inr ⟨_, rfl, rfl⟩) (i1 := 9) (i2 := 8) (by decide) (by decide) (by decide) rfl (by show 9 < 16; decide) (by decide) rfl (by show 8 < 16; decide) (by omega) hls1 X1 e1 N1 O1 K1 V1 ?_
  intro T2 lc2 ls2 h2 y2 r2 X2 e2 hls2 N2 O2 K2 V2 hy2 hr2
  replace V2 : Arv Z h2 o2 ka .byte (16 : Int32) [(.int 32), (.int 108), (.int 105), (.int 110), (.int 101), (.int 32), (.int 0), (.int 0), (.int ((48 : Int32) + (r2 / (10 : Int32)))), (.int ((48 : Int32) + (r2 % (10 : Int32)))), (.int ((48 : Int32) + (r1 / (10 : Int32)))), (.int ((48 : Int32) + (r1 % (10 : Int32)))), (.int 0), (.int 0), (.int 0), (.int 0)] (.int 0) := V2
  have br2 : r2.toInt = (p0.toInt / 100) % 100 := by rw [hr2, ex1, Int.neg_neg]
  have ex2 : y2.toInt = -(p0.toInt / 10000) := by rw [hy2, ex1, Int.neg_neg, Int.ediv_ediv_of_nonneg (by decide)]; rfl
  refine own_gcE2 hx hw ST hZ hown hby step geo (x := y2) (p1 := (12 : Int32)) (c0 := (8 : Int32)) (c1 := (7 : Int32)) (c2 := (6 : Int32)) (i1 := 7) (i2 := 6) (by decide) (by decide) rfl (by show 7 < 16; decide) (by decide) (by decide) rfl (by show 6 < 16; decide) (by omega) (by omega) hls2 X2 e2 N2 O2 K2 V2 ?_
  intro T3 lc3 ls3 h3 r3 X3 e3 N3 O3 K3 V3 hr3
  replace V3 : Arv Z h3 o2 ka .byte (16 : Int32) [(.int 32), (.int 108), (.int 105), (.int 110), (.int 101), (.int 32), (.int ((48 : Int32) + (r3 / (10 : Int32)))), (.int ((48 : Int32) + (r3 % (10 : Int32)))), (.int ((48 : Int32) + (r2 / (10 : Int32)))), (.int ((48 : Int32) + (r2 % (10 : Int32)))), (.int ((48 : Int32) + (r1 / (10 : Int32)))), (.int ((48 : Int32) + (r1 % (10 : Int32)))), (.int 0), (.int 0), (.int 0), (.int 0)] (.int 0) := V3
  have br3 : r3.toInt = (p0.toInt / 10000) % 100 := by rw [hr3, ex2, Int.neg_neg]; omega
  exact ret (v := some (.int 6)) X3 (fun h => by rw [Bd.returns] at h; cases h) (fun fs hr => retI X3 hx Bd.returns (B d35_120) hr) e3 ⟨((48 : Int32) + (r3 / (10 : Int32))), ((48 : Int32) + (r3 % (10 : Int32))), ((48 : Int32) + (r2 / (10 : Int32))), ((48 : Int32) + (r2 % (10 : Int32))), ((48 : Int32) + (r1 / (10 : Int32))), ((48 : Int32) + (r1 % (10 : Int32))), rfl, N3, K3, V3, ⟨(own_dT (own_pos hp) (P := (100000 : Int32)) (m := 10000) (by decide) (by decide) (by decide) br3), (own_dO (own_pos hp) (P := (10000 : Int32)) (m := 10000) (by decide) (by decide) (by decide) br3), (own_dT (own_pos hp) (P := (1000 : Int32)) (m := 100) (by decide) (by decide) (by decide) br2), (own_dO (own_pos hp) (P := (100 : Int32)) (m := 100) (by decide) (by decide) (by decide) br2), (own_dT (own_pos hp) (P := (10 : Int32)) (m := 1) (by decide) (by decide) (by decide) br1), (own_dO (own_pos hp) (P := (1 : Int32)) (m := 1) (by decide) (by decide) (by decide) br1)⟩⟩ (by decide) (by decide)
abbrev rr_gc7 : Room := { frames := 0, cells := 0, slots := 0, locals := 0 }
theorem ef_gc7 (m : MethodId) (p0 : Int32) (o2 : Addr) : entryFrame m #[(.int p0), (.int 13), (.ref o2)] 7 = mkF m 0 #[vI p0, vI 13, vR o2, u_, u_, u_, u_] [] := by first | (simp [entryFrame, mkF, argsToLocals, Value.category]; done) | rfl
def Q_gc7 (Z : State) (w_0 w_1 : Addr) (w_2 : Int32) (w_3 : Value) (p0 : Int32) (o2 : Addr) (ka : ClassId) (h0 : Heap) (n0 : Nat) (v : Option Value) (h : Heap) (L : List Loc) : Prop := ∃ d0 : Int32, ∃ d1 : Int32, ∃ d2 : Int32, ∃ d3 : Int32, ∃ d4 : Int32, ∃ d5 : Int32, ∃ d6 : Int32, v = some (.int 6) ∧ Fr n0 L ∧ Keep h0 h [o2] ∧ Arv Z h o2 ka .byte (16 : Int32) [(.int 32), (.int 108), (.int 105), (.int 110), (.int 101), (.int 32), (.int d0), (.int d1), (.int d2), (.int d3), (.int d4), (.int d5), (.int d6), (.int 0), (.int 0), (.int 0)] (.int 0) ∧ d0 = own_d p0 (1000000 : Int32) ∧ d1 = own_d p0 (100000 : Int32) ∧ d2 = own_d p0 (10000 : Int32) ∧ d3 = own_d p0 (1000 : Int32) ∧ d4 = own_d p0 (100 : Int32) ∧ d5 = own_d p0 (10 : Int32) ∧ d6 = own_d p0 (1 : Int32)
theorem rm_gc7 (l : Launch) (Z : State) (a0 : Array Value) (hw : HW Z a0) (ws : List Jvm.Cond) (w_0 w_1 : Addr) (w_2 : Int32) (w_3 : Value) (p0 : Int32) (o2 : Addr) (ka : ClassId) (h0 : Heap) (n0 : Nat) (Z0 : n0 ≤ h0.size) (ST : own_St Z w_0 w_1 w_2 w_3) (O0 : Old Z n0 h0) (hp : (0 : Int32) < p0) (hlo : 1000000 ≤ p0.toInt ∧ p0.toInt < 10000000) (Va : Arv Z h0 o2 ka .byte (16 : Int32) [(.int 32), (.int 108), (.int 105), (.int 110), (.int 101), (.int 32), (.int 0), (.int 0), (.int 0), (.int 0), (.int 0), (.int 0), (.int 0), (.int 0), (.int 0), (.int 0)] (.int 0)) (geo : n0 ≤ o2) :
    own_Met l y_35 jdk_33_method_12_code 7 (some .int) ws rr_gc7 Z #[(.int p0), (.int 13), (.ref o2)] h0 (Q_gc7 Z w_0 w_1 w_2 w_3 p0 o2 ka h0 n0) := by
  refine MetFree.of_bodySF (plainFor_of_name pn_7) hisR ?_
  intro p e s m args below meth c s₁ Bd hml0 hP hK
  obtain ⟨rfl, hZ, hh⟩ := hP
  have hx := Bd.exec
  have hby := Bd.bytes
  have B := @hb _ _ hby
  have hml : c.maxLocals = 7 := hml0
  have hown : s.vm.findClass cn_7 = some m.cls := findClass_of_methodNamed Bd.named
  have X0 : Stand p l e rr_gc7 s m #[(.int p0), (.int 13), (.ref o2)] below meth c s₁ [] 0 0 := Stand.of_body Bd
  have e0 : s₁.heap = h0 := by rw [← hh, Bd.state]; rfl
  have N0 := Fr.nil n0
  have K0 : Keep h0 h0 [o2] := Keep.refl _ _
  obtain ⟨G, step, ret, fin⟩ := own_openX X0 (rr_gc7.cells) (rr_gc7.slots) (Q_gc7 Z w_0 w_1 w_2 w_3 p0 o2 ka h0 n0) Bd.notSynchronized
  refine fin (g := entryFrame m #[(.int p0), (.int 13), (.ref o2)] 7) ?_
  rw [ef_gc7 m p0 o2]
  obtain ⟨ls0, hls0⟩ := own_sl #[vI p0, vI 13, vR o2, u_, u_, u_, u_]
  suffices hG0 : G s₁ (mkF m 0 ls0 []) by rw [hls0] at hG0; exact hG0
  refine own_gcS hx hby step hp (p1 := (13 : Int32)) hls0 X0 ?_
  intro lsa x0 hlsa ex0
  refine own_gcT hx hw ST hZ hown hby step geo (x := x0) (p1 := (13 : Int32)) (c0 := (13 : Int32)) (c1 := (12 : Int32)) (c2 := (11 : Int32)) (Or.inl rfl) (Or.inl rfl) (i1 := 12) (i2 := 11) (by decide) (by decide) (by decide) rfl (by show 12 < 16; decide) (by decide) rfl (by show 11 < 16; decide) (by omega) hlsa X0 e0 N0 O0 K0 Va ?_
  intro T1 lc1 ls1 h1 y1 r1 X1 e1 hls1 N1 O1 K1 V1 hy1 hr1
  replace V1 : Arv Z h1 o2 ka .byte (16 : Int32) [(.int 32), (.int 108), (.int 105), (.int 110), (.int 101), (.int 32), (.int 0), (.int 0), (.int 0), (.int 0), (.int 0), (.int ((48 : Int32) + (r1 / (10 : Int32)))), (.int ((48 : Int32) + (r1 % (10 : Int32)))), (.int 0), (.int 0), (.int 0)] (.int 0) := V1
  have br1 : r1.toInt = (p0.toInt / 1) % 100 := by rw [hr1, ex0, Int.neg_neg]
  have ex1 : y1.toInt = -(p0.toInt / 100) := by rw [hy1, ex0, Int.neg_neg, Int.ediv_ediv_of_nonneg (by decide)]; rfl
  refine own_gcT hx hw ST hZ hown hby step geo (x := y1) (p1 := (13 : Int32)) (c0 := (11 : Int32)) (c1 := (10 : Int32)) (c2 := (9 : Int32)) (Or.inr ⟨_, rfl, rfl⟩) (Or.inr ⟨_, rfl, rfl⟩) (i1 := 10) (i2 := 9) (by decide) (by decide) (by decide) rfl (by show 10 < 16; decide) (by decide) rfl (by show 9 < 16; decide) (by omega) hls1 X1 e1 N1 O1 K1 V1 ?_
  intro T2 lc2 ls2 h2 y2 r2 X2 e2 hls2 N2 O2 K2 V2 hy2 hr2
  replace V2 : Arv Z h2 o2 ka .byte (16 : Int32) [(.int 32), (.int 108), (.int 105), (.int 110), (.int 101), (.int 32), (.int 0), (.int 0), (.int 0), (.int ((48 : Int32) + (r2 / (10 : Int32)))), (.int ((48 : Int32) + (r2 % (10 : Int32)))), (.int ((48 : Int32) + (r1 / (10 : Int32)))), (.int ((48 : Int32) + (r1 % (10 : Int32)))), (.int 0), (.int 0), (.int 0)] (.int 0) := V2
  have br2 : r2.toInt = (p0.toInt / 100) % 100 := by rw [hr2, ex1, Int.neg_neg]
  have ex2 : y2.toInt = -(p0.toInt / 10000) := by rw [hy2, ex1, Int.neg_neg, Int.ediv_ediv_of_nonneg (by decide)]; rfl
  refine own_gcT hx hw ST hZ hown hby step geo (x := y2) (p1 := (13 : Int32)) (c0 := (9 : Int32)) (c1 := (8 : Int32)) (c2 := (7 : Int32)) (Or.inr ⟨_, rfl, rfl⟩) (Or.inr ⟨_, rfl, rfl⟩) (i1 := 8) (i2 := 7) (by decide) (by decide) (by decide) rfl (by show 8 < 16; decide) (by decide) rfl (by show 7 < 16; decide) (by omega) hls2 X2 e2 N2 O2 K2 V2 ?_
  intro T3 lc3 ls3 h3 y3 r3 X3 e3 hls3 N3 O3 K3 V3 hy3 hr3
  replace V3 : Arv Z h3 o2 ka .byte (16 : Int32) [(.int 32), (.int 108), (.int 105), (.int 110), (.int 101), (.int 32), (.int 0), (.int ((48 : Int32) + (r3 / (10 : Int32)))), (.int ((48 : Int32) + (r3 % (10 : Int32)))), (.int ((48 : Int32) + (r2 / (10 : Int32)))), (.int ((48 : Int32) + (r2 % (10 : Int32)))), (.int ((48 : Int32) + (r1 / (10 : Int32)))), (.int ((48 : Int32) + (r1 % (10 : Int32)))), (.int 0), (.int 0), (.int 0)] (.int 0) := V3
  have br3 : r3.toInt = (p0.toInt / 10000) % 100 := by rw [hr3, ex2, Int.neg_neg]
  have ex3 : y3.toInt = -(p0.toInt / 1000000) := by rw [hy3, ex2, Int.neg_neg, Int.ediv_ediv_of_nonneg (by decide)]; rfl
  refine own_gcE1 hx hw ST hZ hown hby step geo (x := y3) (p1 := (13 : Int32)) (c0 := (7 : Int32)) (c1 := (6 : Int32)) (i1 := 6) (by decide) (by decide) rfl (by show 6 < 16; decide) (by omega) (by omega) hls3 X3 e3 N3 O3 K3 V3 ?_
  intro T4 lc4 ls4 h4 r4 X4 e4 N4 O4 K4 V4 hr4
  replace V4 : Arv Z h4 o2 ka .byte (16 : Int32) [(.int 32), (.int 108), (.int 105), (.int 110), (.int 101), (.int 32), (.int ((48 : Int32) + (r4 % (10 : Int32)))), (.int ((48 : Int32) + (r3 / (10 : Int32)))), (.int ((48 : Int32) + (r3 % (10 : Int32)))), (.int ((48 : Int32) + (r2 / (10 : Int32)))), (.int ((48 : Int32) + (r2 % (10 : Int32)))), (.int ((48 : Int32) + (r1 / (10 : Int32)))), (.int ((48 : Int32) + (r1 % (10 : Int32)))), (.int 0), (.int 0), (.int 0)] (.int 0) := V4
  have br4 : r4.toInt = (p0.toInt / 1000000) % 100 := by rw [hr4, ex3, Int.neg_neg]; omega
  exact ret (v := some (.int 6)) X4 (fun h => by rw [Bd.returns] at h; cases h) (fun fs hr => retI X4 hx Bd.returns (B d35_120) hr) e4 ⟨((48 : Int32) + (r4 % (10 : Int32))), ((48 : Int32) + (r3 / (10 : Int32))), ((48 : Int32) + (r3 % (10 : Int32))), ((48 : Int32) + (r2 / (10 : Int32))), ((48 : Int32) + (r2 % (10 : Int32))), ((48 : Int32) + (r1 / (10 : Int32))), ((48 : Int32) + (r1 % (10 : Int32))), rfl, N4, K4, V4, ⟨(own_dO (own_pos hp) (P := (1000000 : Int32)) (m := 1000000) (by decide) (by decide) (by decide) br4), (own_dT (own_pos hp) (P := (100000 : Int32)) (m := 10000) (by decide) (by decide) (by decide) br3), (own_dO (own_pos hp) (P := (10000 : Int32)) (m := 10000) (by decide) (by decide) (by decide) br3), (own_dT (own_pos hp) (P := (1000 : Int32)) (m := 100) (by decide) (by decide) (by decide) br2), (own_dO (own_pos hp) (P := (100 : Int32)) (m := 100) (by decide) (by decide) (by decide) br2), (own_dT (own_pos hp) (P := (10 : Int32)) (m := 1) (by decide) (by decide) (by decide) br1), (own_dO (own_pos hp) (P := (1 : Int32)) (m := 1) (by decide) (by decide) (by decide) br1)⟩⟩ (by decide) (by decide)
abbrev rr_gc8 : Room := { frames := 0, cells := 0, slots := 0, locals := 0 }
theorem ef_gc8 (m : MethodId) (p0 : Int32) (o2 : Addr) : entryFrame m #[(.int p0), (.int 14), (.ref o2)] 7 = mkF m 0 #[vI p0, vI 14, vR o2, u_, u_, u_, u_] [] := by first | (simp [entryFrame, mkF, argsToLocals, Value.category]; done) | rfl
def Q_gc8 (Z : State) (w_0 w_1 : Addr) (w_2 : Int32) (w_3 : Value) (p0 : Int32) (o2 : Addr) (ka : ClassId) (h0 : Heap) (n0 : Nat) (v : Option Value) (h : Heap) (L : List Loc) : Prop := ∃ d0 : Int32, ∃ d1 : Int32, ∃ d2 : Int32, ∃ d3 : Int32, ∃ d4 : Int32, ∃ d5 : Int32, ∃ d6 : Int32, ∃ d7 : Int32, v = some (.int 6) ∧ Fr n0 L ∧ Keep h0 h [o2] ∧ Arv Z h o2 ka .byte (16 : Int32) [(.int 32), (.int 108), (.int 105), (.int 110), (.int 101), (.int 32), (.int d0), (.int d1), (.int d2), (.int d3), (.int d4), (.int d5), (.int d6), (.int d7), (.int 0), (.int 0)] (.int 0) ∧ d0 = own_d p0 (10000000 : Int32) ∧ d1 = own_d p0 (1000000 : Int32) ∧ d2 = own_d p0 (100000 : Int32) ∧ d3 = own_d p0 (10000 : Int32) ∧ d4 = own_d p0 (1000 : Int32) ∧ d5 = own_d p0 (100 : Int32) ∧ d6 = own_d p0 (10 : Int32) ∧ d7 = own_d p0 (1 : Int32)
theorem rm_gc8 (l : Launch) (Z : State) (a0 : Array Value) (hw : HW Z a0) (ws : List Jvm.Cond) (w_0 w_1 : Addr) (w_2 : Int32) (w_3 : Value) (p0 : Int32) (o2 : Addr) (ka : ClassId) (h0 : Heap) (n0 : Nat) (Z0 : n0 ≤ h0.size) (ST : own_St Z w_0 w_1 w_2 w_3) (O0 : Old Z n0 h0) (hp : (0 : Int32) < p0) (hlo : 10000000 ≤ p0.toInt ∧ p0.toInt < 100000000) (Va : Arv Z h0 o2 ka .byte (16 : Int32) [(.int 32), (.int 108), (.int 105), (.int 110), (.int 101), (.int 32), (.int 0), (.int 0), (.int 0), (.int 0), (.int 0), (.int 0), (.int 0), (.int 0), (.int 0), (.int 0)] (.int 0)) (geo : n0 ≤ o2) :
    own_Met l y_35 jdk_33_method_12_code 7 (some .int) ws rr_gc8 Z #[(.int p0), (.int 14), (.ref o2)] h0 (Q_gc8 Z w_0 w_1 w_2 w_3 p0 o2 ka h0 n0) := by
  refine MetFree.of_bodySF (plainFor_of_name pn_7) hisR ?_
  intro p e s m args below meth c s₁ Bd hml0 hP hK
  obtain ⟨rfl, hZ, hh⟩ := hP
  have hx := Bd.exec
  have hby := Bd.bytes
  have B := @hb _ _ hby
  have hml : c.maxLocals = 7 := hml0
  have hown : s.vm.findClass cn_7 = some m.cls := findClass_of_methodNamed Bd.named
  have X0 : Stand p l e rr_gc8 s m #[(.int p0), (.int 14), (.ref o2)] below meth c s₁ [] 0 0 := Stand.of_body Bd
  have e0 : s₁.heap = h0 := by rw [← hh, Bd.state]; rfl
  have N0 := Fr.nil n0
  have K0 : Keep h0 h0 [o2] := Keep.refl _ _
  obtain ⟨G, step, ret, fin⟩ := own_openX X0 (rr_gc8.cells) (rr_gc8.slots) (Q_gc8 Z w_0 w_1 w_2 w_3 p0 o2 ka h0 n0) Bd.notSynchronized
  refine fin (g := entryFrame m #[(.int p0), (.int 14), (.ref o2)] 7) ?_
  rw [ef_gc8 m p0 o2]
  obtain ⟨ls0, hls0⟩ := own_sl #[vI p0, vI 14, vR o2, u_, u_, u_, u_]
  suffices hG0 : G s₁ (mkF m 0 ls0 []) by rw [hls0] at hG0; exact hG0
  refine own_gcS hx hby step hp (p1 := (14 : Int32)) hls0 X0 ?_
  intro lsa x0 hlsa ex0
  refine own_gcT hx hw ST hZ hown hby step geo (x := x0) (p1 := (14 : Int32)) (c0 := (14 : Int32)) (c1 := (13 : Int32)) (c2 := (12 : Int32)) (Or.inl rfl) (Or.inl rfl) (i1 := 13) (i2 := 12) (by decide) (by decide) (by decide) rfl (by show 13 < 16; decide) (by decide) rfl (by show 12 < 16; decide) (by omega) hlsa X0 e0 N0 O0 K0 Va ?_
  intro T1 lc1 ls1 h1 y1 r1 X1 e1 hls1 N1 O1 K1 V1 hy1 hr1
  replace V1 : Arv Z h1 o2 ka .byte (16 : Int32) [(.int 32), (.int 108), (.int 105), (.int 110), (.int 101), (.int 32), (.int 0), (.int 0), (.int 0), (.int 0), (.int 0), (.int 0), (.int ((48 : Int32) + (r1 / (10 : Int32)))), (.int ((48 : Int32) + (r1 % (10 : Int32)))), (.int 0), (.int 0)] (.int 0) := V1
  have br1 : r1.toInt = (p0.toInt / 1) % 100 := by rw [hr1, ex0, Int.neg_neg]
  have ex1 : y1.toInt = -(p0.toInt / 100) := by rw [hy1, ex0, Int.neg_neg, Int.ediv_ediv_of_nonneg (by decide)]; rfl
  refine own_gcT hx hw ST hZ hown hby step geo (x := y1) (p1 := (14 : Int32)) (c0 := (12 : Int32)) (c1 := (11 : Int32)) (c2 := (10 : Int32)) (Or.inr ⟨_, rfl, rfl⟩) (Or.inr ⟨_, rfl, rfl⟩) (i1 := 11) (i2 := 10) (by decide) (by decide) (by decide) rfl (by show 11 < 16; decide) (by decide) rfl (by show 10 < 16; decide) (by omega) hls1 X1 e1 N1 O1 K1 V1 ?_
  intro T2 lc2 ls2 h2 y2 r2 X2 e2 hls2 N2 O2 K2 V2 hy2 hr2
  replace V2 : Arv Z h2 o2 ka .byte (16 : Int32) [(.int 32), (.int 108), (.int 105), (.int 110), (.int 101), (.int 32), (.int 0), (.int 0), (.int 0), (.int 0), (.int ((48 : Int32) + (r2 / (10 : Int32)))), (.int ((48 : Int32) + (r2 % (10 : Int32)))), (.int ((48 : Int32) + (r1 / (10 : Int32)))), (.int ((48 : Int32) + (r1 % (10 : Int32)))), (.int 0), (.int 0)] (.int 0) := V2
  have br2 : r2.toInt = (p0.toInt / 100) % 100 := by rw [hr2, ex1, Int.neg_neg]
  have ex2 : y2.toInt = -(p0.toInt / 10000) := by rw [hy2, ex1, Int.neg_neg, Int.ediv_ediv_of_nonneg (by decide)]; rfl
  refine own_gcT hx hw ST hZ hown hby step geo (x := y2) (p1 := (14 : Int32)) (c0 := (10 : Int32)) (c1 := (9 : Int32)) (c2 := (8 : Int32)) (Or.inr ⟨_, rfl, rfl⟩) (Or.inr ⟨_, rfl, rfl⟩) (i1 := 9) (i2 := 8) (by decide) (by decide) (by decide) rfl (by show 9 < 16; decide) (by decide) rfl (by show 8 < 16; decide) (by omega) hls2 X2 e2 N2 O2 K2 V2 ?_
  intro T3 lc3 ls3 h3 y3 r3 X3 e3 hls3 N3 O3 K3 V3 hy3 hr3
  replace V3 : Arv Z h3 o2 ka .byte (16 : Int32) [(.int 32), (.int 108), (.int 105), (.int 110), (.int 101), (.int 32), (.int 0), (.int 0), (.int ((48 : Int32) + (r3 / (10 : Int32)))), (.int ((48 : Int32) + (r3 % (10 : Int32)))), (.int ((48 : Int32) + (r2 / (10 : Int32)))), (.int ((48 : Int32) + (r2 % (10 : Int32)))), (.int ((48 : Int32) + (r1 / (10 : Int32)))), (.int ((48 : Int32) + (r1 % (10 : Int32)))), (.int 0), (.int 0)] (.int 0) := V3
  have br3 : r3.toInt = (p0.toInt / 10000) % 100 := by rw [hr3, ex2, Int.neg_neg]
  have ex3 : y3.toInt = -(p0.toInt / 1000000) := by rw [hy3, ex2, Int.neg_neg, Int.ediv_ediv_of_nonneg (by decide)]; rfl
  refine own_gcE2 hx hw ST hZ hown hby step geo (x := y3) (p1 := (14 : Int32)) (c0 := (8 : Int32)) (c1 := (7 : Int32)) (c2 := (6 : Int32)) (i1 := 7) (i2 := 6) (by decide) (by decide) rfl (by show 7 < 16; decide) (by decide) (by decide) rfl (by show 6 < 16; decide) (by omega) (by omega) hls3 X3 e3 N3 O3 K3 V3 ?_
  intro T4 lc4 ls4 h4 r4 X4 e4 N4 O4 K4 V4 hr4
  replace V4 : Arv Z h4 o2 ka .byte (16 : Int32) [(.int 32), (.int 108), (.int 105), (.int 110), (.int 101), (.int 32), (.int ((48 : Int32) + (r4 / (10 : Int32)))), (.int ((48 : Int32) + (r4 % (10 : Int32)))), (.int ((48 : Int32) + (r3 / (10 : Int32)))), (.int ((48 : Int32) + (r3 % (10 : Int32)))), (.int ((48 : Int32) + (r2 / (10 : Int32)))), (.int ((48 : Int32) + (r2 % (10 : Int32)))), (.int ((48 : Int32) + (r1 / (10 : Int32)))), (.int ((48 : Int32) + (r1 % (10 : Int32)))), (.int 0), (.int 0)] (.int 0) := V4
  have br4 : r4.toInt = (p0.toInt / 1000000) % 100 := by rw [hr4, ex3, Int.neg_neg]; omega
  exact ret (v := some (.int 6)) X4 (fun h => by rw [Bd.returns] at h; cases h) (fun fs hr => retI X4 hx Bd.returns (B d35_120) hr) e4 ⟨((48 : Int32) + (r4 / (10 : Int32))), ((48 : Int32) + (r4 % (10 : Int32))), ((48 : Int32) + (r3 / (10 : Int32))), ((48 : Int32) + (r3 % (10 : Int32))), ((48 : Int32) + (r2 / (10 : Int32))), ((48 : Int32) + (r2 % (10 : Int32))), ((48 : Int32) + (r1 / (10 : Int32))), ((48 : Int32) + (r1 % (10 : Int32))), rfl, N4, K4, V4, ⟨(own_dT (own_pos hp) (P := (10000000 : Int32)) (m := 1000000) (by decide) (by decide) (by decide) br4), (own_dO (own_pos hp) (P := (1000000 : Int32)) (m := 1000000) (by decide) (by decide) (by decide) br4), (own_dT (own_pos hp) (P := (100000 : Int32)) (m := 10000) (by decide) (by decide) (by decide) br3), (own_dO (own_pos hp) (P := (10000 : Int32)) (m := 10000) (by decide) (by decide) (by decide) br3), (own_dT (own_pos hp) (P := (1000 : Int32)) (m := 100) (by decide) (by decide) (by decide) br2), (own_dO (own_pos hp) (P := (100 : Int32)) (m := 100) (by decide) (by decide) (by decide) br2), (own_dT (own_pos hp) (P := (10 : Int32)) (m := 1) (by decide) (by decide) (by decide) br1), (own_dO (own_pos hp) (P := (1 : Int32)) (m := 1) (by decide) (by decide) (by decide) br1)⟩⟩ (by decide) (by decide)
abbrev rr_gc9 : Room := { frames := 0, cells := 0, slots := 0, locals := 0 }
theorem ef_gc9 (m : MethodId) (p0 : Int32) (o2 : Addr) : entryFrame m #[(.int p0), (.int 15), (.ref o2)] 7 = mkF m 0 #[vI p0, vI 15, vR o2, u_, u_, u_, u_] [] := by first | (simp [entryFrame, mkF, argsToLocals, Value.category]; done) | rfl
def Q_gc9 (Z : State) (w_0 w_1 : Addr) (w_2 : Int32) (w_3 : Value) (p0 : Int32) (o2 : Addr) (ka : ClassId) (h0 : Heap) (n0 : Nat) (v : Option Value) (h : Heap) (L : List Loc) : Prop := ∃ d0 : Int32, ∃ d1 : Int32, ∃ d2 : Int32, ∃ d3 : Int32, ∃ d4 : Int32, ∃ d5 : Int32, ∃ d6 : Int32, ∃ d7 : Int32, ∃ d8 : Int32, v = some (.int 6) ∧ Fr n0 L ∧ Keep h0 h [o2] ∧ Arv Z h o2 ka .byte (16 : Int32) [(.int 32), (.int 108), (.int 105), (.int 110), (.int 101), (.int 32), (.int d0), (.int d1), (.int d2), (.int d3), (.int d4), (.int d5), (.int d6), (.int d7), (.int d8), (.int 0)] (.int 0) ∧ d0 = own_d p0 (100000000 : Int32) ∧ d1 = own_d p0 (10000000 : Int32) ∧ d2 = own_d p0 (1000000 : Int32) ∧ d3 = own_d p0 (100000 : Int32) ∧ d4 = own_d p0 (10000 : Int32) ∧ d5 = own_d p0 (1000 : Int32) ∧ d6 = own_d p0 (100 : Int32) ∧ d7 = own_d p0 (10 : Int32) ∧ d8 = own_d p0 (1 : Int32)
theorem rm_gc9 (l : Launch) (Z : State) (a0 : Array Value) (hw : HW Z a0) (ws : List Jvm.Cond) (w_0 w_1 : Addr) (w_2 : Int32) (w_3 : Value) (p0 : Int32) (o2 : Addr) (ka : ClassId) (h0 : Heap) (n0 : Nat) (Z0 : n0 ≤ h0.size) (ST : own_St Z w_0 w_1 w_2 w_3) (O0 : Old Z n0 h0) (hp : (0 : Int32) < p0) (hlo : 100000000 ≤ p0.toInt ∧ p0.toInt < 1000000000) (Va : Arv Z h0 o2 ka .byte (16 : Int32) [(.int 32), (.int 108), (.int 105), (.int 110), (.int 101), (.int 32), (.int 0), (.int 0), (.int 0), (.int 0), (.int 0), (.int 0), (.int 0), (.int 0), (.int 0), (.int 0)] (.int 0)) (geo : n0 ≤ o2) :
    own_Met l y_35 jdk_33_method_12_code 7 (some .int) ws rr_gc9 Z #[(.int p0), (.int 15), (.ref o2)] h0 (Q_gc9 Z w_0 w_1 w_2 w_3 p0 o2 ka h0 n0) := by
  refine MetFree.of_bodySF (plainFor_of_name pn_7) hisR ?_
  intro p e s m args below meth c s₁ Bd hml0 hP hK
  obtain ⟨rfl, hZ, hh⟩ := hP
  have hx := Bd.exec
  have hby := Bd.bytes
  have B := @hb _ _ hby
  have hml : c.maxLocals = 7 := hml0
  have hown : s.vm.findClass cn_7 = some m.cls := findClass_of_methodNamed Bd.named
  have X0 : Stand p l e rr_gc9 s m #[(.int p0), (.int 15), (.ref o2)] below meth c s₁ [] 0 0 := Stand.of_body Bd
  have e0 : s₁.heap = h0 := by rw [← hh, Bd.state]; rfl
  have N0 := Fr.nil n0
  have K0 : Keep h0 h0 [o2] := Keep.refl _ _
  obtain ⟨G, step, ret, fin⟩ := own_openX X0 (rr_gc9.cells) (rr_gc9.slots) (Q_gc9 Z w_0 w_1 w_2 w_3 p0 o2 ka h0 n0) Bd.notSynchronized
  refine fin (g := entryFrame m #[(.int p0), (.int 15), (.ref o2)] 7) ?_
  rw [ef_gc9 m p0 o2]
  obtain ⟨ls0, hls0⟩ := own_sl #[vI p0, vI 15, vR o2, u_, u_, u_, u_]
  suffices hG0 : G s₁ (mkF m 0 ls0 []) by rw [hls0] at hG0; exact hG0
  refine own_gcS hx hby step hp (p1 := (15 : Int32)) hls0 X0 ?_
  intro lsa x0 hlsa ex0
  refine own_gcT hx hw ST hZ hown hby step geo (x := x0) (p1 := (15 : Int32)) (c0 := (15 : Int32)) (c1 := (14 : Int32)) (c2 := (13 : Int32)) (Or.inl rfl) (Or.inl rfl) (i1 := 14) (i2 := 13) (by decide) (by decide) (by decide) rfl (by show 14 < 16; decide) (by decide) rfl (by show 13 < 16; decide) (by omega) hlsa X0 e0 N0 O0 K0 Va ?_
  intro T1 lc1 ls1 h1 y1 r1 X1 e1 hls1 N1 O1 K1 V1 hy1 hr1
  replace V1 : Arv Z h1 o2 ka .byte (16 : Int32) [(.int 32), (.int 108), (.int 105), (.int 110), (.int 101), (.int 32), (.int 0), (.int 0), (.int 0), (.int 0), (.int 0), (.int 0), (.int 0), (.int ((48 : Int32) + (r1 / (10 : Int32)))), (.int ((48 : Int32) + (r1 % (10 : Int32)))), (.int 0)] (.int 0) := V1
  have br1 : r1.toInt = (p0.toInt / 1) % 100 := by rw [hr1, ex0, Int.neg_neg]
  have ex1 : y1.toInt = -(p0.toInt / 100) := by rw [hy1, ex0, Int.neg_neg, Int.ediv_ediv_of_nonneg (by decide)]; rfl
  refine own_gcT hx hw ST hZ hown hby step geo (x := y1) (p1 := (15 : Int32)) (c0 := (13 : Int32)) (c1 := (12 : Int32)) (c2 := (11 : Int32)) (Or.inr ⟨_, rfl, rfl⟩) (Or.inr ⟨_, rfl, rfl⟩) (i1 := 12) (i2 := 11) (by decide) (by decide) (by decide) rfl (by show 12 < 16; decide) (by decide) rfl (by show 11 < 16; decide) (by omega) hls1 X1 e1 N1 O1 K1 V1 ?_
  intro T2 lc2 ls2 h2 y2 r2 X2 e2 hls2 N2 O2 K2 V2 hy2 hr2
  replace V2 : Arv Z h2 o2 ka .byte (16 : Int32) [(.int 32), (.int 108), (.int 105), (.int 110), (.int 101), (.int 32), (.int 0), (.int 0), (.int 0), (.int 0), (.int 0), (.int ((48 : Int32) + (r2 / (10 : Int32)))), (.int ((48 : Int32) + (r2 % (10 : Int32)))), (.int ((48 : Int32) + (r1 / (10 : Int32)))), (.int ((48 : Int32) + (r1 % (10 : Int32)))), (.int 0)] (.int 0) := V2
  have br2 : r2.toInt = (p0.toInt / 100) % 100 := by rw [hr2, ex1, Int.neg_neg]
  have ex2 : y2.toInt = -(p0.toInt / 10000) := by rw [hy2, ex1, Int.neg_neg, Int.ediv_ediv_of_nonneg (by decide)]; rfl
  refine own_gcT hx hw ST hZ hown hby step geo (x := y2) (p1 := (15 : Int32)) (c0 := (11 : Int32)) (c1 := (10 : Int32)) (c2 := (9 : Int32)) (Or.inr ⟨_, rfl, rfl⟩) (Or.inr ⟨_, rfl, rfl⟩) (i1 := 10) (i2 := 9) (by decide) (by decide) (by decide) rfl (by show 10 < 16; decide) (by decide) rfl (by show 9 < 16; decide) (by omega) hls2 X2 e2 N2 O2 K2 V2 ?_
  intro T3 lc3 ls3 h3 y3 r3 X3 e3 hls3 N3 O3 K3 V3 hy3 hr3
  replace V3 : Arv Z h3 o2 ka .byte (16 : Int32) [(.int 32), (.int 108), (.int 105), (.int 110), (.int 101), (.int 32), (.int 0), (.int 0), (.int 0), (.int ((48 : Int32) + (r3 / (10 : Int32)))), (.int ((48 : Int32) + (r3 % (10 : Int32)))), (.int ((48 : Int32) + (r2 / (10 : Int32)))), (.int ((48 : Int32) + (r2 % (10 : Int32)))), (.int ((48 : Int32) + (r1 / (10 : Int32)))), (.int ((48 : Int32) + (r1 % (10 : Int32)))), (.int 0)] (.int 0) := V3
  have br3 : r3.toInt = (p0.toInt / 10000) % 100 := by rw [hr3, ex2, Int.neg_neg]
  have ex3 : y3.toInt = -(p0.toInt / 1000000) := by rw [hy3, ex2, Int.neg_neg, Int.ediv_ediv_of_nonneg (by decide)]; rfl
  refine own_gcT hx hw ST hZ hown hby step geo (x := y3) (p1 := (15 : Int32)) (c0 := (9 : Int32)) (c1 := (8 : Int32)) (c2 := (7 : Int32)) (Or.inr ⟨_, rfl, rfl⟩) (Or.inr ⟨_, rfl, rfl⟩) (i1 := 8) (i2 := 7) (by decide) (by decide) (by decide) rfl (by show 8 < 16; decide) (by decide) rfl (by show 7 < 16; decide) (by omega) hls3 X3 e3 N3 O3 K3 V3 ?_
  intro T4 lc4 ls4 h4 y4 r4 X4 e4 hls4 N4 O4 K4 V4 hy4 hr4
  replace V4 : Arv Z h4 o2 ka .byte (16 : Int32) [(.int 32), (.int 108), (.int 105), (.int 110), (.int 101), (.int 32), (.int 0), (.int ((48 : Int32) + (r4 / (10 : Int32)))), (.int ((48 : Int32) + (r4 % (10 : Int32)))), (.int ((48 : Int32) + (r3 / (10 : Int32)))), (.int ((48 : Int32) + (r3 % (10 : Int32)))), (.int ((48 : Int32) + (r2 / (10 : Int32)))), (.int ((48 : Int32) + (r2 % (10 : Int32)))), (.int ((48 : Int32) + (r1 / (10 : Int32)))), (.int ((48 : Int32) + (r1 % (10 : Int32)))), (.int 0)] (.int 0) := V4
  have br4 : r4.toInt = (p0.toInt / 1000000) % 100 := by rw [hr4, ex3, Int.neg_neg]
  have ex4 : y4.toInt = -(p0.toInt / 100000000) := by rw [hy4, ex3, Int.neg_neg, Int.ediv_ediv_of_nonneg (by decide)]; rfl
  refine own_gcE1 hx hw ST hZ hown hby step geo (x := y4) (p1 := (15 : Int32)) (c0 := (7 : Int32)) (c1 := (6 : Int32)) (i1 := 6) (by decide) (by decide) rfl (by show 6 < 16; decide) (by omega) (by omega) hls4 X4 e4 N4 O4 K4 V4 ?_
  intro T5 lc5 ls5 h5 r5 X5 e5 N5 O5 K5 V5 hr5
  replace V5 : Arv Z h5 o2 ka .byte (16 : Int32) [(.int 32), (.int 108), (.int 105), (.int 110), (.int 101), (.int 32), (.int ((48 : Int32) + (r5 % (10 : Int32)))), (.int ((48 : Int32) + (r4 / (10 : Int32)))), (.int ((48 : Int32) + (r4 % (10 : Int32)))), (.int ((48 : Int32) + (r3 / (10 : Int32)))), (.int ((48 : Int32) + (r3 % (10 : Int32)))), (.int ((48 : Int32) + (r2 / (10 : Int32)))), (.int ((48 : Int32) + (r2 % (10 : Int32)))), (.int ((48 : Int32) + (r1 / (10 : Int32)))), (.int ((48 : Int32) + (r1 % (10 : Int32)))), (.int 0)] (.int 0) := V5
  have br5 : r5.toInt = (p0.toInt / 100000000) % 100 := by rw [hr5, ex4, Int.neg_neg]; omega
  exact ret (v := some (.int 6)) X5 (fun h => by rw [Bd.returns] at h; cases h) (fun fs hr => retI X5 hx Bd.returns (B d35_120) hr) e5 ⟨((48 : Int32) + (r5 % (10 : Int32))), ((48 : Int32) + (r4 / (10 : Int32))), ((48 : Int32) + (r4 % (10 : Int32))), ((48 : Int32) + (r3 / (10 : Int32))), ((48 : Int32) + (r3 % (10 : Int32))), ((48 : Int32) + (r2 / (10 : Int32))), ((48 : Int32) + (r2 % (10 : Int32))), ((48 : Int32) + (r1 / (10 : Int32))), ((48 : Int32) + (r1 % (10 : Int32))), rfl, N5, K5, V5, ⟨(own_dO (own_pos hp) (P := (100000000 : Int32)) (m := 100000000) (by decide) (by decide) (by decide) br5), (own_dT (own_pos hp) (P := (10000000 : Int32)) (m := 1000000) (by decide) (by decide) (by decide) br4), (own_dO (own_pos hp) (P := (1000000 : Int32)) (m := 1000000) (by decide) (by decide) (by decide) br4), (own_dT (own_pos hp) (P := (100000 : Int32)) (m := 10000) (by decide) (by decide) (by decide) br3), (own_dO (own_pos hp) (P := (10000 : Int32)) (m := 10000) (by decide) (by decide) (by decide) br3), (own_dT (own_pos hp) (P := (1000 : Int32)) (m := 100) (by decide) (by decide) (by decide) br2), (own_dO (own_pos hp) (P := (100 : Int32)) (m := 100) (by decide) (by decide) (by decide) br2), (own_dT (own_pos hp) (P := (10 : Int32)) (m := 1) (by decide) (by decide) (by decide) br1), (own_dO (own_pos hp) (P := (1 : Int32)) (m := 1) (by decide) (by decide) (by decide) br1)⟩⟩ (by decide) (by decide)
abbrev rr_gc10 : Room := { frames := 0, cells := 0, slots := 0, locals := 0 }
theorem ef_gc10 (m : MethodId) (p0 : Int32) (o2 : Addr) : entryFrame m #[(.int p0), (.int 16), (.ref o2)] 7 = mkF m 0 #[vI p0, vI 16, vR o2, u_, u_, u_, u_] [] := by first | (simp [entryFrame, mkF, argsToLocals, Value.category]; done) | rfl
def Q_gc10 (Z : State) (w_0 w_1 : Addr) (w_2 : Int32) (w_3 : Value) (p0 : Int32) (o2 : Addr) (ka : ClassId) (h0 : Heap) (n0 : Nat) (v : Option Value) (h : Heap) (L : List Loc) : Prop := ∃ d0 : Int32, ∃ d1 : Int32, ∃ d2 : Int32, ∃ d3 : Int32, ∃ d4 : Int32, ∃ d5 : Int32, ∃ d6 : Int32, ∃ d7 : Int32, ∃ d8 : Int32, ∃ d9 : Int32, v = some (.int 6) ∧ Fr n0 L ∧ Keep h0 h [o2] ∧ Arv Z h o2 ka .byte (16 : Int32) [(.int 32), (.int 108), (.int 105), (.int 110), (.int 101), (.int 32), (.int d0), (.int d1), (.int d2), (.int d3), (.int d4), (.int d5), (.int d6), (.int d7), (.int d8), (.int d9)] (.int 0) ∧ d0 = own_d p0 (1000000000 : Int32) ∧ d1 = own_d p0 (100000000 : Int32) ∧ d2 = own_d p0 (10000000 : Int32) ∧ d3 = own_d p0 (1000000 : Int32) ∧ d4 = own_d p0 (100000 : Int32) ∧ d5 = own_d p0 (10000 : Int32) ∧ d6 = own_d p0 (1000 : Int32) ∧ d7 = own_d p0 (100 : Int32) ∧ d8 = own_d p0 (10 : Int32) ∧ d9 = own_d p0 (1 : Int32)
theorem rm_gc10 (l : Launch) (Z : State) (a0 : Array Value) (hw : HW Z a0) (ws : List Jvm.Cond) (w_0 w_1 : Addr) (w_2 : Int32) (w_3 : Value) (p0 : Int32) (o2 : Addr) (ka : ClassId) (h0 : Heap) (n0 : Nat) (Z0 : n0 ≤ h0.size) (ST : own_St Z w_0 w_1 w_2 w_3) (O0 : Old Z n0 h0) (hp : (0 : Int32) < p0) (hlo : 1000000000 ≤ p0.toInt ∧ p0.toInt < 2147483648) (Va : Arv Z h0 o2 ka .byte (16 : Int32) [(.int 32), (.int 108), (.int 105), (.int 110), (.int 101), (.int 32), (.int 0), (.int 0), (.int 0), (.int 0), (.int 0), (.int 0), (.int 0), (.int 0), (.int 0), (.int 0)] (.int 0)) (geo : n0 ≤ o2) :
    own_Met l y_35 jdk_33_method_12_code 7 (some .int) ws rr_gc10 Z #[(.int p0), (.int 16), (.ref o2)] h0 (Q_gc10 Z w_0 w_1 w_2 w_3 p0 o2 ka h0 n0) := by
  refine MetFree.of_bodySF (plainFor_of_name pn_7) hisR ?_
  intro p e s m args below meth c s₁ Bd hml0 hP hK
  obtain ⟨rfl, hZ, hh⟩ := hP
  have hx := Bd.exec
  have hby := Bd.bytes
  have B := @hb _ _ hby
  have hml : c.maxLocals = 7 := hml0
  have hown : s.vm.findClass cn_7 = some m.cls := findClass_of_methodNamed Bd.named
  have X0 : Stand p l e rr_gc10 s m #[(.int p0), (.int 16), (.ref o2)] below meth c s₁ [] 0 0 := Stand.of_body Bd
  have e0 : s₁.heap = h0 := by rw [← hh, Bd.state]; rfl
  have N0 := Fr.nil n0
  have K0 : Keep h0 h0 [o2] := Keep.refl _ _
  obtain ⟨G, step, ret, fin⟩ := own_openX X0 (rr_gc10.cells) (rr_gc10.slots) (Q_gc10 Z w_0 w_1 w_2 w_3 p0 o2 ka h0 n0) Bd.notSynchronized
  refine fin (g := entryFrame m #[(.int p0), (.int 16), (.ref o2)] 7) ?_
  rw [ef_gc10 m p0 o2]
  obtain ⟨ls0, hls0⟩ := own_sl #[vI p0, vI 16, vR o2, u_, u_, u_, u_]
  suffices hG0 : G s₁ (mkF m 0 ls0 []) by rw [hls0] at hG0; exact hG0
  refine own_gcS hx hby step hp (p1 := (16 : Int32)) hls0 X0 ?_
  intro lsa x0 hlsa ex0
  refine own_gcT hx hw ST hZ hown hby step geo (x := x0) (p1 := (16 : Int32)) (c0 := (16 : Int32)) (c1 := (15 : Int32)) (c2 := (14 : Int32)) (Or.inl rfl) (Or.inl rfl) (i1 := 15) (i2 := 14) (by decide) (by decide) (by decide) rfl (by show 15 < 16; decide) (by decide) rfl (by show 14 < 16; decide) (by omega) hlsa X0 e0 N0 O0 K0 Va ?_
  intro T1 lc1 ls1 h1 y1 r1 X1 e1 hls1 N1 O1 K1 V1 hy1 hr1
  replace V1 : Arv Z h1 o2 ka .byte (16 : Int32) [(.int 32), (.int 108), (.int 105), (.int 110), (.int 101), (.int 32), (.int 0), (.int 0), (.int 0), (.int 0), (.int 0), (.int 0), (.int 0), (.int 0), (.int ((48 : Int32) + (r1 / (10 : Int32)))), (.int ((48 : Int32) + (r1 % (10 : Int32))))] (.int 0) := V1
  have br1 : r1.toInt = (p0.toInt / 1) % 100 := by rw [hr1, ex0, Int.neg_neg]
  have ex1 : y1.toInt = -(p0.toInt / 100) := by rw [hy1, ex0, Int.neg_neg, Int.ediv_ediv_of_nonneg (by decide)]; rfl
  refine own_gcT hx hw ST hZ hown hby step geo (x := y1) (p1 := (16 : Int32)) (c0 := (14 : Int32)) (c1 := (13 : Int32)) (c2 := (12 : Int32)) (Or.inr ⟨_, rfl, rfl⟩) (Or.inr ⟨_, rfl, rfl⟩) (i1 := 13) (i2 := 12) (by decide) (by decide) (by decide) rfl (by show 13 < 16; decide) (by decide) rfl (by show 12 < 16; decide) (by omega) hls1 X1 e1 N1 O1 K1 V1 ?_
  intro T2 lc2 ls2 h2 y2 r2 X2 e2 hls2 N2 O2 K2 V2 hy2 hr2
  replace V2 : Arv Z h2 o2 ka .byte (16 : Int32) [(.int 32), (.int 108), (.int 105), (.int 110), (.int 101), (.int 32), (.int 0), (.int 0), (.int 0), (.int 0), (.int 0), (.int 0), (.int ((48 : Int32) + (r2 / (10 : Int32)))), (.int ((48 : Int32) + (r2 % (10 : Int32)))), (.int ((48 : Int32) + (r1 / (10 : Int32)))), (.int ((48 : Int32) + (r1 % (10 : Int32))))] (.int 0) := V2
  have br2 : r2.toInt = (p0.toInt / 100) % 100 := by rw [hr2, ex1, Int.neg_neg]
  have ex2 : y2.toInt = -(p0.toInt / 10000) := by rw [hy2, ex1, Int.neg_neg, Int.ediv_ediv_of_nonneg (by decide)]; rfl
  refine own_gcT hx hw ST hZ hown hby step geo (x := y2) (p1 := (16 : Int32)) (c0 := (12 : Int32)) (c1 := (11 : Int32)) (c2 := (10 : Int32)) (Or.inr ⟨_, rfl, rfl⟩) (Or.inr ⟨_, rfl, rfl⟩) (i1 := 11) (i2 := 10) (by decide) (by decide) (by decide) rfl (by show 11 < 16; decide) (by decide) rfl (by show 10 < 16; decide) (by omega) hls2 X2 e2 N2 O2 K2 V2 ?_
  intro T3 lc3 ls3 h3 y3 r3 X3 e3 hls3 N3 O3 K3 V3 hy3 hr3
  replace V3 : Arv Z h3 o2 ka .byte (16 : Int32) [(.int 32), (.int 108), (.int 105), (.int 110), (.int 101), (.int 32), (.int 0), (.int 0), (.int 0), (.int 0), (.int ((48 : Int32) + (r3 / (10 : Int32)))), (.int ((48 : Int32) + (r3 % (10 : Int32)))), (.int ((48 : Int32) + (r2 / (10 : Int32)))), (.int ((48 : Int32) + (r2 % (10 : Int32)))), (.int ((48 : Int32) + (r1 / (10 : Int32)))), (.int ((48 : Int32) + (r1 % (10 : Int32))))] (.int 0) := V3
  have br3 : r3.toInt = (p0.toInt / 10000) % 100 := by rw [hr3, ex2, Int.neg_neg]
  have ex3 : y3.toInt = -(p0.toInt / 1000000) := by rw [hy3, ex2, Int.neg_neg, Int.ediv_ediv_of_nonneg (by decide)]; rfl
  refine own_gcT hx hw ST hZ hown hby step geo (x := y3) (p1 := (16 : Int32)) (c0 := (10 : Int32)) (c1 := (9 : Int32)) (c2 := (8 : Int32)) (Or.inr ⟨_, rfl, rfl⟩) (Or.inr ⟨_, rfl, rfl⟩) (i1 := 9) (i2 := 8) (by decide) (by decide) (by decide) rfl (by show 9 < 16; decide) (by decide) rfl (by show 8 < 16; decide) (by omega) hls3 X3 e3 N3 O3 K3 V3 ?_
  intro T4 lc4 ls4 h4 y4 r4 X4 e4 hls4 N4 O4 K4 V4 hy4 hr4
  replace V4 : Arv Z h4 o2 ka .byte (16 : Int32) [(.int 32), (.int 108), (.int 105), (.int 110), (.int 101), (.int 32), (.int 0), (.int 0), (.int ((48 : Int32) + (r4 / (10 : Int32)))), (.int ((48 : Int32) + (r4 % (10 : Int32)))), (.int ((48 : Int32) + (r3 / (10 : Int32)))), (.int ((48 : Int32) + (r3 % (10 : Int32)))), (.int ((48 : Int32) + (r2 / (10 : Int32)))), (.int ((48 : Int32) + (r2 % (10 : Int32)))), (.int ((48 : Int32) + (r1 / (10 : Int32)))), (.int ((48 : Int32) + (r1 % (10 : Int32))))] (.int 0) := V4
  have br4 : r4.toInt = (p0.toInt / 1000000) % 100 := by rw [hr4, ex3, Int.neg_neg]
  have ex4 : y4.toInt = -(p0.toInt / 100000000) := by rw [hy4, ex3, Int.neg_neg, Int.ediv_ediv_of_nonneg (by decide)]; rfl
  refine own_gcE2 hx hw ST hZ hown hby step geo (x := y4) (p1 := (16 : Int32)) (c0 := (8 : Int32)) (c1 := (7 : Int32)) (c2 := (6 : Int32)) (i1 := 7) (i2 := 6) (by decide) (by decide) rfl (by show 7 < 16; decide) (by decide) (by decide) rfl (by show 6 < 16; decide) (by omega) (by omega) hls4 X4 e4 N4 O4 K4 V4 ?_
  intro T5 lc5 ls5 h5 r5 X5 e5 N5 O5 K5 V5 hr5
  replace V5 : Arv Z h5 o2 ka .byte (16 : Int32) [(.int 32), (.int 108), (.int 105), (.int 110), (.int 101), (.int 32), (.int ((48 : Int32) + (r5 / (10 : Int32)))), (.int ((48 : Int32) + (r5 % (10 : Int32)))), (.int ((48 : Int32) + (r4 / (10 : Int32)))), (.int ((48 : Int32) + (r4 % (10 : Int32)))), (.int ((48 : Int32) + (r3 / (10 : Int32)))), (.int ((48 : Int32) + (r3 % (10 : Int32)))), (.int ((48 : Int32) + (r2 / (10 : Int32)))), (.int ((48 : Int32) + (r2 % (10 : Int32)))), (.int ((48 : Int32) + (r1 / (10 : Int32)))), (.int ((48 : Int32) + (r1 % (10 : Int32))))] (.int 0) := V5
  have br5 : r5.toInt = (p0.toInt / 100000000) % 100 := by rw [hr5, ex4, Int.neg_neg]; omega
  exact ret (v := some (.int 6)) X5 (fun h => by rw [Bd.returns] at h; cases h) (fun fs hr => retI X5 hx Bd.returns (B d35_120) hr) e5 ⟨((48 : Int32) + (r5 / (10 : Int32))), ((48 : Int32) + (r5 % (10 : Int32))), ((48 : Int32) + (r4 / (10 : Int32))), ((48 : Int32) + (r4 % (10 : Int32))), ((48 : Int32) + (r3 / (10 : Int32))), ((48 : Int32) + (r3 % (10 : Int32))), ((48 : Int32) + (r2 / (10 : Int32))), ((48 : Int32) + (r2 % (10 : Int32))), ((48 : Int32) + (r1 / (10 : Int32))), ((48 : Int32) + (r1 % (10 : Int32))), rfl, N5, K5, V5, ⟨(own_dT (own_pos hp) (P := (1000000000 : Int32)) (m := 100000000) (by decide) (by decide) (by decide) br5), (own_dO (own_pos hp) (P := (100000000 : Int32)) (m := 100000000) (by decide) (by decide) (by decide) br5), (own_dT (own_pos hp) (P := (10000000 : Int32)) (m := 1000000) (by decide) (by decide) (by decide) br4), (own_dO (own_pos hp) (P := (1000000 : Int32)) (m := 1000000) (by decide) (by decide) (by decide) br4), (own_dT (own_pos hp) (P := (100000 : Int32)) (m := 10000) (by decide) (by decide) (by decide) br3), (own_dO (own_pos hp) (P := (10000 : Int32)) (m := 10000) (by decide) (by decide) (by decide) br3), (own_dT (own_pos hp) (P := (1000 : Int32)) (m := 100) (by decide) (by decide) (by decide) br2), (own_dO (own_pos hp) (P := (100 : Int32)) (m := 100) (by decide) (by decide) (by decide) br2), (own_dT (own_pos hp) (P := (10 : Int32)) (m := 1) (by decide) (by decide) (by decide) br1), (own_dO (own_pos hp) (P := (1 : Int32)) (m := 1) (by decide) (by decide) (by decide) br1)⟩⟩ (by decide) (by decide)
def own_dl (p n : Int32) (ds : List Int32) : Prop := own_sz p n ∧ ds = own_dgs n.toNatClampNeg p
theorem own_lod {p P : Int32} {m : Int} (hp : (0 : Int32) < p) (hP : P.toInt = m) (hm : 0 < m) (h1 : P ≠ -1) : own_lo (own_d p P) = own_d p P := by
  have e := own_di (own_pos hp) hP hm h1
  exact own_nd (by omega)
theorem own_lad {p P : Int32} {m : Int} (hp : (0 : Int32) < p) (hP : P.toInt = m) (hm : 0 < m) (h1 : P ≠ -1) : ¬ own_d p P < 0 ∧ ¬ (255 : Int32) < own_d p P := by
  have e := own_di (own_pos hp) hP hm h1
  have k0 : (0 : Int32).toInt = 0 := by decide
  have k1 : (255 : Int32).toInt = 255 := by decide
  rw [own_xlt, own_xlt]
  omega
theorem own_cv0 {Z : State} {h : Heap} {a : Addr} {ka : ClassId} (V : Arv Z h a ka .byte (16 : Int32) (own_by own_L) (.int 0)) : Arv Z h a ka .byte (16 : Int32) [(.int 32), (.int 108), (.int 105), (.int 110), (.int 101), (.int 32), (.int 0), (.int 0), (.int 0), (.int 0), (.int 0), (.int 0), (.int 0), (.int 0), (.int 0), (.int 0)] (.int 0) := V.pad (pad_rep [(.int 32), (.int 108), (.int 105), (.int 110), (.int 101), (.int 32)] (.int 0) 10)
theorem own_cv1 {Z : State} {h : Heap} {a : Addr} {ka : ClassId} {p0 : Int32} (hp : (0 : Int32) < p0) (V : Arv Z h a ka .byte (16 : Int32) [(.int 32), (.int 108), (.int 105), (.int 110), (.int 101), (.int 32), (.int (own_d p0 (1 : Int32))), (.int 0), (.int 0), (.int 0), (.int 0), (.int 0), (.int 0), (.int 0), (.int 0), (.int 0)] (.int 0)) : Arv Z h a ka .byte (16 : Int32) (own_by (own_L ++ own_dgs 1 p0)) (.int 0) := by
  have e : own_by (own_L ++ own_dgs 1 p0) = [(.int 32), (.int 108), (.int 105), (.int 110), (.int 101), (.int 32), (.int (own_d p0 (1 : Int32)))] := by
    show [Value.int (own_lo (32 : Int32)), Value.int (own_lo (108 : Int32)), Value.int (own_lo (105 : Int32)), Value.int (own_lo (110 : Int32)), Value.int (own_lo (101 : Int32)), Value.int (own_lo (32 : Int32)), Value.int (own_lo (own_d p0 (1 : Int32)))] = _
    rw [own_lod hp (P := (1 : Int32)) (m := 1) (by decide) (by decide) (by decide)]
    rfl
  rw [e]
  exact V.pad (fun i => (pad_rep [(.int 32), (.int 108), (.int 105), (.int 110), (.int 101), (.int 32), (.int (own_d p0 (1 : Int32)))] (.int 0) 9 i).symm)
theorem own_cv2 {Z : State} {h : Heap} {a : Addr} {ka : ClassId} {p0 : Int32} (hp : (0 : Int32) < p0) (V : Arv Z h a ka .byte (16 : Int32) [(.int 32), (.int 108), (.int 105), (.int 110), (.int 101), (.int 32), (.int (own_d p0 (10 : Int32))), (.int (own_d p0 (1 : Int32))), (.int 0), (.int 0), (.int 0), (.int 0), (.int 0), (.int 0), (.int 0), (.int 0)] (.int 0)) : Arv Z h a ka .byte (16 : Int32) (own_by (own_L ++ own_dgs 2 p0)) (.int 0) := by
  have e : own_by (own_L ++ own_dgs 2 p0) = [(.int 32), (.int 108), (.int 105), (.int 110), (.int 101), (.int 32), (.int (own_d p0 (10 : Int32))), (.int (own_d p0 (1 : Int32)))] := by
    show [Value.int (own_lo (32 : Int32)), Value.int (own_lo (108 : Int32)), Value.int (own_lo (105 : Int32)), Value.int (own_lo (110 : Int32)), Value.int (own_lo (101 : Int32)), Value.int (own_lo (32 : Int32)), Value.int (own_lo (own_d p0 (10 : Int32))), Value.int (own_lo (own_d p0 (1 : Int32)))] = _
    rw [own_lod hp (P := (10 : Int32)) (m := 10) (by decide) (by decide) (by decide), own_lod hp (P := (1 : Int32)) (m := 1) (by decide) (by decide) (by decide)]
    rfl
  rw [e]
  exact V.pad (fun i => (pad_rep [(.int 32), (.int 108), (.int 105), (.int 110), (.int 101), (.int 32), (.int (own_d p0 (10 : Int32))), (.int (own_d p0 (1 : Int32)))] (.int 0) 8 i).symm)
theorem own_cv3 {Z : State} {h : Heap} {a : Addr} {ka : ClassId} {p0 : Int32} (hp : (0 : Int32) < p0) (V : Arv Z h a ka .byte (16 : Int32) [(.int 32), (.int 108), (.int 105), (.int 110), (.int 101), (.int 32), (.int (own_d p0 (100 : Int32))), (.int (own_d p0 (10 : Int32))), (.int (own_d p0 (1 : Int32))), (.int 0), (.int 0), (.int 0), (.int 0), (.int 0), (.int 0), (.int 0)] (.int 0)) : Arv Z h a ka .byte (16 : Int32) (own_by (own_L ++ own_dgs 3 p0)) (.int 0) := by
  have e : own_by (own_L ++ own_dgs 3 p0) = [(.int 32), (.int 108), (.int 105), (.int 110), (.int 101), (.int 32), (.int (own_d p0 (100 : Int32))), (.int (own_d p0 (10 : Int32))), (.int (own_d p0 (1 : Int32)))] := by
    show [Value.int (own_lo (32 : Int32)), Value.int (own_lo (108 : Int32)), Value.int (own_lo (105 : Int32)), Value.int (own_lo (110 : Int32)), Value.int (own_lo (101 : Int32)), Value.int (own_lo (32 : Int32)), Value.int (own_lo (own_d p0 (100 : Int32))), Value.int (own_lo (own_d p0 (10 : Int32))), Value.int (own_lo (own_d p0 (1 : Int32)))] = _
    rw [own_lod hp (P := (100 : Int32)) (m := 100) (by decide) (by decide) (by decide), own_lod hp (P := (10 : Int32)) (m := 10) (by decide) (by decide) (by decide), own_lod hp (P := (1 : Int32)) (m := 1) (by decide) (by decide) (by decide)]
    rfl
  rw [e]
  exact V.pad (fun i => (pad_rep [(.int 32), (.int 108), (.int 105), (.int 110), (.int 101), (.int 32), (.int (own_d p0 (100 : Int32))), (.int (own_d p0 (10 : Int32))), (.int (own_d p0 (1 : Int32)))] (.int 0) 7 i).symm)
theorem own_cv4 {Z : State} {h : Heap} {a : Addr} {ka : ClassId} {p0 : Int32} (hp : (0 : Int32) < p0) (V : Arv Z h a ka .byte (16 : Int32) [(.int 32), (.int 108), (.int 105), (.int 110), (.int 101), (.int 32), (.int (own_d p0 (1000 : Int32))), (.int (own_d p0 (100 : Int32))), (.int (own_d p0 (10 : Int32))), (.int (own_d p0 (1 : Int32))), (.int 0), (.int 0), (.int 0), (.int 0), (.int 0), (.int 0)] (.int 0)) : Arv Z h a ka .byte (16 : Int32) (own_by (own_L ++ own_dgs 4 p0)) (.int 0) := by
  have e : own_by (own_L ++ own_dgs 4 p0) = [(.int 32), (.int 108), (.int 105), (.int 110), (.int 101), (.int 32), (.int (own_d p0 (1000 : Int32))), (.int (own_d p0 (100 : Int32))), (.int (own_d p0 (10 : Int32))), (.int (own_d p0 (1 : Int32)))] := by
    show [Value.int (own_lo (32 : Int32)), Value.int (own_lo (108 : Int32)), Value.int (own_lo (105 : Int32)), Value.int (own_lo (110 : Int32)), Value.int (own_lo (101 : Int32)), Value.int (own_lo (32 : Int32)), Value.int (own_lo (own_d p0 (1000 : Int32))), Value.int (own_lo (own_d p0 (100 : Int32))), Value.int (own_lo (own_d p0 (10 : Int32))), Value.int (own_lo (own_d p0 (1 : Int32)))] = _
    rw [own_lod hp (P := (1000 : Int32)) (m := 1000) (by decide) (by decide) (by decide), own_lod hp (P := (100 : Int32)) (m := 100) (by decide) (by decide) (by decide), own_lod hp (P := (10 : Int32)) (m := 10) (by decide) (by decide) (by decide), own_lod hp (P := (1 : Int32)) (m := 1) (by decide) (by decide) (by decide)]
    rfl
  rw [e]
  exact V.pad (fun i => (pad_rep [(.int 32), (.int 108), (.int 105), (.int 110), (.int 101), (.int 32), (.int (own_d p0 (1000 : Int32))), (.int (own_d p0 (100 : Int32))), (.int (own_d p0 (10 : Int32))), (.int (own_d p0 (1 : Int32)))] (.int 0) 6 i).symm)
theorem own_cv5 {Z : State} {h : Heap} {a : Addr} {ka : ClassId} {p0 : Int32} (hp : (0 : Int32) < p0) (V : Arv Z h a ka .byte (16 : Int32) [(.int 32), (.int 108), (.int 105), (.int 110), (.int 101), (.int 32), (.int (own_d p0 (10000 : Int32))), (.int (own_d p0 (1000 : Int32))), (.int (own_d p0 (100 : Int32))), (.int (own_d p0 (10 : Int32))), (.int (own_d p0 (1 : Int32))), (.int 0), (.int 0), (.int 0), (.int 0), (.int 0)] (.int 0)) : Arv Z h a ka .byte (16 : Int32) (own_by (own_L ++ own_dgs 5 p0)) (.int 0) := by
  have e : own_by (own_L ++ own_dgs 5 p0) = [(.int 32), (.int 108), (.int 105), (.int 110), (.int 101), (.int 32), (.int (own_d p0 (10000 : Int32))), (.int (own_d p0 (1000 : Int32))), (.int (own_d p0 (100 : Int32))), (.int (own_d p0 (10 : Int32))), (.int (own_d p0 (1 : Int32)))] := by
    show [Value.int (own_lo (32 : Int32)), Value.int (own_lo (108 : Int32)), Value.int (own_lo (105 : Int32)), Value.int (own_lo (110 : Int32)), Value.int (own_lo (101 : Int32)), Value.int (own_lo (32 : Int32)), Value.int (own_lo (own_d p0 (10000 : Int32))), Value.int (own_lo (own_d p0 (1000 : Int32))), Value.int (own_lo (own_d p0 (100 : Int32))), Value.int (own_lo (own_d p0 (10 : Int32))), Value.int (own_lo (own_d p0 (1 : Int32)))] = _
    rw [own_lod hp (P := (10000 : Int32)) (m := 10000) (by decide) (by decide) (by decide), own_lod hp (P := (1000 : Int32)) (m := 1000) (by decide) (by decide) (by decide), own_lod hp (P := (100 : Int32)) (m := 100) (by decide) (by decide) (by decide), own_lod hp (P := (10 : Int32)) (m := 10) (by decide) (by decide) (by decide), own_lod hp (P := (1 : Int32)) (m := 1) (by decide) (by decide) (by decide)]
    rfl
  rw [e]
  exact V.pad (fun i => (pad_rep [(.int 32), (.int 108), (.int 105), (.int 110), (.int 101), (.int 32), (.int (own_d p0 (10000 : Int32))), (.int (own_d p0 (1000 : Int32))), (.int (own_d p0 (100 : Int32))), (.int (own_d p0 (10 : Int32))), (.int (own_d p0 (1 : Int32)))] (.int 0) 5 i).symm)
theorem own_cv6 {Z : State} {h : Heap} {a : Addr} {ka : ClassId} {p0 : Int32} (hp : (0 : Int32) < p0) (V : Arv Z h a ka .byte (16 : Int32) [(.int 32), (.int 108), (.int 105), (.int 110), (.int 101), (.int 32), (.int (own_d p0 (100000 : Int32))), (.int (own_d p0 (10000 : Int32))), (.int (own_d p0 (1000 : Int32))), (.int (own_d p0 (100 : Int32))), (.int (own_d p0 (10 : Int32))), (.int (own_d p0 (1 : Int32))), (.int 0), (.int 0), (.int 0), (.int 0)] (.int 0)) : Arv Z h a ka .byte (16 : Int32) (own_by (own_L ++ own_dgs 6 p0)) (.int 0) := by
  have e : own_by (own_L ++ own_dgs 6 p0) = [(.int 32), (.int 108), (.int 105), (.int 110), (.int 101), (.int 32), (.int (own_d p0 (100000 : Int32))), (.int (own_d p0 (10000 : Int32))), (.int (own_d p0 (1000 : Int32))), (.int (own_d p0 (100 : Int32))), (.int (own_d p0 (10 : Int32))), (.int (own_d p0 (1 : Int32)))] := by
    show [Value.int (own_lo (32 : Int32)), Value.int (own_lo (108 : Int32)), Value.int (own_lo (105 : Int32)), Value.int (own_lo (110 : Int32)), Value.int (own_lo (101 : Int32)), Value.int (own_lo (32 : Int32)), Value.int (own_lo (own_d p0 (100000 : Int32))), Value.int (own_lo (own_d p0 (10000 : Int32))), Value.int (own_lo (own_d p0 (1000 : Int32))), Value.int (own_lo (own_d p0 (100 : Int32))), Value.int (own_lo (own_d p0 (10 : Int32))), Value.int (own_lo (own_d p0 (1 : Int32)))] = _
    rw [own_lod hp (P := (100000 : Int32)) (m := 100000) (by decide) (by decide) (by decide), own_lod hp (P := (10000 : Int32)) (m := 10000) (by decide) (by decide) (by decide), own_lod hp (P := (1000 : Int32)) (m := 1000) (by decide) (by decide) (by decide), own_lod hp (P := (100 : Int32)) (m := 100) (by decide) (by decide) (by decide), own_lod hp (P := (10 : Int32)) (m := 10) (by decide) (by decide) (by decide), own_lod hp (P := (1 : Int32)) (m := 1) (by decide) (by decide) (by decide)]
    rfl
  rw [e]
  exact V.pad (fun i => (pad_rep [(.int 32), (.int 108), (.int 105), (.int 110), (.int 101), (.int 32), (.int (own_d p0 (100000 : Int32))), (.int (own_d p0 (10000 : Int32))), (.int (own_d p0 (1000 : Int32))), (.int (own_d p0 (100 : Int32))), (.int (own_d p0 (10 : Int32))), (.int (own_d p0 (1 : Int32)))] (.int 0) 4 i).symm)
theorem own_cv7 {Z : State} {h : Heap} {a : Addr} {ka : ClassId} {p0 : Int32} (hp : (0 : Int32) < p0) (V : Arv Z h a ka .byte (16 : Int32) [(.int 32), (.int 108), (.int 105), (.int 110), (.int 101), (.int 32), (.int (own_d p0 (1000000 : Int32))), (.int (own_d p0 (100000 : Int32))), (.int (own_d p0 (10000 : Int32))), (.int (own_d p0 (1000 : Int32))), (.int (own_d p0 (100 : Int32))), (.int (own_d p0 (10 : Int32))), (.int (own_d p0 (1 : Int32))), (.int 0), (.int 0), (.int 0)] (.int 0)) : Arv Z h a ka .byte (16 : Int32) (own_by (own_L ++ own_dgs 7 p0)) (.int 0) := by
  have e : own_by (own_L ++ own_dgs 7 p0) = [(.int 32), (.int 108), (.int 105), (.int 110), (.int 101), (.int 32), (.int (own_d p0 (1000000 : Int32))), (.int (own_d p0 (100000 : Int32))), (.int (own_d p0 (10000 : Int32))), (.int (own_d p0 (1000 : Int32))), (.int (own_d p0 (100 : Int32))), (.int (own_d p0 (10 : Int32))), (.int (own_d p0 (1 : Int32)))] := by
    show [Value.int (own_lo (32 : Int32)), Value.int (own_lo (108 : Int32)), Value.int (own_lo (105 : Int32)), Value.int (own_lo (110 : Int32)), Value.int (own_lo (101 : Int32)), Value.int (own_lo (32 : Int32)), Value.int (own_lo (own_d p0 (1000000 : Int32))), Value.int (own_lo (own_d p0 (100000 : Int32))), Value.int (own_lo (own_d p0 (10000 : Int32))), Value.int (own_lo (own_d p0 (1000 : Int32))), Value.int (own_lo (own_d p0 (100 : Int32))), Value.int (own_lo (own_d p0 (10 : Int32))), Value.int (own_lo (own_d p0 (1 : Int32)))] = _
    rw [own_lod hp (P := (1000000 : Int32)) (m := 1000000) (by decide) (by decide) (by decide), own_lod hp (P := (100000 : Int32)) (m := 100000) (by decide) (by decide) (by decide), own_lod hp (P := (10000 : Int32)) (m := 10000) (by decide) (by decide) (by decide), own_lod hp (P := (1000 : Int32)) (m := 1000) (by decide) (by decide) (by decide), own_lod hp (P := (100 : Int32)) (m := 100) (by decide) (by decide) (by decide), own_lod hp (P := (10 : Int32)) (m := 10) (by decide) (by decide) (by decide), own_lod hp (P := (1 : Int32)) (m := 1) (by decide) (by decide) (by decide)]
    rfl
  rw [e]
  exact V.pad (fun i => (pad_rep [(.int 32), (.int 108), (.int 105), (.int 110), (.int 101), (.int 32), (.int (own_d p0 (1000000 : Int32))), (.int (own_d p0 (100000 : Int32))), (.int (own_d p0 (10000 : Int32))), (.int (own_d p0 (1000 : Int32))), (.int (own_d p0 (100 : Int32))), (.int (own_d p0 (10 : Int32))), (.int (own_d p0 (1 : Int32)))] (.int 0) 3 i).symm)
theorem own_cv8 {Z : State} {h : Heap} {a : Addr} {ka : ClassId} {p0 : Int32} (hp : (0 : Int32) < p0) (V : Arv Z h a ka .byte (16 : Int32) [(.int 32), (.int 108), (.int 105), (.int 110), (.int 101), (.int 32), (.int (own_d p0 (10000000 : Int32))), (.int (own_d p0 (1000000 : Int32))), (.int (own_d p0 (100000 : Int32))), (.int (own_d p0 (10000 : Int32))), (.int (own_d p0 (1000 : Int32))), (.int (own_d p0 (100 : Int32))), (.int (own_d p0 (10 : Int32))), (.int (own_d p0 (1 : Int32))), (.int 0), (.int 0)] (.int 0)) : Arv Z h a ka .byte (16 : Int32) (own_by (own_L ++ own_dgs 8 p0)) (.int 0) := by
  have e : own_by (own_L ++ own_dgs 8 p0) = [(.int 32), (.int 108), (.int 105), (.int 110), (.int 101), (.int 32), (.int (own_d p0 (10000000 : Int32))), (.int (own_d p0 (1000000 : Int32))), (.int (own_d p0 (100000 : Int32))), (.int (own_d p0 (10000 : Int32))), (.int (own_d p0 (1000 : Int32))), (.int (own_d p0 (100 : Int32))), (.int (own_d p0 (10 : Int32))), (.int (own_d p0 (1 : Int32)))] := by
    show [Value.int (own_lo (32 : Int32)), Value.int (own_lo (108 : Int32)), Value.int (own_lo (105 : Int32)), Value.int (own_lo (110 : Int32)), Value.int (own_lo (101 : Int32)), Value.int (own_lo (32 : Int32)), Value.int (own_lo (own_d p0 (10000000 : Int32))), Value.int (own_lo (own_d p0 (1000000 : Int32))), Value.int (own_lo (own_d p0 (100000 : Int32))), Value.int (own_lo (own_d p0 (10000 : Int32))), Value.int (own_lo (own_d p0 (1000 : Int32))), Value.int (own_lo (own_d p0 (100 : Int32))), Value.int (own_lo (own_d p0 (10 : Int32))), Value.int (own_lo (own_d p0 (1 : Int32)))] = _
    rw [own_lod hp (P := (10000000 : Int32)) (m := 10000000) (by decide) (by decide) (by decide), own_lod hp (P := (1000000 : Int32)) (m := 1000000) (by decide) (by decide) (by decide), own_lod hp (P := (100000 : Int32)) (m := 100000) (by decide) (by decide) (by decide), own_lod hp (P := (10000 : Int32)) (m := 10000) (by decide) (by decide) (by decide), own_lod hp (P := (1000 : Int32)) (m := 1000) (by decide) (by decide) (by decide), own_lod hp (P := (100 : Int32)) (m := 100) (by decide) (by decide) (by decide), own_lod hp (P := (10 : Int32)) (m := 10) (by decide) (by decide) (by decide), own_lod hp (P := (1 : Int32)) (m := 1) (by decide) (by decide) (by decide)]
    rfl
  rw [e]
  exact V.pad (fun i => (pad_rep [(.int 32), (.int 108), (.int 105), (.int 110), (.int 101), (.int 32), (.int (own_d p0 (10000000 : Int32))), (.int (own_d p0 (1000000 : Int32))), (.int (own_d p0 (100000 : Int32))), (.int (own_d p0 (10000 : Int32))), (.int (own_d p0 (1000 : Int32))), (.int (own_d p0 (100 : Int32))), (.int (own_d p0 (10 : Int32))), (.int (own_d p0 (1 : Int32)))] (.int 0) 2 i).symm)
theorem own_cv9 {Z : State} {h : Heap} {a : Addr} {ka : ClassId} {p0 : Int32} (hp : (0 : Int32) < p0) (V : Arv Z h a ka .byte (16 : Int32) [(.int 32), (.int 108), (.int 105), (.int 110), (.int 101), (.int 32), (.int (own_d p0 (100000000 : Int32))), (.int (own_d p0 (10000000 : Int32))), (.int (own_d p0 (1000000 : Int32))), (.int (own_d p0 (100000 : Int32))), (.int (own_d p0 (10000 : Int32))), (.int (own_d p0 (1000 : Int32))), (.int (own_d p0 (100 : Int32))), (.int (own_d p0 (10 : Int32))), (.int (own_d p0 (1 : Int32))), (.int 0)] (.int 0)) : Arv Z h a ka .byte (16 : Int32) (own_by (own_L ++ own_dgs 9 p0)) (.int 0) := by
  have e : own_by (own_L ++ own_dgs 9 p0) = [(.int 32), (.int 108), (.int 105), (.int 110), (.int 101), (.int 32), (.int (own_d p0 (100000000 : Int32))), (.int (own_d p0 (10000000 : Int32))), (.int (own_d p0 (1000000 : Int32))), (.int (own_d p0 (100000 : Int32))), (.int (own_d p0 (10000 : Int32))), (.int (own_d p0 (1000 : Int32))), (.int (own_d p0 (100 : Int32))), (.int (own_d p0 (10 : Int32))), (.int (own_d p0 (1 : Int32)))] := by
    show [Value.int (own_lo (32 : Int32)), Value.int (own_lo (108 : Int32)), Value.int (own_lo (105 : Int32)), Value.int (own_lo (110 : Int32)), Value.int (own_lo (101 : Int32)), Value.int (own_lo (32 : Int32)), Value.int (own_lo (own_d p0 (100000000 : Int32))), Value.int (own_lo (own_d p0 (10000000 : Int32))), Value.int (own_lo (own_d p0 (1000000 : Int32))), Value.int (own_lo (own_d p0 (100000 : Int32))), Value.int (own_lo (own_d p0 (10000 : Int32))), Value.int (own_lo (own_d p0 (1000 : Int32))), Value.int (own_lo (own_d p0 (100 : Int32))), Value.int (own_lo (own_d p0 (10 : Int32))), Value.int (own_lo (own_d p0 (1 : Int32)))] = _
    rw [own_lod hp (P := (100000000 : Int32)) (m := 100000000) (by decide) (by decide) (by decide), own_lod hp (P := (10000000 : Int32)) (m := 10000000) (by decide) (by decide) (by decide), own_lod hp (P := (1000000 : Int32)) (m := 1000000) (by decide) (by decide) (by decide), own_lod hp (P := (100000 : Int32)) (m := 100000) (by decide) (by decide) (by decide), own_lod hp (P := (10000 : Int32)) (m := 10000) (by decide) (by decide) (by decide), own_lod hp (P := (1000 : Int32)) (m := 1000) (by decide) (by decide) (by decide), own_lod hp (P := (100 : Int32)) (m := 100) (by decide) (by decide) (by decide), own_lod hp (P := (10 : Int32)) (m := 10) (by decide) (by decide) (by decide), own_lod hp (P := (1 : Int32)) (m := 1) (by decide) (by decide) (by decide)]
    rfl
  rw [e]
  exact V.pad (fun i => (pad_rep [(.int 32), (.int 108), (.int 105), (.int 110), (.int 101), (.int 32), (.int (own_d p0 (100000000 : Int32))), (.int (own_d p0 (10000000 : Int32))), (.int (own_d p0 (1000000 : Int32))), (.int (own_d p0 (100000 : Int32))), (.int (own_d p0 (10000 : Int32))), (.int (own_d p0 (1000 : Int32))), (.int (own_d p0 (100 : Int32))), (.int (own_d p0 (10 : Int32))), (.int (own_d p0 (1 : Int32)))] (.int 0) 1 i).symm)
theorem own_cv10 {Z : State} {h : Heap} {a : Addr} {ka : ClassId} {p0 : Int32} (hp : (0 : Int32) < p0) (V : Arv Z h a ka .byte (16 : Int32) [(.int 32), (.int 108), (.int 105), (.int 110), (.int 101), (.int 32), (.int (own_d p0 (1000000000 : Int32))), (.int (own_d p0 (100000000 : Int32))), (.int (own_d p0 (10000000 : Int32))), (.int (own_d p0 (1000000 : Int32))), (.int (own_d p0 (100000 : Int32))), (.int (own_d p0 (10000 : Int32))), (.int (own_d p0 (1000 : Int32))), (.int (own_d p0 (100 : Int32))), (.int (own_d p0 (10 : Int32))), (.int (own_d p0 (1 : Int32)))] (.int 0)) : Arv Z h a ka .byte (16 : Int32) (own_by (own_L ++ own_dgs 10 p0)) (.int 0) := by
  have e : own_by (own_L ++ own_dgs 10 p0) = [(.int 32), (.int 108), (.int 105), (.int 110), (.int 101), (.int 32), (.int (own_d p0 (1000000000 : Int32))), (.int (own_d p0 (100000000 : Int32))), (.int (own_d p0 (10000000 : Int32))), (.int (own_d p0 (1000000 : Int32))), (.int (own_d p0 (100000 : Int32))), (.int (own_d p0 (10000 : Int32))), (.int (own_d p0 (1000 : Int32))), (.int (own_d p0 (100 : Int32))), (.int (own_d p0 (10 : Int32))), (.int (own_d p0 (1 : Int32)))] := by
    show [Value.int (own_lo (32 : Int32)), Value.int (own_lo (108 : Int32)), Value.int (own_lo (105 : Int32)), Value.int (own_lo (110 : Int32)), Value.int (own_lo (101 : Int32)), Value.int (own_lo (32 : Int32)), Value.int (own_lo (own_d p0 (1000000000 : Int32))), Value.int (own_lo (own_d p0 (100000000 : Int32))), Value.int (own_lo (own_d p0 (10000000 : Int32))), Value.int (own_lo (own_d p0 (1000000 : Int32))), Value.int (own_lo (own_d p0 (100000 : Int32))), Value.int (own_lo (own_d p0 (10000 : Int32))), Value.int (own_lo (own_d p0 (1000 : Int32))), Value.int (own_lo (own_d p0 (100 : Int32))), Value.int (own_lo (own_d p0 (10 : Int32))), Value.int (own_lo (own_d p0 (1 : Int32)))] = _
    rw [own_lod hp (P := (1000000000 : Int32)) (m := 1000000000) (by decide) (by decide) (by decide), own_lod hp (P := (100000000 : Int32)) (m := 100000000) (by decide) (by decide) (by decide), own_lod hp (P := (10000000 : Int32)) (m := 10000000) (by decide) (by decide) (by decide), own_lod hp (P := (1000000 : Int32)) (m := 1000000) (by decide) (by decide) (by decide), own_lod hp (P := (100000 : Int32)) (m := 100000) (by decide) (by decide) (by decide), own_lod hp (P := (10000 : Int32)) (m := 10000) (by decide) (by decide) (by decide), own_lod hp (P := (1000 : Int32)) (m := 1000) (by decide) (by decide) (by decide), own_lod hp (P := (100 : Int32)) (m := 100) (by decide) (by decide) (by decide), own_lod hp (P := (10 : Int32)) (m := 10) (by decide) (by decide) (by decide), own_lod hp (P := (1 : Int32)) (m := 1) (by decide) (by decide) (by decide)]
    rfl
  rw [e]
  exact V
theorem own_dll {p n : Int32} {ds : List Int32} (hp : (0 : Int32) < p) (h : own_dl p n ds) : n.toInt = ds.length ∧ 1 ≤ ds.length ∧ ds.length ≤ 10 ∧ ∀ c ∈ ds, ¬ c < 0 ∧ ¬ (255 : Int32) < c := by
  obtain ⟨h, rfl⟩ := h
  unfold own_sz at h
  rcases h with ⟨rfl, -⟩ | ⟨rfl, -⟩ | ⟨rfl, -⟩ | ⟨rfl, -⟩ | ⟨rfl, -⟩ | ⟨rfl, -⟩ | ⟨rfl, -⟩ | ⟨rfl, -⟩ | ⟨rfl, -⟩ | ⟨rfl, -⟩
  · have e : own_dgs (Int32.toNatClampNeg (1 : Int32)) p = [own_d p (1 : Int32)] := rfl
    rw [e]
    refine ⟨by show (1 : Int32).toInt = ((1 : Nat) : Int); decide, by show 1 ≤ 1; decide, by show 1 ≤ 10; decide, ?_⟩
    exact List.forall_mem_cons.mpr ⟨own_lad hp (m := 1) (by decide) (by decide) (by decide), fun _ q => nomatch q⟩
  · have e : own_dgs (Int32.toNatClampNeg (2 : Int32)) p = [own_d p (10 : Int32), own_d p (1 : Int32)] := rfl
    rw [e]
    refine ⟨by show (2 : Int32).toInt = ((2 : Nat) : Int); decide, by show 1 ≤ 2; decide, by show 2 ≤ 10; decide, ?_⟩
    exact List.forall_mem_cons.mpr ⟨own_lad hp (m := 10) (by decide) (by decide) (by decide), List.forall_mem_cons.mpr ⟨own_lad hp (m := 1) (by decide) (by decide) (by decide), fun _ q => nomatch q⟩⟩
  · have e : own_dgs (Int32.toNatClampNeg (3 : Int32)) p = [own_d p (100 : Int32), own_d p (10 : Int32), own_d p (1 : Int32)] := rfl
    rw [e]
    refine ⟨by show (3 : Int32).toInt = ((3 : Nat) : Int); decide, by show 1 ≤ 3; decide, by show 3 ≤ 10; decide, ?_⟩
    exact List.forall_mem_cons.mpr ⟨own_lad hp (m := 100) (by decide) (by decide) (by decide), List.forall_mem_cons.mpr ⟨own_lad hp (m := 10) (by decide) (by decide) (by decide), List.forall_mem_cons.mpr ⟨own_lad hp (m := 1) (by decide) (by decide) (by decide), fun _ q => nomatch q⟩⟩⟩
  · have e : own_dgs (Int32.toNatClampNeg (4 : Int32)) p = [own_d p (1000 : Int32), own_d p (100 : Int32), own_d p (10 : Int32), own_d p (1 : Int32)] := rfl
    rw [e]
    refine ⟨by show (4 : Int32).toInt = ((4 : Nat) : Int); decide, by show 1 ≤ 4; decide, by show 4 ≤ 10; decide, ?_⟩
    exact List.forall_mem_cons.mpr ⟨own_lad hp (m := 1000) (by decide) (by decide) (by decide), List.forall_mem_cons.mpr ⟨own_lad hp (m := 100) (by decide) (by decide) (by decide), List.forall_mem_cons.mpr ⟨own_lad hp (m := 10) (by decide) (by decide) (by decide), List.forall_mem_cons.mpr ⟨own_lad hp (m := 1) (by decide) (by decide) (by decide), fun _ q => nomatch q⟩⟩⟩⟩
  · have e : own_dgs (Int32.toNatClampNeg (5 : Int32)) p = [own_d p (10000 : Int32), own_d p (1000 : Int32), own_d p (100 : Int32), own_d p (10 : Int32), own_d p (1 : Int32)] := rfl
    rw [e]
    refine ⟨by show (5 : Int32).toInt = ((5 : Nat) : Int); decide, by show 1 ≤ 5; decide, by show 5 ≤ 10; decide, ?_⟩
    exact List.forall_mem_cons.mpr ⟨own_lad hp (m := 10000) (by decide) (by decide) (by decide), List.forall_mem_cons.mpr ⟨own_lad hp (m := 1000) (by decide) (by decide) (by decide), List.forall_mem_cons.mpr ⟨own_lad hp (m := 100) (by decide) (by decide) (by decide), List.forall_mem_cons.mpr ⟨own_lad hp (m := 10) (by decide) (by decide) (by decide), List.forall_mem_cons.mpr ⟨own_lad hp (m := 1) (by decide) (by decide) (by decide), fun _ q => nomatch q⟩⟩⟩⟩⟩
  · have e : own_dgs (Int32.toNatClampNeg (6 : Int32)) p = [own_d p (100000 : Int32), own_d p (10000 : Int32), own_d p (1000 : Int32), own_d p (100 : Int32), own_d p (10 : Int32), own_d p (1 : Int32)] := rfl
    rw [e]
    refine ⟨by show (6 : Int32).toInt = ((6 : Nat) : Int); decide, by show 1 ≤ 6; decide, by show 6 ≤ 10; decide, ?_⟩
    exact List.forall_mem_cons.mpr ⟨own_lad hp (m := 100000) (by decide) (by decide) (by decide), List.forall_mem_cons.mpr ⟨own_lad hp (m := 10000) (by decide) (by decide) (by decide), List.forall_mem_cons.mpr ⟨own_lad hp (m := 1000) (by decide) (by decide) (by decide), List.forall_mem_cons.mpr ⟨own_lad hp (m := 100) (by decide) (by decide) (by decide), List.forall_mem_cons.mpr ⟨own_lad hp (m := 10) (by decide) (by decide) (by decide), List.forall_mem_cons.mpr ⟨own_lad hp (m := 1) (by decide) (by decide) (by decide), fun _ q => nomatch q⟩⟩⟩⟩⟩⟩
  · have e : own_dgs (Int32.toNatClampNeg (7 : Int32)) p = [own_d p (1000000 : Int32), own_d p (100000 : Int32), own_d p (10000 : Int32), own_d p (1000 : Int32), own_d p (100 : Int32), own_d p (10 : Int32), own_d p (1 : Int32)] := rfl
    rw [e]
    refine ⟨by show (7 : Int32).toInt = ((7 : Nat) : Int); decide, by show 1 ≤ 7; decide, by show 7 ≤ 10; decide, ?_⟩
    exact List.forall_mem_cons.mpr ⟨own_lad hp (m := 1000000) (by decide) (by decide) (by decide), List.forall_mem_cons.mpr ⟨own_lad hp (m := 100000) (by decide) (by decide) (by decide), List.forall_mem_cons.mpr ⟨own_lad hp (m := 10000) (by decide) (by decide) (by decide), List.forall_mem_cons.mpr ⟨own_lad hp (m := 1000) (by decide) (by decide) (by decide), List.forall_mem_cons.mpr ⟨own_lad hp (m := 100) (by decide) (by decide) (by decide), List.forall_mem_cons.mpr ⟨own_lad hp (m := 10) (by decide) (by decide) (by decide), List.forall_mem_cons.mpr ⟨own_lad hp (m := 1) (by decide) (by decide) (by decide), fun _ q => nomatch q⟩⟩⟩⟩⟩⟩⟩
  · have e : own_dgs (Int32.toNatClampNeg (8 : Int32)) p = [own_d p (10000000 : Int32), own_d p (1000000 : Int32), own_d p (100000 : Int32), own_d p (10000 : Int32), own_d p (1000 : Int32), own_d p (100 : Int32), own_d p (10 : Int32), own_d p (1 : Int32)] := rfl
    rw [e]
    refine ⟨by show (8 : Int32).toInt = ((8 : Nat) : Int); decide, by show 1 ≤ 8; decide, by show 8 ≤ 10; decide, ?_⟩
    exact List.forall_mem_cons.mpr ⟨own_lad hp (m := 10000000) (by decide) (by decide) (by decide), List.forall_mem_cons.mpr ⟨own_lad hp (m := 1000000) (by decide) (by decide) (by decide), List.forall_mem_cons.mpr ⟨own_lad hp (m := 100000) (by decide) (by decide) (by decide), List.forall_mem_cons.mpr ⟨own_lad hp (m := 10000) (by decide) (by decide) (by decide), List.forall_mem_cons.mpr ⟨own_lad hp (m := 1000) (by decide) (by decide) (by decide), List.forall_mem_cons.mpr ⟨own_lad hp (m := 100) (by decide) (by decide) (by decide), List.forall_mem_cons.mpr ⟨own_lad hp (m := 10) (by decide) (by decide) (by decide), List.forall_mem_cons.mpr ⟨own_lad hp (m := 1) (by decide) (by decide) (by decide), fun _ q => nomatch q⟩⟩⟩⟩⟩⟩⟩⟩
  · have e : own_dgs (Int32.toNatClampNeg (9 : Int32)) p = [own_d p (100000000 : Int32), own_d p (10000000 : Int32), own_d p (1000000 : Int32), own_d p (100000 : Int32), own_d p (10000 : Int32), own_d p (1000 : Int32), own_d p (100 : Int32), own_d p (10 : Int32), own_d p (1 : Int32)] := rfl
    rw [e]
    refine ⟨by show (9 : Int32).toInt = ((9 : Nat) : Int); decide, by show 1 ≤ 9; decide, by show 9 ≤ 10; decide, ?_⟩
    exact List.forall_mem_cons.mpr ⟨own_lad hp (m := 100000000) (by decide) (by decide) (by decide), List.forall_mem_cons.mpr ⟨own_lad hp (m := 10000000) (by decide) (by decide) (by decide), List.forall_mem_cons.mpr ⟨own_lad hp (m := 1000000) (by decide) (by decide) (by decide), List.forall_mem_cons.mpr ⟨own_lad hp (m := 100000) (by decide) (by decide) (by decide), List.forall_mem_cons.mpr ⟨own_lad hp (m := 10000) (by decide) (by decide) (by decide), List.forall_mem_cons.mpr ⟨own_lad hp (m := 1000) (by decide) (by decide) (by decide), List.forall_mem_cons.mpr ⟨own_lad hp (m := 100) (by decide) (by decide) (by decide), List.forall_mem_cons.mpr ⟨own_lad hp (m := 10) (by decide) (by decide) (by decide), List.forall_mem_cons.mpr ⟨own_lad hp (m := 1) (by decide) (by decide) (by decide), fun _ q => nomatch q⟩⟩⟩⟩⟩⟩⟩⟩⟩
  · have e : own_dgs (Int32.toNatClampNeg (10 : Int32)) p = [own_d p (1000000000 : Int32), own_d p (100000000 : Int32), own_d p (10000000 : Int32), own_d p (1000000 : Int32), own_d p (100000 : Int32), own_d p (10000 : Int32), own_d p (1000 : Int32), own_d p (100 : Int32), own_d p (10 : Int32), own_d p (1 : Int32)] := rfl
    rw [e]
    refine ⟨by show (10 : Int32).toInt = ((10 : Nat) : Int); decide, by show 1 ≤ 10; decide, by show 10 ≤ 10; decide, ?_⟩
    exact List.forall_mem_cons.mpr ⟨own_lad hp (m := 1000000000) (by decide) (by decide) (by decide), List.forall_mem_cons.mpr ⟨own_lad hp (m := 100000000) (by decide) (by decide) (by decide), List.forall_mem_cons.mpr ⟨own_lad hp (m := 10000000) (by decide) (by decide) (by decide), List.forall_mem_cons.mpr ⟨own_lad hp (m := 1000000) (by decide) (by decide) (by decide), List.forall_mem_cons.mpr ⟨own_lad hp (m := 100000) (by decide) (by decide) (by decide), List.forall_mem_cons.mpr ⟨own_lad hp (m := 10000) (by decide) (by decide) (by decide), List.forall_mem_cons.mpr ⟨own_lad hp (m := 1000) (by decide) (by decide) (by decide), List.forall_mem_cons.mpr ⟨own_lad hp (m := 100) (by decide) (by decide) (by decide), List.forall_mem_cons.mpr ⟨own_lad hp (m := 10) (by decide) (by decide) (by decide), List.forall_mem_cons.mpr ⟨own_lad hp (m := 1) (by decide) (by decide) (by decide), fun _ q => nomatch q⟩⟩⟩⟩⟩⟩⟩⟩⟩⟩
theorem own_s6 {p n : Int32} {ds : List Int32} (hp : (0 : Int32) < p) (h : own_dl p n ds) : ((6 : Int32) + n).toInt = 6 + ds.length := by
  have e := own_dll hp h
  have c1 := c_iadd (6 : Int32) n
  have k : (6 : Int32).toInt = 6 := by decide
  have r1 := rng32 ((6 : Int32) + n)
  omega
theorem own_sbI {p n : Int32} {ds : List Int32} (hp : (0 : Int32) < p) (h : own_dl p n ds) : own_sbp ((6 : Int32) + n) (16 : Int32) (own_L ++ ds) := by
  have e := own_dll hp h
  have l6 : own_L.length = 6 := by decide
  have k16 : (16 : Int32).toNatClampNeg = 16 := by decide
  refine ⟨?_, fun x hx => (List.mem_append.mp hx).elim (own_okL.2.1 x) (e.2.2.2 x), Or.inl rfl, by rw [List.length_append, k16]; omega⟩
  rw [own_xeq, own_s6 hp h, List.length_append, own_oi (by omega)]
  omega
theorem own_sb6 : own_sbp (6 : Int32) (16 : Int32) own_L := ⟨by decide, own_okL.2.1, Or.inl rfl, by decide⟩
theorem own_ng6 {p n : Int32} (h : own_sz p n) : ¬ (0 : Int32) < (((6 : Int32) + n) - (16 : Int32)) := by
  unfold own_sz at h
  rcases h with ⟨rfl, -⟩ | ⟨rfl, -⟩ | ⟨rfl, -⟩ | ⟨rfl, -⟩ | ⟨rfl, -⟩ | ⟨rfl, -⟩ | ⟨rfl, -⟩ | ⟨rfl, -⟩ | ⟨rfl, -⟩ | ⟨rfl, -⟩ <;> decide
abbrev rr_gc : Room := { frames := 0, cells := 0, slots := 0, locals := 0 }
def Q_gc (Z : State) (w_0 w_1 : Addr) (w_2 : Int32) (w_3 : Value) (p0 m9 : Int32) (o2 : Addr) (ka : ClassId) (n : Int32) (h0 : Heap) (n0 : Nat) (v : Option Value) (h : Heap) (L : List Loc) : Prop := ∃ ds : List Int32, v = some (.int 6) ∧ Fr n0 L ∧ Keep h0 h [o2] ∧ Arv Z h o2 ka .byte (16 : Int32) (own_by (own_L ++ ds)) (.int 0) ∧ own_dl p0 n ds
theorem rm_gc (l : Launch) (Z : State) (a0 : Array Value) (hw : HW Z a0) (ws : List Jvm.Cond) (w_0 w_1 : Addr) (w_2 : Int32) (w_3 : Value) (p0 m9 : Int32) (o2 : Addr) (ka : ClassId) (n : Int32) (h0 : Heap) (n0 : Nat) (Z0 : n0 ≤ h0.size) (ST : own_St Z w_0 w_1 w_2 w_3) (O0 : Old Z n0 h0) (hp : (0 : Int32) < p0) (hsz : own_sz p0 n) (hm : m9 = (6 : Int32) + n) (Va : Arv Z h0 o2 ka .byte (16 : Int32) [(.int 32), (.int 108), (.int 105), (.int 110), (.int 101), (.int 32), (.int 0), (.int 0), (.int 0), (.int 0), (.int 0), (.int 0), (.int 0), (.int 0), (.int 0), (.int 0)] (.int 0)) (geo : n0 ≤ o2) :
    own_Met l y_35 jdk_33_method_12_code 7 (some .int) ws rr_gc Z #[(.int p0), (.int m9), (.ref o2)] h0 (Q_gc Z w_0 w_1 w_2 w_3 p0 m9 o2 ka n h0 n0) := by
  have hsz0 := hsz
  unfold own_sz at hsz
  rcases hsz with ⟨rfl, hlo⟩ | ⟨rfl, hlo⟩ | ⟨rfl, hlo⟩ | ⟨rfl, hlo⟩ | ⟨rfl, hlo⟩ | ⟨rfl, hlo⟩ | ⟨rfl, hlo⟩ | ⟨rfl, hlo⟩ | ⟨rfl, hlo⟩ | ⟨rfl, hlo⟩
  · obtain rfl : m9 = (7 : Int32) := hm.trans (by decide)
    intro p e g1 g2 g3 s m args below g4 g5 g6 g7
    obtain ⟨st, o, r1, r2, r3, v, L, r4, ⟨d0, r5, r6, r7, r8, rfl⟩, r10⟩ := rm_gc1 l Z a0 hw ws w_0 w_1 w_2 w_3 p0 o2 ka h0 n0 Z0 ST O0 hp hlo Va geo p e g1 g2 g3 s m args below g4 g5 g6 g7
    exact ⟨st, o, r1, r2, r3, v, L, r4, ⟨_, r5, r6, r7, own_cv1 hp r8, ⟨hsz0, rfl⟩⟩, r10⟩
  · obtain rfl : m9 = (8 : Int32) := hm.trans (by decide)
    intro p e g1 g2 g3 s m args below g4 g5 g6 g7
    obtain ⟨st, o, r1, r2, r3, v, L, r4, ⟨d0, d1, r5, r6, r7, r8, rfl, rfl⟩, r10⟩ := rm_gc2 l Z a0 hw ws w_0 w_1 w_2 w_3 p0 o2 ka h0 n0 Z0 ST O0 hp hlo Va geo p e g1 g2 g3 s m args below g4 g5 g6 g7
    exact ⟨st, o, r1, r2, r3, v, L, r4, ⟨_, r5, r6, r7, own_cv2 hp r8, ⟨hsz0, rfl⟩⟩, r10⟩
  · obtain rfl : m9 = (9 : Int32) := hm.trans (by decide)
    intro p e g1 g2 g3 s m args below g4 g5 g6 g7
    obtain ⟨st, o, r1, r2, r3, v, L, r4, ⟨d0, d1, d2, r5, r6, r7, r8, rfl, rfl, rfl⟩, r10⟩ := rm_gc3 l Z a0 hw ws w_0 w_1 w_2 w_3 p0 o2 ka h0 n0 Z0 ST O0 hp hlo Va geo p e g1 g2 g3 s m args below g4 g5 g6 g7
    exact ⟨st, o, r1, r2, r3, v, L, r4, ⟨_, r5, r6, r7, own_cv3 hp r8, ⟨hsz0, rfl⟩⟩, r10⟩
  · obtain rfl : m9 = (10 : Int32) := hm.trans (by decide)
    intro p e g1 g2 g3 s m args below g4 g5 g6 g7
    obtain ⟨st, o, r1, r2, r3, v, L, r4, ⟨d0, d1, d2, d3, r5, r6, r7, r8, rfl, rfl, rfl, rfl⟩, r10⟩ := rm_gc4 l Z a0 hw ws w_0 w_1 w_2 w_3 p0 o2 ka h0 n0 Z0 ST O0 hp hlo Va geo p e g1 g2 g3 s m args below g4 g5 g6 g7
    exact ⟨st, o, r1, r2, r3, v, L, r4, ⟨_, r5, r6, r7, own_cv4 hp r8, ⟨hsz0, rfl⟩⟩, r10⟩
  · obtain rfl : m9 = (11 : Int32) := hm.trans (by decide)
    intro p e g1 g2 g3 s m args below g4 g5 g6 g7
    obtain ⟨st, o, r1, r2, r3, v, L, r4, ⟨d0, d1, d2, d3, d4, r5, r6, r7, r8, rfl, rfl, rfl, rfl, rfl⟩, r10⟩ := rm_gc5 l Z a0 hw ws w_0 w_1 w_2 w_3 p0 o2 ka h0 n0 Z0 ST O0 hp hlo Va geo p e g1 g2 g3 s m args below g4 g5 g6 g7
    exact ⟨st, o, r1, r2, r3, v, L, r4, ⟨_, r5, r6, r7, own_cv5 hp r8, ⟨hsz0, rfl⟩⟩, r10⟩
  · obtain rfl : m9 = (12 : Int32) := hm.trans (by decide)
    intro p e g1 g2 g3 s m args below g4 g5 g6 g7
    obtain ⟨st, o, r1, r2, r3, v, L, r4, ⟨d0, d1, d2, d3, d4, d5, r5, r6, r7, r8, rfl, rfl, rfl, rfl, rfl, rfl⟩, r10⟩ := rm_gc6 l Z a0 hw ws w_0 w_1 w_2 w_3 p0 o2 ka h0 n0 Z0 ST O0 hp hlo Va geo p e g1 g2 g3 s m args below g4 g5 g6 g7
    exact ⟨st, o, r1, r2, r3, v, L, r4, ⟨_, r5, r6, r7, own_cv6 hp r8, ⟨hsz0, rfl⟩⟩, r10⟩
  · obtain rfl : m9 = (13 : Int32) := hm.trans (by decide)
    intro p e g1 g2 g3 s m args below g4 g5 g6 g7
    obtain ⟨st, o, r1, r2, r3, v, L, r4, ⟨d0, d1, d2, d3, d4, d5, d6, r5, r6, r7, r8, rfl, rfl, rfl, rfl, rfl, rfl, rfl⟩, r10⟩ := rm_gc7 l Z a0 hw ws w_0 w_1 w_2 w_3 p0 o2 ka h0 n0 Z0 ST O0 hp hlo Va geo p e g1 g2 g3 s m args below g4 g5 g6 g7
    exact ⟨st, o, r1, r2, r3, v, L, r4, ⟨_, r5, r6, r7, own_cv7 hp r8, ⟨hsz0, rfl⟩⟩, r10⟩
  · obtain rfl : m9 = (14 : Int32) := hm.trans (by decide)
    intro p e g1 g2 g3 s m args below g4 g5 g6 g7
    obtain ⟨st, o, r1, r2, r3, v, L, r4, ⟨d0, d1, d2, d3, d4, d5, d6, d7, r5, r6, r7, r8, rfl, rfl, rfl, rfl, rfl, rfl, rfl, rfl⟩, r10⟩ := rm_gc8 l Z a0 hw ws w_0 w_1 w_2 w_3 p0 o2 ka h0 n0 Z0 ST O0 hp hlo Va geo p e g1 g2 g3 s m args below g4 g5 g6 g7
    exact ⟨st, o, r1, r2, r3, v, L, r4, ⟨_, r5, r6, r7, own_cv8 hp r8, ⟨hsz0, rfl⟩⟩, r10⟩
  · obtain rfl : m9 = (15 : Int32) := hm.trans (by decide)
    intro p e g1 g2 g3 s m args below g4 g5 g6 g7
    obtain ⟨st, o, r1, r2, r3, v, L, r4, ⟨d0, d1, d2, d3, d4, d5, d6, d7, d8, r5, r6, r7, r8, rfl, rfl, rfl, rfl, rfl, rfl, rfl, rfl, rfl⟩, r10⟩ := rm_gc9 l Z a0 hw ws w_0 w_1 w_2 w_3 p0 o2 ka h0 n0 Z0 ST O0 hp hlo Va geo p e g1 g2 g3 s m args below g4 g5 g6 g7
    exact ⟨st, o, r1, r2, r3, v, L, r4, ⟨_, r5, r6, r7, own_cv9 hp r8, ⟨hsz0, rfl⟩⟩, r10⟩
  · obtain rfl : m9 = (16 : Int32) := hm.trans (by decide)
    intro p e g1 g2 g3 s m args below g4 g5 g6 g7
    obtain ⟨st, o, r1, r2, r3, v, L, r4, ⟨d0, d1, d2, d3, d4, d5, d6, d7, d8, d9, r5, r6, r7, r8, rfl, rfl, rfl, rfl, rfl, rfl, rfl, rfl, rfl, rfl⟩, r10⟩ := rm_gc10 l Z a0 hw ws w_0 w_1 w_2 w_3 p0 o2 ka h0 n0 Z0 ST O0 hp hlo Va geo p e g1 g2 g3 s m args below g4 g5 g6 g7
    exact ⟨st, o, r1, r2, r3, v, L, r4, ⟨_, r5, r6, r7, own_cv10 hp r8, ⟨hsz0, rfl⟩⟩, r10⟩
theorem d36_0 : decode qc36 0 = .ok (.aload_n 0, 1) := by decide +kernel
theorem d36_1 : decode qc36 1 = .ok (.getfield 79, 3) := by decide +kernel
theorem d36_4 : decode qc36 4 = .ok (.istore_n 2, 1) := by decide +kernel
theorem d36_5 : decode qc36 5 = .ok (.iload_n 2, 1) := by decide +kernel
theorem d36_6 : decode qc36 6 = .ok (.iload_n 1, 1) := by decide +kernel
theorem d36_7 : decode qc36 7 = .ok (.invokestatic 245, 3) := by decide +kernel
theorem ww229 (hw : HW Z a0) : Cond.before (Cond.methodLink cn_0 245 ({ cls := cn_7, name := "stringSize", desc := "(I)I" } : MethodName)) a0 Z = true := own_w hw 229 rfl
theorem ww232 (hw : HW Z a0) : Cond.before (Cond.code ({ cls := cn_7, name := "stringSize", desc := "(I)I" } : MethodName) jdk_33_method_13_code 4 (Option.some FieldType.int)) a0 Z = true := own_w hw 232 rfl
theorem ww230 (hw : HW Z a0) : Cond.before (Cond.static ({ cls := cn_7, name := "stringSize", desc := "(I)I" } : MethodName)) a0 Z = true := own_w hw 230 rfl
theorem d36_10 : decode qc36 10 = .ok (.iadd, 1) := by decide +kernel
theorem d36_11 : decode qc36 11 = .ok (.istore_n 3, 1) := by decide +kernel
theorem d36_12 : decode qc36 12 = .ok (.aload_n 0, 1) := by decide +kernel
theorem d36_13 : decode qc36 13 = .ok (.iload_n 3, 1) := by decide +kernel
theorem d36_14 : decode qc36 14 = .ok (.invokevirtual 100, 3) := by decide +kernel
theorem d36_17 : decode qc36 17 = .ok (.aload_n 0, 1) := by decide +kernel
theorem d36_18 : decode qc36 18 = .ok (.invokevirtual 83, 3) := by decide +kernel
theorem ww233 (hw : HW Z a0) : Cond.before (Cond.methodLink cn_0 83 ({ cls := cn_0, name := "isLatin1", desc := "()Z" } : MethodName)) a0 Z = true := own_w hw 233 rfl
theorem d36_21 : decode qc36 21 = .ok (.ifCond .eq 16, 3) := by decide +kernel
theorem d36_24 : decode qc36 24 = .ok (.iload_n 1, 1) := by decide +kernel
theorem d36_25 : decode qc36 25 = .ok (.iload_n 3, 1) := by decide +kernel
theorem d36_26 : decode qc36 26 = .ok (.aload_n 0, 1) := by decide +kernel
theorem d36_27 : decode qc36 27 = .ok (.getfield 15, 3) := by decide +kernel
theorem d36_30 : decode qc36 30 = .ok (.invokestatic 248, 3) := by decide +kernel
theorem ww234 (hw : HW Z a0) : Cond.before (Cond.methodLink cn_0 248 ({ cls := cn_7, name := "getChars", desc := "(II[B)I" } : MethodName)) a0 Z = true := own_w hw 234 rfl
theorem ww236 (hw : HW Z a0) : Cond.before (Cond.code ({ cls := cn_7, name := "getChars", desc := "(II[B)I" } : MethodName) jdk_33_method_12_code 7 (Option.some FieldType.int)) a0 Z = true := own_w hw 236 rfl
theorem pd_22 : parseMethodDescriptor "(II[B)I" = some ⟨[.int, .int, (.array .byte)], some .int⟩ := by decide +kernel
theorem ww235 (hw : HW Z a0) : Cond.before (Cond.static ({ cls := cn_7, name := "getChars", desc := "(II[B)I" } : MethodName)) a0 Z = true := own_w hw 235 rfl
theorem d36_33 : decode qc36 33 = .ok (.pop, 1) := by decide +kernel
theorem d36_34 : decode qc36 34 = .ok (.goto 14, 3) := by decide +kernel
theorem d36_48 : decode qc36 48 = .ok (.aload_n 0, 1) := by decide +kernel
theorem d36_49 : decode qc36 49 = .ok (.iload_n 3, 1) := by decide +kernel
theorem d36_50 : decode qc36 50 = .ok (.putfield 79, 3) := by decide +kernel
theorem d36_53 : decode qc36 53 = .ok (.aload_n 0, 1) := by decide +kernel
theorem d36_54 : decode qc36 54 = .ok (.areturn, 1) := by decide +kernel
abbrev rr_aai : Room := { frames := 1, cells := 0, slots := 0, locals := 18 }
abbrev y_36 : MethodName := ⟨cn_0, "append", cn_21⟩
theorem ef_aai (m : MethodId) (o0 : Addr) (p1 : Int32) : entryFrame m #[(.ref o0), (.int p1)] 4 = mkF m 0 #[vR o0, vI p1, u_, u_] [] := by first | (simp [entryFrame, mkF, argsToLocals, Value.category]; done) | rfl
def Q_aai (Z : State) (w_0 w_1 : Addr) (w_2 : Int32) (w_3 : Value) (o0 : Addr) (p1 : Int32) (a : Addr) (ka : ClassId) (h0 : Heap) (n0 : Nat) (v : Option Value) (h : Heap) (L : List Loc) : Prop := ∃ n : Int32, ∃ ds : List Int32, v = some (.ref o0) ∧ Fr n0 L ∧ Keep h0 h [o0, a] ∧ Exa Z h o0 cn_4 ∧ Fld Z h o0 cn_0 "value" "[B" (.ref a) ∧ Fld Z h o0 cn_0 "coder" "B" (.int 0) ∧ Fld Z h o0 cn_0 "count" "I" (.int ((6 : Int32) + n)) ∧ Exa Z h a "[B" ∧ Arv Z h a ka .byte (16 : Int32) (own_by (own_L ++ ds)) (.int 0) ∧ own_dl p1 n ds
theorem rm_aai (l : Launch) (Z : State) (a0 : Array Value) (hw : HW Z a0) (ws : List Jvm.Cond) (w_0 w_1 : Addr) (w_2 : Int32) (w_3 : Value) (o0 : Addr) (p1 : Int32) (a : Addr) (ka : ClassId) (h0 : Heap) (n0 : Nat) (Z0 : n0 ≤ h0.size) (ST : own_St Z w_0 w_1 w_2 w_3) (O0 : Old Z n0 h0) (Eb : Exa Z h0 o0 cn_4) (Fbv : Fld Z h0 o0 cn_0 "value" "[B" (.ref a)) (Fbc : Fld Z h0 o0 cn_0 "coder" "B" (.int 0)) (Fbn : Fld Z h0 o0 cn_0 "count" "I" (.int 6)) (Vb : Arv Z h0 a ka .byte (16 : Int32) (own_by own_L) (.int 0)) (Ea : Exa Z h0 a "[B") (geo : n0 ≤ o0) (gea : n0 ≤ a) (hp : (0 : Int32) < p1) :
    own_Met l y_36 jdk_68_method_32_code 4 (some (.object cn_0)) ws rr_aai Z #[(.ref o0), (.int p1)] h0 (Q_aai Z w_0 w_1 w_2 w_3 o0 p1 a ka h0 n0) := by
  refine MetFree.of_bodySF (plainFor_of_name pn_3) hisR ?_
  intro p e s m args below meth c s₁ Bd hml0 hP hK
  obtain ⟨rfl, hZ, hh⟩ := hP
  have hx := Bd.exec
  have hby := Bd.bytes
  have B := @hb _ _ hby
  have hml : c.maxLocals = 4 := hml0
  have hown : s.vm.findClass cn_0 = some m.cls := findClass_of_methodNamed Bd.named
  have X0 : Stand p l e rr_aai s m #[(.ref o0), (.int p1)] below meth c s₁ [] 0 0 := Stand.of_body Bd
  have e0 : s₁.heap = h0 := by rw [← hh, Bd.state]; rfl
  have N0 := Fr.nil n0
  have K0 : Keep h0 h0 [o0, a] := Keep.refl _ _
  obtain ⟨G, step, ret, fin⟩ := own_openX X0 (rr_aai.cells) (rr_aai.slots) (Q_aai Z w_0 w_1 w_2 w_3 o0 p1 a ka h0 n0) Bd.notSynchronized
  refine fin (g := entryFrame m #[(.ref o0), (.int p1)] 4) ?_
  rw [ef_aai m o0 p1]
  have ne_o0_a : o0 ≠ a := own_ne_arv Eb (ww77 hw) Vb
  refine step (fun _ => XS.aloadN X0.here hx rfl (B d36_0) rfl rfl) ?_
  obtain ⟨T1, X1, e1, st1⟩ := getF X0 hx hZ hown (host := "") (Or.inl (ww114 hw)) Via.refl e0 Fbn (g := (mkF m 1 #[vR o0, vI p1, u_, u_] [(.ref o0)])) rfl rfl (B d36_1)
  refine step st1 ?_
  refine step (fun _ => XS.istoreN X1.here hx rfl (B d36_4) rfl (l' := #[vR o0, vI p1, vI 6, u_]) rfl) ?_
  refine step (fun _ => XS.iloadN X1.here hx rfl (B d36_5) rfl) ?_
  refine step (fun _ => XS.iloadN X1.here hx rfl (B d36_6) rfl) ?_
  have hK2 := (backOf (R := rr_aai) (p := p) (e := e) (below := below) (s := s) (args := #[(.ref o0), (.int p1)]) (len := 3) (W := 1) (rm_ss l Z a0 hw [] w_0 w_1 w_2 w_3 p1 h0 n0 (own_old_le O0) ST O0 (hp : (0 : Int32) < p1)) hZ (ww232 hw) (ww231 hw) (by decide) (by decide))
  obtain ⟨_, _, ⟨T2, L2, k2, n2⟩, -, X2, ⟨Lc2, hQ2, l2, y2, z2⟩, st2⟩ := Jvm.LawKit.callS X1 hx (y := y_34) hown (mvT hZ (ww229 hw)) (mvT hZ (ww230 hw)) (mvT hZ (ww231 hw)) (mvT hZ (ww232 hw)) (by decide) hK2 (g := (mkF m 7 #[vR o0, vI p1, vI 6, u_] [(.int p1), (.int 6)])) rfl (by rw [hml]; rfl) (argsL := [(.int p1)]) (rest := [(.int 6)]) (lenOf pd_11 rfl) rfl (by show 2 * 0 + _ ≤ _; exact Nat.le_of_eq rfl) (B d36_7) (fun _ _ => ⟨rfl, e1, (by decide : 0 + 0 ≤ _), (by decide : 0 + 0 ≤ _)⟩)
  dsimp only [Pt.U, Pt.locs, Pt.cells, Pt.slots] at X2 l2 y2 z2 st2 hQ2
  subst l2 y2 z2
  obtain ⟨n_2, rfl, N2q, K2q, Y2_0⟩ := hQ2
  have N2 := Fr.app N0 N2q
  obtain ⟨lc2, X2, N2⟩ := own_gen X2 N2
  have O2 := O0.keep K2q all0
  have K2 : Keep h0 T2.heap [o0, a] := K0.trans K2q all0
  refine step (fun t k => st2 t k) ?_
  refine step (fun _ => XS.iadd X2.here hx rfl (B d36_10) rfl) ?_
  refine step (fun _ => XS.istoreN X2.here hx rfl (B d36_11) rfl (l' := #[vR o0, vI p1, vI 6, vI (((6 : Int32) + n_2))]) rfl) ?_
  refine step (fun _ => XS.aloadN X2.here hx rfl (B d36_12) rfl rfl) ?_
  refine step (fun _ => XS.iloadN X2.here hx rfl (B d36_13) rfl) ?_
  have f4 := (Exa.keep Eb K2q)
  have f5 := (Fld.keep Fbv K2q nin0)
  have f6 := (Fld.keep Fbc K2q nin0)
  have f7 := (Fld.keep Fbn K2q nin0)
  have f8 := (Arv.keep Vb K2q nin0)
  have f9 := (Exa.keep Ea K2q)
  have hK3 := (backOf (R := rr_aai) (p := p) (e := e) (below := below) (s := s) (args := #[(.ref o0), (.int p1)]) (len := 3) (W := 0) (rm_ecN l Z a0 hw [] w_0 w_1 w_2 w_3 o0 ((6 : Int32) + n_2) a ka (16 : Int32) (6 : Int32) own_L T2.heap n0 (own_old_le O2) ST O2 f4 f5 f6 f7 f8 f9 own_sb6 ((own_ng6 Y2_0) : ¬ ((0 : Int32) < (((6 : Int32) + n_2) - (16 : Int32))))) hZ (ww120 hw) (ww86 hw) (by decide) (by decide))
  obtain ⟨cq3, kq3, q3a, q3b, q3c⟩ := isOf hZ rfl f4
  obtain ⟨_, _, ⟨T3, L3, k3, n3⟩, -, X3, ⟨Lc3, hQ3, l3, y3, z3⟩, st3⟩ := X2.virtualBack hx (y := y_13) (z := y_13) hown (mvT hZ (ww116 hw)) (mvT hZ (own_decl (ww117 hw) (ww120 hw))) (notFace_of_selects (args := #[]) (mvT hZ (ww119 hw))) (mvT hZ (ww119 hw)) (mvT hZ (ww117 hw)) (by decide) hK3 q3a q3c (g := (mkF m 14 #[vR o0, vI p1, vI 6, vI (((6 : Int32) + n_2))] [(.int ((6 : Int32) + n_2)), (.ref o0)])) rfl (by rw [hml]; rfl) (Steps.refl _) (argsL := [(.int ((6 : Int32) + n_2))]) (rest := []) (lenOf pd_8 rfl) rfl (by show 2 * 0 + _ ≤ _; exact Nat.le_of_eq rfl) (B d36_14) (fun _ _ => ⟨rfl, rfl, (by decide : 0 + 0 ≤ _), (by decide : 0 + 0 ≤ _)⟩)
  dsimp only [Pt.U, Pt.locs, Pt.cells, Pt.slots] at X3 l3 y3 z3 st3 hQ3
  subst l3 y3 z3
  obtain ⟨rfl, N3q, e3⟩ := hQ3
  have N3 := Fr.app N2 N3q
  obtain ⟨lc3, X3, N3⟩ := own_gen X3 N3
  refine step (fun t k => st3.trans k) ?_
  refine step (fun _ => XS.aloadN X3.here hx rfl (B d36_17) rfl rfl) ?_
  have hK10 := (backOf (R := rr_aai) (p := p) (e := e) (below := below) (s := s) (args := #[(.ref o0), (.int p1)]) (len := 3) (W := 0) (rm_il l Z a0 hw [] w_0 w_1 w_2 w_3 o0 T2.heap n0 (own_old_le O2) ST O2 f6) hZ (ww172 hw) (ww86 hw) (by decide) (by decide))
  obtain ⟨cq10, kq10, q10a, q10b, q10c⟩ := isOf hZ e3 f4
  obtain ⟨_, _, ⟨T10, L10, k10, n10⟩, -, X10, ⟨Lc10, hQ10, l10, y10, z10⟩, st10⟩ := X3.virtualBack hx (y := y_27) (z := y_27) hown (mvT hZ (ww233 hw)) (mvT hZ (ww169 hw)) (notFace_of_selects (args := #[]) (mvT hZ (ww171 hw))) (mvT hZ (ww171 hw)) (mvT hZ (ww170 hw)) (by decide) hK10 q10a q10c (g := (mkF m 18 #[vR o0, vI p1, vI 6, vI (((6 : Int32) + n_2))] [(.ref o0)])) rfl (by rw [hml]; rfl) (Steps.refl _) (argsL := []) (rest := []) (lenOf pd_6 rfl) rfl (by show 2 * 0 + _ ≤ _; exact Nat.le_of_eq rfl) (B d36_18) (fun _ _ => ⟨rfl, e3, (by decide : 0 + 0 ≤ _), (by decide : 0 + 0 ≤ _)⟩)
  dsimp only [Pt.U, Pt.locs, Pt.cells, Pt.slots] at X10 l10 y10 z10 st10 hQ10
  subst l10 y10 z10
  obtain ⟨rfl, N10q, e10⟩ := hQ10
  have N10 := Fr.app N3 N10q
  obtain ⟨lc10, X10, N10⟩ := own_gen X10 N10
  refine step (fun t k => st10.trans k) ?_
  have r11 : (f_il w_0 w_1 w_2 w_3 o0) = (1 : Int32) := rfl
  rw [r11]
  refine step (fun _ => XS.ifNo X10.here hx rfl (B d36_21) rfl ((if0 _ _).trans (feq (by decide : ¬ ((1 : Int32) = (0 : Int32)))).1)) ?_
  refine step (fun _ => XS.iloadN X10.here hx rfl (B d36_24) rfl) ?_
  refine step (fun _ => XS.iloadN X10.here hx rfl (B d36_25) rfl) ?_
  refine step (fun _ => XS.aloadN X10.here hx rfl (B d36_26) rfl rfl) ?_
  obtain ⟨T12, X12, e12, st12⟩ := getF X10 hx hZ hown (host := "") (Or.inl (ww90 hw)) Via.refl e10 f5 (g := (mkF m 27 #[vR o0, vI p1, vI 6, vI (((6 : Int32) + n_2))] [(.ref o0), (.int ((6 : Int32) + n_2)), (.int p1)])) rfl rfl (B d36_27)
  refine step st12 ?_
  have Vg := own_cv0 f8
  have hK13 := (backOf (R := rr_aai) (p := p) (e := e) (below := below) (s := s) (args := #[(.ref o0), (.int p1)]) (len := 3) (W := 0) (rm_gc l Z a0 hw [] w_0 w_1 w_2 w_3 p1 ((6 : Int32) + n_2) a ka n_2 T2.heap n0 (own_old_le O2) ST O2 (hp : (0 : Int32) < p1) Y2_0 rfl Vg gea) hZ (ww236 hw) (ww231 hw) (by decide) (by decide))
  obtain ⟨_, _, ⟨T13, L13, k13, n13⟩, -, X13, ⟨Lc13, hQ13, l13, y13, z13⟩, st13⟩ := Jvm.LawKit.callS X12 hx (y := y_35) hown (mvT hZ (ww234 hw)) (mvT hZ (ww235 hw)) (mvT hZ (ww231 hw)) (mvT hZ (ww236 hw)) (by decide) hK13 (g := (mkF m 30 #[vR o0, vI p1, vI 6, vI (((6 : Int32) + n_2))] [(.ref a), (.int ((6 : Int32) + n_2)), (.int p1)])) rfl (by rw [hml]; rfl) (argsL := [(.int p1), (.int ((6 : Int32) + n_2)), (.ref a)]) (rest := []) (lenOf pd_22 rfl) rfl (by show 2 * 0 + _ ≤ _; exact Nat.le_of_eq rfl) (B d36_30) (fun _ _ => ⟨rfl, e12, (by decide : 0 + 0 ≤ _), (by decide : 0 + 0 ≤ _)⟩)
  dsimp only [Pt.U, Pt.locs, Pt.cells, Pt.slots] at X13 l13 y13 z13 st13 hQ13
  subst l13 y13 z13
  obtain ⟨ds_13, rfl, N13q, K13q, Y13_0, Y13_1⟩ := hQ13
  have N13 := Fr.app N10 N13q
  obtain ⟨lc13, X13, N13⟩ := own_gen X13 N13
  have K13 : Keep h0 T13.heap [o0, a] := K2.trans K13q (allS (Or.inl (List.mem_of_getElem? (i := 1) rfl)) all0)
  refine step (fun t k => st13 t k) ?_
  refine step (fun _ => XS.pop X13.here hx rfl (B d36_33) rfl rfl) ?_
  refine step (fun _ => XS.goto X13.here hx rfl (pc0 := 34) (pc' := 48) rfl (B d36_34) (by decide) (by decide)) ?_
  refine step (fun _ => XS.aloadN X13.here hx rfl (B d36_48) rfl rfl) ?_
  refine step (fun _ => XS.iloadN X13.here hx rfl (B d36_49) rfl) ?_
  have f15 := (Fld.keep f7 K13q (ninS ne_o0_a nin0))
  have f16 := (Exa.keep f4 K13q)
  obtain ⟨T14, h14, X14, e14, W14, st14⟩ := putF X13 hx hZ hown (host := "") (Or.inl (ww114 hw)) Via.refl rfl f15 f16 (Or.inl (ww115 hw)) (ww77 hw) (ty := .int) (by decide) rfl rfl (g := (mkF m 50 #[vR o0, vI p1, vI 6, vI (((6 : Int32) + n_2))] [(.int ((6 : Int32) + n_2)), (.ref o0)])) rfl rfl (B d36_50)
  have F14 : Fld Z h14 o0 cn_0 "count" "I" (.int ((6 : Int32) + n_2)) := Fld.same W14 f15
  have N14 := Fr.snoc X14 N13 geo
  obtain ⟨lc14, X14, N14⟩ := own_gen X14 N14
  have K14 : Keep h0 h14 [o0, a] := K13.wr W14 (Or.inl (List.mem_of_getElem? (i := 0) rfl))
  refine step st14 ?_
  refine step (fun _ => XS.aloadN X14.here hx rfl (B d36_53) rfl rfl) ?_
  have f17 := (Exa.wr W14 f16)
  have f18 := (Fld.other W14 (Fld.keep f5 K13q (ninS ne_o0_a nin0)) (Or.inr (slot_ne (Or.inl (ww91 hw)) (Or.inl (ww115 hw)) (by decide) (t := (.array .byte)) (t' := .int) (by decide) (by decide))))
  have f19 := (Fld.other W14 (Fld.keep f6 K13q (ninS ne_o0_a nin0)) (Or.inr (slot_ne (Or.inl (ww93 hw)) (Or.inl (ww115 hw)) (by decide) (t := .byte) (t' := .int) (by decide) (by decide))))
  have f20 := (Exa.wr W14 (Exa.keep f9 K13q))
  have f21 := (Arv.other Y13_0 W14 (Ne.symm ne_o0_a))
  exact ret (v := some (.ref o0)) X14 (fun h => by rw [Bd.returns] at h; cases h) (fun fs hr => retA X14 hx Bd.returns rfl rfl (B d36_54) hr) e14 ⟨n_2, ds_13, rfl, N14, K14, f17, f18, f19, F14, f20, f21, Y13_1⟩ (by decide) (by decide)
theorem d37_0 : decode qc37 0 = .ok (.aload_n 0, 1) := by decide +kernel
theorem d37_1 : decode qc37 1 = .ok (.iload_n 1, 1) := by decide +kernel
theorem d37_2 : decode qc37 2 = .ok (.invokespecial 53, 3) := by decide +kernel
theorem ww225 (hw : HW Z a0) : Cond.before (Cond.methodLink cn_4 53 ({ cls := cn_0, name := "append", desc := cn_21 } : MethodName)) a0 Z = true := own_w hw 225 rfl
theorem ww228 (hw : HW Z a0) : Cond.before (Cond.code ({ cls := cn_0, name := "append", desc := cn_21 } : MethodName) jdk_68_method_32_code 4 (Option.some (FieldType.object cn_0))) a0 Z = true := own_w hw 228 rfl
theorem pd_23 : parseMethodDescriptor cn_21 = some ⟨[.int], some (.object cn_0)⟩ := by decide +kernel
theorem ww227 (hw : HW Z a0) : Cond.before (Cond.declares ({ cls := cn_0, name := "append", desc := cn_21 } : MethodName)) a0 Z = true := own_w hw 227 rfl
theorem ww226 (hw : HW Z a0) : Cond.before (Cond.instanceMethod ({ cls := cn_0, name := "append", desc := cn_21 } : MethodName)) a0 Z = true := own_w hw 226 rfl
theorem d37_5 : decode qc37 5 = .ok (.pop, 1) := by decide +kernel
theorem d37_6 : decode qc37 6 = .ok (.aload_n 0, 1) := by decide +kernel
theorem d37_7 : decode qc37 7 = .ok (.areturn, 1) := by decide +kernel
abbrev rr_sai : Room := { frames := 2, cells := 0, slots := 0, locals := 33 }
abbrev y_37 : MethodName := ⟨cn_4, "append", cn_20⟩
theorem ef_sai (m : MethodId) (o0 : Addr) (p1 : Int32) : entryFrame m #[(.ref o0), (.int p1)] 2 = mkF m 0 #[vR o0, vI p1] [] := by first | (simp [entryFrame, mkF, argsToLocals, Value.category]; done) | rfl
def Q_sai (Z : State) (w_0 w_1 : Addr) (w_2 : Int32) (w_3 : Value) (o0 : Addr) (p1 : Int32) (a : Addr) (ka : ClassId) (h0 : Heap) (n0 : Nat) (v : Option Value) (h : Heap) (L : List Loc) : Prop := ∃ n : Int32, ∃ ds : List Int32, v = some (.ref o0) ∧ Fr n0 L ∧ Keep h0 h [o0, a] ∧ Exa Z h o0 cn_4 ∧ Fld Z h o0 cn_0 "value" "[B" (.ref a) ∧ Fld Z h o0 cn_0 "coder" "B" (.int 0) ∧ Fld Z h o0 cn_0 "count" "I" (.int ((6 : Int32) + n)) ∧ Exa Z h a "[B" ∧ Arv Z h a ka .byte (16 : Int32) (own_by (own_L ++ ds)) (.int 0) ∧ own_dl p1 n ds
theorem rm_sai (l : Launch) (Z : State) (a0 : Array Value) (hw : HW Z a0) (ws : List Jvm.Cond) (w_0 w_1 : Addr) (w_2 : Int32) (w_3 : Value) (o0 : Addr) (p1 : Int32) (a : Addr) (ka : ClassId) (h0 : Heap) (n0 : Nat) (Z0 : n0 ≤ h0.size) (ST : own_St Z w_0 w_1 w_2 w_3) (O0 : Old Z n0 h0) (Eb : Exa Z h0 o0 cn_4) (Fbv : Fld Z h0 o0 cn_0 "value" "[B" (.ref a)) (Fbc : Fld Z h0 o0 cn_0 "coder" "B" (.int 0)) (Fbn : Fld Z h0 o0 cn_0 "count" "I" (.int 6)) (Vb : Arv Z h0 a ka .byte (16 : Int32) (own_by own_L) (.int 0)) (Ea : Exa Z h0 a "[B") (geo : n0 ≤ o0) (gea : n0 ≤ a) (hp : (0 : Int32) < p1) :
    own_Met l y_37 jdk_67_method_15_code 2 (some (.object cn_4)) ws rr_sai Z #[(.ref o0), (.int p1)] h0 (Q_sai Z w_0 w_1 w_2 w_3 o0 p1 a ka h0 n0) := by
  refine MetFree.of_bodySF (plainFor_of_name pn_4) hisR ?_
  intro p e s m args below meth c s₁ Bd hml0 hP hK
  obtain ⟨rfl, hZ, hh⟩ := hP
  have hx := Bd.exec
  have hby := Bd.bytes
  have B := @hb _ _ hby
  have hml : c.maxLocals = 2 := hml0
  have hown : s.vm.findClass cn_4 = some m.cls := findClass_of_methodNamed Bd.named
  have X0 : Stand p l e rr_sai s m #[(.ref o0), (.int p1)] below meth c s₁ [] 0 0 := Stand.of_body Bd
  have e0 : s₁.heap = h0 := by rw [← hh, Bd.state]; rfl
  have N0 := Fr.nil n0
  have K0 : Keep h0 h0 [o0, a] := Keep.refl _ _
  obtain ⟨G, step, ret, fin⟩ := own_openX X0 (rr_sai.cells) (rr_sai.slots) (Q_sai Z w_0 w_1 w_2 w_3 o0 p1 a ka h0 n0) Bd.notSynchronized
  refine fin (g := entryFrame m #[(.ref o0), (.int p1)] 2) ?_
  rw [ef_sai m o0 p1]
  refine step (fun _ => XS.aloadN X0.here hx rfl (B d37_0) rfl rfl) ?_
  refine step (fun _ => XS.iloadN X0.here hx rfl (B d37_1) rfl) ?_
  have hK1 := (backOf (R := rr_sai) (p := p) (e := e) (below := below) (s := s) (args := #[(.ref o0), (.int p1)]) (len := 3) (W := 0) (rm_aai l Z a0 hw [] w_0 w_1 w_2 w_3 o0 p1 a ka h0 n0 (own_old_le O0) ST O0 Eb Fbv Fbc Fbn Vb Ea geo gea (hp : (0 : Int32) < p1)) hZ (ww228 hw) (ww86 hw) (by decide) (by decide))
  obtain ⟨_, _, ⟨T1, L1, k1, n1⟩, -, X1, ⟨Lc1, hQ1, l1, y1, z1⟩, st1⟩ := superBack X0 hx hZ (y := y_36) hown (ww225 hw) (own_same (ww227 hw) (ww158 hw) (ww156 hw) rfl (by decide)) (ww226 hw) (ww101 hw) (by decide) hK1 e0 (Ins.self Eb) (g := (mkF m 2 #[vR o0, vI p1] [(.int p1), (.ref o0)])) rfl (by rw [hml]; rfl) (ww228 hw) (argsL := [(.int p1)]) (rest := []) (lenOf pd_23 rfl) rfl (by show 2 * 0 + _ ≤ _; exact Nat.le_of_eq rfl) (B d37_2) (fun _ _ => ⟨rfl, e0, (by decide : 0 + 0 ≤ _), (by decide : 0 + 0 ≤ _)⟩)
  dsimp only [Pt.U, Pt.locs, Pt.cells, Pt.slots] at X1 l1 y1 z1 st1 hQ1
  subst l1 y1 z1
  obtain ⟨n_1, ds_1, rfl, N1q, K1q, Y1_0, Y1_1, Y1_2, Y1_3, Y1_4, Y1_5, Y1_6⟩ := hQ1
  have N1 := Fr.app N0 N1q
  obtain ⟨lc1, X1, N1⟩ := own_gen X1 N1
  have K1 : Keep h0 T1.heap [o0, a] := K0.trans K1q (allS (Or.inl (List.mem_of_getElem? (i := 0) rfl)) (allS (Or.inl (List.mem_of_getElem? (i := 1) rfl)) all0))
  refine step (fun t k => st1.trans k) ?_
  refine step (fun _ => XS.pop X1.here hx rfl (B d37_5) rfl rfl) ?_
  refine step (fun _ => XS.aloadN X1.here hx rfl (B d37_6) rfl rfl) ?_
  exact ret (v := some (.ref o0)) X1 (fun h => by rw [Bd.returns] at h; cases h) (fun fs hr => retA X1 hx Bd.returns rfl rfl (B d37_7) hr) rfl ⟨n_1, ds_1, rfl, N1, K1, Y1_0, Y1_1, Y1_2, Y1_3, Y1_4, Y1_5, Y1_6⟩ (by decide) (by decide)
theorem own_z0a (n : Int32) : (0 : Int32) + n = n := by
  have c1 := c_iadd (0 : Int32) n
  have k0 : (0 : Int32).toInt = 0 := by decide
  have r1 := rng32 n
  have r2 := rng32 ((0 : Int32) + n)
  rw [own_xeq]
  omega
theorem d38_0 : decode qc38 0 = .ok (.aload_n 0, 1) := by decide +kernel
theorem d38_1 : decode qc38 1 = .ok (.ifnonnull 12, 3) := by decide +kernel
theorem d38_13 : decode qc38 13 = .ok (.aload_n 0, 1) := by decide +kernel
theorem d38_14 : decode qc38 14 = .ok (.areturn, 1) := by decide +kernel
abbrev rr_rn : Room := { frames := 0, cells := 0, slots := 0, locals := 0 }
abbrev y_38 : MethodName := ⟨cn_29, "requireNonNull", cn_16⟩
theorem pn_8 : plainName cn_29 = true := by first | (simp [plainName, overriddenIn]; done) | decide +kernel
theorem ef_rn (m : MethodId) (o0 o1 : Addr) : entryFrame m #[(.ref o0), (.ref o1)] 2 = mkF m 0 #[vR o0, vR o1] [] := by first | (simp [entryFrame, mkF, argsToLocals, Value.category]; done) | rfl
def f_rn  (o0 o1 : Addr) : Addr := o0
def Q_rn (Z : State)  (o0 o1 : Addr) (h0 : Heap) (n0 : Nat) (v : Option Value) (h : Heap) (L : List Loc) : Prop := v = some (.ref (f_rn o0 o1)) ∧ Fr n0 L ∧ h = h0
theorem rm_rn (l : Launch) (Z : State) (a0 : Array Value) (hw : HW Z a0) (ws : List Jvm.Cond)  (o0 o1 : Addr) (h0 : Heap) (n0 : Nat) (Z0 : n0 ≤ h0.size) (O0 : Old Z n0 h0) :
    own_Met l y_38 jdk_31_method_11_code 2 (some (.object cn_15)) ws rr_rn Z #[(.ref o0), (.ref o1)] h0 (Q_rn Z o0 o1 h0 n0) := by
  refine MetFree.of_bodySF (plainFor_of_name pn_8) hisR ?_
  intro p e s m args below meth c s₁ Bd hml0 hP hK
  obtain ⟨rfl, hZ, hh⟩ := hP
  have hx := Bd.exec
  have hby := Bd.bytes
  have B := @hb _ _ hby
  have hml : c.maxLocals = 2 := hml0
  have hown : s.vm.findClass cn_29 = some m.cls := findClass_of_methodNamed Bd.named
  have X0 : Stand p l e rr_rn s m #[(.ref o0), (.ref o1)] below meth c s₁ [] 0 0 := Stand.of_body Bd
  have e0 : s₁.heap = h0 := by rw [← hh, Bd.state]; rfl
  have N0 := Fr.nil n0
  obtain ⟨G, step, ret, fin⟩ := own_openX X0 (rr_rn.cells) (rr_rn.slots) (Q_rn Z o0 o1 h0 n0) Bd.notSynchronized
  refine fin (g := entryFrame m #[(.ref o0), (.ref o1)] 2) ?_
  rw [ef_rn m o0 o1]
  refine step (fun _ => XS.aloadN X0.here hx rfl (B d38_0) rfl rfl) ?_
  refine step (fun _ => XS.ifnonnullYes X0.here hx rfl (pc0 := 1) (pc' := 13) rfl (B d38_1) rfl (by decide) (by decide)) ?_
  refine step (fun _ => XS.aloadN X0.here hx rfl (B d38_13) rfl rfl) ?_
  exact ret (v := some (.ref o0)) X0 (fun h => by rw [Bd.returns] at h; cases h) (fun fs hr => retA X0 hx Bd.returns rfl rfl (B d38_14) hr) e0 ⟨rfl, N0, rfl⟩ (by decide) (by decide)
theorem d39_0 : decode qc39 0 = .ok (.aload_n 0, 1) := by decide +kernel
theorem d39_1 : decode qc39 1 = .ok (.invokespecial 1, 3) := by decide +kernel
theorem ww43 (hw : HW Z a0) : Cond.before (Cond.methodLink cn_1 1 ({ cls := cn_15, name := "<init>", desc := "()V" } : MethodName)) a0 Z = true := own_w hw 43 rfl
theorem d39_4 : decode qc39 4 = .ok (.aload_n 0, 1) := by decide +kernel
theorem d39_5 : decode qc39 5 = .ok (.aload_n 1, 1) := by decide +kernel
theorem d39_6 : decode qc39 6 = .ok (.ldc 7, 2) := by decide +kernel
theorem ww44 (hw : HW Z a0) : Cond.before (Cond.stringLink cn_1 7 "code") a0 Z = true := own_w hw 44 rfl
theorem d39_8 : decode qc39 8 = .ok (.invokestatic 9, 3) := by decide +kernel
theorem ww35 (hw : HW Z a0) : Cond.before (Cond.methodLink cn_1 9 ({ cls := cn_29, name := "requireNonNull", desc := cn_16 } : MethodName)) a0 Z = true := own_w hw 35 rfl
theorem ww38 (hw : HW Z a0) : Cond.before (Cond.code ({ cls := cn_29, name := "requireNonNull", desc := cn_16 } : MethodName) jdk_31_method_11_code 2 (Option.some (FieldType.object cn_15))) a0 Z = true := own_w hw 38 rfl
theorem ww37 (hw : HW Z a0) : Cond.before (Cond.initialized cn_29) a0 Z = true := own_w hw 37 rfl
theorem pd_24 : parseMethodDescriptor cn_16 = some ⟨[(.object cn_15), (.object cn_2)], some (.object cn_15)⟩ := by decide +kernel
theorem ww36 (hw : HW Z a0) : Cond.before (Cond.static ({ cls := cn_29, name := "requireNonNull", desc := cn_16 } : MethodName)) a0 Z = true := own_w hw 36 rfl
theorem d39_11 : decode qc39 11 = .ok (.checkcast 15, 3) := by decide +kernel
theorem ww39 (hw : HW Z a0) : Cond.before (Cond.classLink cn_1 15 cn_2) a0 Z = true := own_w hw 39 rfl
theorem d39_14 : decode qc39 14 = .ok (.putfield 17, 3) := by decide +kernel
theorem ww45 (hw : HW Z a0) : Cond.before (Cond.fieldLink cn_1 17 cn_1 "code" cn_5) a0 Z = true := own_w hw 45 rfl
theorem ww46 (hw : HW Z a0) : Cond.before (Cond.laysFinal cn_1 cn_1 "code" cn_5) a0 Z = true := own_w hw 46 rfl
theorem ww31 (hw : HW Z a0) : Cond.before (Cond.instantiable cn_1 5) a0 Z = true := own_w hw 31 rfl
theorem d39_17 : decode qc39 17 = .ok (.aload_n 0, 1) := by decide +kernel
theorem d39_18 : decode qc39 18 = .ok (.aload_n 2, 1) := by decide +kernel
theorem d39_19 : decode qc39 19 = .ok (.ldc 22, 2) := by decide +kernel
theorem ww47 (hw : HW Z a0) : Cond.before (Cond.stringLink cn_1 22 "message") a0 Z = true := own_w hw 47 rfl
theorem d39_21 : decode qc39 21 = .ok (.invokestatic 9, 3) := by decide +kernel
theorem d39_24 : decode qc39 24 = .ok (.checkcast 15, 3) := by decide +kernel
theorem d39_27 : decode qc39 27 = .ok (.putfield 24, 3) := by decide +kernel
theorem ww48 (hw : HW Z a0) : Cond.before (Cond.fieldLink cn_1 24 cn_1 "message" cn_5) a0 Z = true := own_w hw 48 rfl
theorem ww49 (hw : HW Z a0) : Cond.before (Cond.laysFinal cn_1 cn_1 "message" cn_5) a0 Z = true := own_w hw 49 rfl
theorem d39_30 : decode qc39 30 = .ok (.aload_n 0, 1) := by decide +kernel
theorem d39_31 : decode qc39 31 = .ok (.iload_n 3, 1) := by decide +kernel
theorem d39_32 : decode qc39 32 = .ok (.putfield 26, 3) := by decide +kernel
theorem ww50 (hw : HW Z a0) : Cond.before (Cond.fieldLink cn_1 26 cn_1 "line" "I") a0 Z = true := own_w hw 50 rfl
theorem ww51 (hw : HW Z a0) : Cond.before (Cond.laysFinal cn_1 cn_1 "line" "I") a0 Z = true := own_w hw 51 rfl
theorem d39_35 : decode qc39 35 = .ok (.aload_n 0, 1) := by decide +kernel
theorem d39_36 : decode qc39 36 = .ok (.aload 4, 2) := by decide +kernel
theorem d39_38 : decode qc39 38 = .ok (.putfield 30, 3) := by decide +kernel
theorem ww52 (hw : HW Z a0) : Cond.before (Cond.fieldLink cn_1 30 cn_1 "column" cn_5) a0 Z = true := own_w hw 52 rfl
theorem ww53 (hw : HW Z a0) : Cond.before (Cond.laysFinal cn_1 cn_1 "column" cn_5) a0 Z = true := own_w hw 53 rfl
theorem d39_41 : decode qc39 41 = .ok (.aload_n 0, 1) := by decide +kernel
theorem d39_42 : decode qc39 42 = .ok (.aload 5, 2) := by decide +kernel
theorem d39_44 : decode qc39 44 = .ok (.putfield 33, 3) := by decide +kernel
theorem ww54 (hw : HW Z a0) : Cond.before (Cond.fieldLink cn_1 33 cn_1 "detail" cn_5) a0 Z = true := own_w hw 54 rfl
theorem ww55 (hw : HW Z a0) : Cond.before (Cond.laysFinal cn_1 cn_1 "detail" cn_5) a0 Z = true := own_w hw 55 rfl
theorem d39_47 : decode qc39 47 = .ok (.return_, 1) := by decide +kernel
abbrev rr_pi : Room := { frames := 1, cells := 4, slots := 52, locals := 14 }
abbrev y_39 : MethodName := ⟨cn_1, "<init>", cn_11⟩
theorem pn_9 : plainName cn_1 = true := by first | (simp [plainName, overriddenIn]; done) | decide +kernel
theorem ef_pi (m : MethodId) (o0 o1 o2 : Addr) (p3 : Int32) (o4 : Addr) : entryFrame m #[(.ref o0), (.ref o1), (.ref o2), (.int p3), (.ref o4), .null] 6 = mkF m 0 #[vR o0, vR o1, vR o2, vI p3, vR o4, .val .null] [] := by first | (simp [entryFrame, mkF, argsToLocals, Value.category]; done) | rfl
def Q_pi (Z : State) (w_0 w_1 : Addr) (w_2 : Int32) (w_3 : Value) (o0 o1 o2 : Addr) (p3 : Int32) (o4 : Addr) (h0 : Heap) (n0 : Nat) (v : Option Value) (h : Heap) (L : List Loc) : Prop := v = none ∧ Fr n0 L ∧ Keep h0 h [o0] ∧ Exa Z h o0 cn_1 ∧ Fld Z h o0 cn_1 "code" cn_5 (.ref o1) ∧ Fld Z h o0 cn_1 "message" cn_5 (.ref o2) ∧ Fld Z h o0 cn_1 "line" "I" (.int p3) ∧ Fld Z h o0 cn_1 "column" cn_5 (.ref o4) ∧ Fld Z h o0 cn_1 "detail" cn_5 .null
theorem rm_pi (l : Launch) (Z : State) (a0 : Array Value) (hw : HW Z a0) (ws : List Jvm.Cond) (w_0 w_1 : Addr) (w_2 : Int32) (w_3 : Value) (o0 o1 o2 : Addr) (p3 : Int32) (o4 : Addr) (h0 : Heap) (n0 : Nat) (Z0 : n0 ≤ h0.size) (ST : own_St Z w_0 w_1 w_2 w_3) (O0 : Old Z n0 h0) (Ex : Exa Z h0 o0 cn_1) (geo : n0 ≤ o0) (Fq0 : Fld Z h0 o0 cn_1 "code" cn_5 .null) (Fq1 : Fld Z h0 o0 cn_1 "message" cn_5 .null) (Fq2 : Fld Z h0 o0 cn_1 "line" "I" (.int 0)) (Fq3 : Fld Z h0 o0 cn_1 "column" cn_5 .null) (Fq4 : Fld Z h0 o0 cn_1 "detail" cn_5 .null) (Ea : Exa Z h0 o1 cn_2) (Ec : Exa Z h0 o2 cn_2) :
    MetFree l y_39 (head1 (Jvm.Cond.code y_39 prog_12_method_1_code 6 none :: ws) rr_pi) (fun a U => a = #[(.ref o0), (.ref o1), (.ref o2), (.int p3), (.ref o4), .null] ∧ Z.Warmed39 U.vm ∧ U.heap = h0 ∧ CHv Z own_EL U.vm h0) (fun _ _ _ _ _ => True) (fun _ U o U' => ∃ v L, o = .returned v ∧ Q_pi Z w_0 w_1 w_2 w_3 o0 o1 o2 p3 o4 h0 n0 v U'.heap L ∧ CHr Z own_EL U.vm U.heap U'.vm U'.heap ∧ ReturnedEndW U o U' L rr_pi.cells rr_pi.slots) := by
  refine MetFree.of_bodySF (plainFor_of_name pn_9) hisR ?_
  intro p e s m args below meth c s₁ Bd hml0 hP hK
  obtain ⟨rfl, hZ, hh, hC⟩ := hP
  have hx := Bd.exec
  have hby := Bd.bytes
  have B := @hb _ _ hby
  have hml : c.maxLocals = 6 := hml0
  have hown : s.vm.findClass cn_1 = some m.cls := findClass_of_methodNamed Bd.named
  have hnm := (name_of_methodNamed Bd.named Bd.method).1
  have X0 : Stand p l e rr_pi (s.setVm s.vm) m #[(.ref o0), (.ref o1), (.ref o2), (.int p3), (.ref o4), .null] below meth c s₁ [] 0 0 := Stand.of_body Bd
  have e0 : s₁.heap = h0 := by rw [← hh, Bd.state]; rfl
  have N0 := Fr.nil n0
  replace hZ : Z.Warmed39 (s.setVm s.vm).vm := hZ
  replace hown : (s.setVm s.vm).vm.findClass cn_1 = some m.cls := hown
  have hS : s.Since s.vm h0.size := (State.WarmedH.refl s).since _
  have hk0 : h0.size ≤ h0.size := Nat.le_refl _
  have C0 : CHr Z own_EL s.vm h0 s.vm h0 := CHr.refl hC
  have K0 : Keep h0 h0 [o0] := Keep.refl _ _
  obtain ⟨G, step, ret, fin⟩ := own_openHX X0 (rr_pi.cells) (rr_pi.slots) (Q_pi Z w_0 w_1 w_2 w_3 o0 o1 o2 p3 o4 h0 n0) (own_EW hw) hh Bd.notSynchronized
  refine fin (g := entryFrame m #[(.ref o0), (.ref o1), (.ref o2), (.int p3), (.ref o4), .null] 6) ?_
  rw [ef_pi m o0 o1 o2 p3 o4]
  refine step (fun _ => XS.aloadN X0.here hx rfl (B d39_0) rfl rfl) ?_
  obtain ⟨T1, X1, e1, st1⟩ := initO X0 hx hZ hown (ww43 hw) (ww20 hw) (ww21 hw) e0 (g := (mkF m 1 #[vR o0, vR o1, vR o2, vI p3, vR o4, .val .null] [(.ref o0)])) rfl (by rw [hml]; rfl) rfl (B d39_1) (by decide) (W := 0) (by show 2 * 0 + _ ≤ _; exact Nat.le_of_eq rfl) (by decide)
  refine step st1 ?_
  refine step (fun _ => XS.aloadN X1.here hx rfl (B d39_4) rfl rfl) ?_
  refine step (fun _ => XS.aloadN X1.here hx rfl (B d39_5) rfl rfl) ?_
  obtain ⟨b2, T2, h2, k2, X2, e2, E2, hS, hk2, hZ, hown, hC2, -, st2⟩ := ldcOH (s := s) X1 hx hZ hown (ww44 hw) (own_wS hw) e1 hS hk0 (own_EW hw) C0.1 (g := (mkF m 6 #[vR o0, vR o1, vR o2, vI p3, vR o4, .val .null] [(.ref o1), (.ref o0)])) rfl (B d39_6) (n := 16) (by decide +kernel) (by decide) (by decide) (by decide)
  have cz2 : CHr Z own_EL s.vm h0 T2.vm h2 := hC2
  have C2 : CHr Z own_EL s.vm h0 T2.vm h2 := C0.trans cz2
  have O2 := O0.ext E2
  have K2 : Keep h0 h2 [o0] := K0.ext E2
  refine step st2 ?_
  have hK3 := (backOf (R := rr_pi) (p := p) (e := e) (below := below) (args := #[(.ref o0), (.ref o1), (.ref o2), (.int p3), (.ref o4), .null]) (len := 3) (W := 1) (rm_rn l Z a0 hw [] o1 b2 h2 n0 (own_old_le O2) O2) hZ (ww38 hw) (ww37 hw) (by decide) (by decide))
  obtain ⟨_, _, ⟨T3, L3, k3, n3⟩, -, X3, ⟨Lc3, hQ3, l3, y3, z3⟩, st3⟩ := Jvm.LawKit.callS X2 hx (y := y_38) hown (mvT hZ (ww35 hw)) (mvT hZ (ww36 hw)) (mvT hZ (ww37 hw)) (mvT hZ (ww38 hw)) (by decide) hK3 (g := (mkF m 8 #[vR o0, vR o1, vR o2, vI p3, vR o4, .val .null] [(.ref b2), (.ref o1), (.ref o0)])) rfl (by rw [hml]; rfl) (argsL := [(.ref o1), (.ref b2)]) (rest := [(.ref o0)]) (lenOf pd_24 rfl) rfl (by show 2 * 0 + _ ≤ _; exact Nat.le_of_eq rfl) (B d39_8) (fun _ _ => ⟨rfl, e2, (by decide : 2 + 0 ≤ _), (by decide : 20 + 0 ≤ _)⟩)
  dsimp only [Pt.U, Pt.locs, Pt.cells, Pt.slots] at X3 l3 y3 z3 st3 hQ3
  subst l3 y3 z3
  obtain ⟨rfl, N3q, e3⟩ := hQ3
  have N3 := Fr.app N0 N3q
  obtain ⟨lc3, X3, N3⟩ := own_gen X3 N3
  refine step (fun t k => st3 t k) ?_
  have r4 : (f_rn o1 b2) = o1 := rfl
  rw [r4]
  have f6 := (Exa.ext E2 Ea)
  obtain ⟨T5, X5, e5, st5⟩ := castY X3 hx hZ hown (ww39 hw) e3 (Ins.self f6) (g := (mkF m 11 #[vR o0, vR o1, vR o2, vI p3, vR o4, .val .null] [(.ref o1), (.ref o0)])) rfl rfl (B d39_11)
  refine step st5 ?_
  have f8 := (Fld.ext E2 Fq0)
  have f9 := (Exa.ext E2 Ex)
  obtain ⟨T7, h7, X7, e7, W7, st7⟩ := putF X5 hx hZ hown (host := "") (Or.inl (ww45 hw)) Via.refl e5 f8 f9 (Or.inr ⟨(ww46 hw), rfl, hnm⟩) (ww31 hw) (ty := (.object cn_2)) (by decide) rfl rfl (g := (mkF m 14 #[vR o0, vR o1, vR o2, vI p3, vR o4, .val .null] [(.ref o1), (.ref o0)])) rfl rfl (B d39_14)
  have F7 : Fld Z h7 o0 cn_1 "code" cn_5 (.ref o1) := Fld.same W7 f8
  have cz7 : CHr Z own_EL T2.vm h2 T2.vm h7 := CHr.wr W7 (Safe.exa hZ.alike f9 (by decide) (by decide)) C2.1
  have C7 : CHr Z own_EL s.vm h0 T2.vm h7 := C2.trans cz7
  have N7 := Fr.snoc X7 N3 geo
  obtain ⟨lc7, X7, N7⟩ := own_gen X7 N7
  have O7 := O2.wr W7 geo
  have hk7 := Nat.le_trans hk2 (Nat.le_of_eq W7.size.symm)
  have K7 : Keep h0 h7 [o0] := K2.wr W7 (Or.inl (List.mem_of_getElem? (i := 0) rfl))
  refine step st7 ?_
  refine step (fun _ => XS.aloadN X7.here hx rfl (B d39_17) rfl rfl) ?_
  refine step (fun _ => XS.aloadN X7.here hx rfl (B d39_18) rfl rfl) ?_
  have f11 := (Exa.wr W7 f9)
  have f13 := (Exa.wr W7 (Exa.ext E2 Ec))
  obtain ⟨b10, T10, h10, k10, X10, e10, E10, hS, hk10, hZ, hown, hC10, -, st10⟩ := ldcOH (s := s) X7 hx hZ hown (ww47 hw) (own_wS hw) e7 hS hk7 (own_EW hw) C7.1 (g := (mkF m 19 #[vR o0, vR o1, vR o2, vI p3, vR o4, .val .null] [(.ref o2), (.ref o0)])) rfl (B d39_19) (n := 28) (by decide +kernel) (by decide) (by decide) (by decide)
  have cz10 : CHr Z own_EL T2.vm h7 T10.vm h10 := hC10
  have C10 : CHr Z own_EL s.vm h0 T10.vm h10 := C7.trans cz10
  have O10 := O7.ext E10
  have K10 : Keep h0 h10 [o0] := K7.ext E10
  refine step st10 ?_
  have hK14 := (backOf (R := rr_pi) (p := p) (e := e) (below := below) (args := #[(.ref o0), (.ref o1), (.ref o2), (.int p3), (.ref o4), .null]) (len := 3) (W := 1) (rm_rn l Z a0 hw [] o2 b10 h10 n0 (own_old_le O10) O10) hZ (ww38 hw) (ww37 hw) (by decide) (by decide))
  obtain ⟨_, _, ⟨T14, L14, k14, n14⟩, -, X14, ⟨Lc14, hQ14, l14, y14, z14⟩, st14⟩ := Jvm.LawKit.callS X10 hx (y := y_38) hown (mvT hZ (ww35 hw)) (mvT hZ (ww36 hw)) (mvT hZ (ww37 hw)) (mvT hZ (ww38 hw)) (by decide) hK14 (g := (mkF m 21 #[vR o0, vR o1, vR o2, vI p3, vR o4, .val .null] [(.ref b10), (.ref o2), (.ref o0)])) rfl (by rw [hml]; rfl) (argsL := [(.ref o2), (.ref b10)]) (rest := [(.ref o0)]) (lenOf pd_24 rfl) rfl (by show 2 * 0 + _ ≤ _; exact Nat.le_of_eq rfl) (B d39_21) (fun _ _ => ⟨rfl, e10, (by decide : 4 + 0 ≤ _), (by decide : 52 + 0 ≤ _)⟩)
  dsimp only [Pt.U, Pt.locs, Pt.cells, Pt.slots] at X14 l14 y14 z14 st14 hQ14
  subst l14 y14 z14
  obtain ⟨rfl, N14q, e14⟩ := hQ14
  have N14 := Fr.app N7 N14q
  obtain ⟨lc14, X14, N14⟩ := own_gen X14 N14
  refine step (fun t k => st14 t k) ?_
  have r15 : (f_rn o2 b10) = o2 := rfl
  rw [r15]
  have f17 := (Exa.ext E10 f13)
  obtain ⟨T16, X16, e16, st16⟩ := castY X14 hx hZ hown (ww39 hw) e14 (Ins.self f17) (g := (mkF m 24 #[vR o0, vR o1, vR o2, vI p3, vR o4, .val .null] [(.ref o2), (.ref o0)])) rfl rfl (B d39_24)
  refine step st16 ?_
  have f19 := (Fld.ext E10 (Fld.other W7 (Fld.ext E2 Fq1) (Or.inr (slot_ne (Or.inr (ww49 hw)) (Or.inr (ww46 hw)) (by decide) (t := (.object cn_2)) (t' := (.object cn_2)) (by decide) (by decide)))))
  have f20 := (Exa.ext E10 f11)
  obtain ⟨T18, h18, X18, e18, W18, st18⟩ := putF X16 hx hZ hown (host := "") (Or.inl (ww48 hw)) Via.refl e16 f19 f20 (Or.inr ⟨(ww49 hw), rfl, hnm⟩) (ww31 hw) (ty := (.object cn_2)) (by decide) rfl rfl (g := (mkF m 27 #[vR o0, vR o1, vR o2, vI p3, vR o4, .val .null] [(.ref o2), (.ref o0)])) rfl rfl (B d39_27)
  have F18 : Fld Z h18 o0 cn_1 "message" cn_5 (.ref o2) := Fld.same W18 f19
  have cz18 : CHr Z own_EL T10.vm h10 T10.vm h18 := CHr.wr W18 (Safe.exa hZ.alike f20 (by decide) (by decide)) C10.1
  have C18 : CHr Z own_EL s.vm h0 T10.vm h18 := C10.trans cz18
  have N18 := Fr.snoc X18 N14 geo
  obtain ⟨lc18, X18, N18⟩ := own_gen X18 N18
  have hk18 := Nat.le_trans hk10 (Nat.le_of_eq W18.size.symm)
  have K18 : Keep h0 h18 [o0] := K10.wr W18 (Or.inl (List.mem_of_getElem? (i := 0) rfl))
  refine step st18 ?_
  refine step (fun _ => XS.aloadN X18.here hx rfl (B d39_30) rfl rfl) ?_
  refine step (fun _ => XS.iloadN X18.here hx rfl (B d39_31) rfl) ?_
  have f22 := (Fld.other W18 (Fld.ext E10 (Fld.other W7 (Fld.ext E2 Fq2) (Or.inr (slot_ne (Or.inr (ww51 hw)) (Or.inr (ww46 hw)) (by decide) (t := .int) (t' := (.object cn_2)) (by decide) (by decide))))) (Or.inr (slot_ne (Or.inr (ww51 hw)) (Or.inr (ww49 hw)) (by decide) (t := .int) (t' := (.object cn_2)) (by decide) (by decide))))
  have f23 := (Exa.wr W18 f20)
  obtain ⟨T21, h21, X21, e21, W21, st21⟩ := putF X18 hx hZ hown (host := "") (Or.inl (ww50 hw)) Via.refl e18 f22 f23 (Or.inr ⟨(ww51 hw), rfl, hnm⟩) (ww31 hw) (ty := .int) (by decide) rfl rfl (g := (mkF m 32 #[vR o0, vR o1, vR o2, vI p3, vR o4, .val .null] [(.int p3), (.ref o0)])) rfl rfl (B d39_32)
  have F21 : Fld Z h21 o0 cn_1 "line" "I" (.int p3) := Fld.same W21 f22
  have cz21 : CHr Z own_EL T10.vm h18 T10.vm h21 := CHr.wr W21 (Safe.exa hZ.alike f23 (by decide) (by decide)) C18.1
  have C21 : CHr Z own_EL s.vm h0 T10.vm h21 := C18.trans cz21
  have N21 := Fr.snoc X21 N18 geo
  obtain ⟨lc21, X21, N21⟩ := own_gen X21 N21
  have hk21 := Nat.le_trans hk18 (Nat.le_of_eq W21.size.symm)
  have K21 : Keep h0 h21 [o0] := K18.wr W21 (Or.inl (List.mem_of_getElem? (i := 0) rfl))
  refine step st21 ?_
  refine step (fun _ => XS.aloadN X21.here hx rfl (B d39_35) rfl rfl) ?_
  refine step (fun _ => XS.aload X21.here hx rfl (B d39_36) rfl rfl) ?_
  have f25 := (Fld.other W21 (Fld.other W18 (Fld.ext E10 (Fld.other W7 (Fld.ext E2 Fq3) (Or.inr (slot_ne (Or.inr (ww53 hw)) (Or.inr (ww46 hw)) (by decide) (t := (.object cn_2)) (t' := (.object cn_2)) (by decide) (by decide))))) (Or.inr (slot_ne (Or.inr (ww53 hw)) (Or.inr (ww49 hw)) (by decide) (t := (.object cn_2)) (t' := (.object cn_2)) (by decide) (by decide)))) (Or.inr (slot_ne (Or.inr (ww53 hw)) (Or.inr (ww51 hw)) (by decide) (t := (.object cn_2)) (t' := .int) (by decide) (by decide))))
  have f26 := (Exa.wr W21 f23)
  obtain ⟨T24, h24, X24, e24, W24, st24⟩ := putF X21 hx hZ hown (host := "") (Or.inl (ww52 hw)) Via.refl e21 f25 f26 (Or.inr ⟨(ww53 hw), rfl, hnm⟩) (ww31 hw) (ty := (.object cn_2)) (by decide) rfl rfl (g := (mkF m 38 #[vR o0, vR o1, vR o2, vI p3, vR o4, .val .null] [(.ref o4), (.ref o0)])) rfl rfl (B d39_38)
  have F24 : Fld Z h24 o0 cn_1 "column" cn_5 (.ref o4) := Fld.same W24 f25
  have cz24 : CHr Z own_EL T10.vm h21 T10.vm h24 := CHr.wr W24 (Safe.exa hZ.alike f26 (by decide) (by decide)) C21.1
  have C24 : CHr Z own_EL s.vm h0 T10.vm h24 := C21.trans cz24
  have N24 := Fr.snoc X24 N21 geo
  obtain ⟨lc24, X24, N24⟩ := own_gen X24 N24
  have hk24 := Nat.le_trans hk21 (Nat.le_of_eq W24.size.symm)
  have K24 : Keep h0 h24 [o0] := K21.wr W24 (Or.inl (List.mem_of_getElem? (i := 0) rfl))
  refine step st24 ?_
  refine step (fun _ => XS.aloadN X24.here hx rfl (B d39_41) rfl rfl) ?_
  refine step (fun _ => XS.aload X24.here hx rfl (B d39_42) rfl rfl) ?_
  have f28 := (Fld.other W24 (Fld.other W21 (Fld.other W18 (Fld.ext E10 (Fld.other W7 (Fld.ext E2 Fq4) (Or.inr (slot_ne (Or.inr (ww55 hw)) (Or.inr (ww46 hw)) (by decide) (t := (.object cn_2)) (t' := (.object cn_2)) (by decide) (by decide))))) (Or.inr (slot_ne (Or.inr (ww55 hw)) (Or.inr (ww49 hw)) (by decide) (t := (.object cn_2)) (t' := (.object cn_2)) (by decide) (by decide)))) (Or.inr (slot_ne (Or.inr (ww55 hw)) (Or.inr (ww51 hw)) (by decide) (t := (.object cn_2)) (t' := .int) (by decide) (by decide)))) (Or.inr (slot_ne (Or.inr (ww55 hw)) (Or.inr (ww53 hw)) (by decide) (t := (.object cn_2)) (t' := (.object cn_2)) (by decide) (by decide))))
  have f29 := (Exa.wr W24 f26)
  obtain ⟨T27, h27, X27, e27, W27, st27⟩ := putF X24 hx hZ hown (host := "") (Or.inl (ww54 hw)) Via.refl e24 f28 f29 (Or.inr ⟨(ww55 hw), rfl, hnm⟩) (ww31 hw) (ty := (.object cn_2)) (by decide) rfl rfl (g := (mkF m 44 #[vR o0, vR o1, vR o2, vI p3, vR o4, .val .null] [.null, (.ref o0)])) rfl rfl (B d39_44)
  have F27 : Fld Z h27 o0 cn_1 "detail" cn_5 .null := Fld.same W27 f28
  have cz27 : CHr Z own_EL T10.vm h24 T10.vm h27 := CHr.wr W27 (Safe.exa hZ.alike f29 (by decide) (by decide)) C24.1
  have C27 : CHr Z own_EL s.vm h0 T10.vm h27 := C24.trans cz27
  have N27 := Fr.snoc X27 N24 geo
  obtain ⟨lc27, X27, N27⟩ := own_gen X27 N27
  have hk27 := Nat.le_trans hk24 (Nat.le_of_eq W27.size.symm)
  have K27 : Keep h0 h27 [o0] := K24.wr W27 (Or.inl (List.mem_of_getElem? (i := 0) rfl))
  refine step st27 ?_
  have f30 := (Exa.wr W27 f29)
  have f31 := (Fld.other W27 (Fld.other W24 (Fld.other W21 (Fld.other W18 (Fld.ext E10 F7) (Or.inr (slot_ne (Or.inr (ww46 hw)) (Or.inr (ww49 hw)) (by decide) (t := (.object cn_2)) (t' := (.object cn_2)) (by decide) (by decide)))) (Or.inr (slot_ne (Or.inr (ww46 hw)) (Or.inr (ww51 hw)) (by decide) (t := (.object cn_2)) (t' := .int) (by decide) (by decide)))) (Or.inr (slot_ne (Or.inr (ww46 hw)) (Or.inr (ww53 hw)) (by decide) (t := (.object cn_2)) (t' := (.object cn_2)) (by decide) (by decide)))) (Or.inr (slot_ne (Or.inr (ww46 hw)) (Or.inr (ww55 hw)) (by decide) (t := (.object cn_2)) (t' := (.object cn_2)) (by decide) (by decide))))
  have f32 := (Fld.other W27 (Fld.other W24 (Fld.other W21 F18 (Or.inr (slot_ne (Or.inr (ww49 hw)) (Or.inr (ww51 hw)) (by decide) (t := (.object cn_2)) (t' := .int) (by decide) (by decide)))) (Or.inr (slot_ne (Or.inr (ww49 hw)) (Or.inr (ww53 hw)) (by decide) (t := (.object cn_2)) (t' := (.object cn_2)) (by decide) (by decide)))) (Or.inr (slot_ne (Or.inr (ww49 hw)) (Or.inr (ww55 hw)) (by decide) (t := (.object cn_2)) (t' := (.object cn_2)) (by decide) (by decide))))
  have f33 := (Fld.other W27 (Fld.other W24 F21 (Or.inr (slot_ne (Or.inr (ww51 hw)) (Or.inr (ww53 hw)) (by decide) (t := .int) (t' := (.object cn_2)) (by decide) (by decide)))) (Or.inr (slot_ne (Or.inr (ww51 hw)) (Or.inr (ww55 hw)) (by decide) (t := .int) (t' := (.object cn_2)) (by decide) (by decide))))
  have f34 := (Fld.other W27 F24 (Or.inr (slot_ne (Or.inr (ww53 hw)) (Or.inr (ww55 hw)) (by decide) (t := (.object cn_2)) (t' := (.object cn_2)) (by decide) (by decide))))
  exact ret (v := none) X27 hS hk27 C27 hZ (fun _ => rfl) (fun fs hr => X27.returnOut hx Bd.returns (B d39_47) hr) e27 ⟨rfl, N27, K27, f30, f31, f32, f33, f34, F27⟩ (by decide) (by decide)
theorem d40_0 : decode qc40 0 = .ok (.new 18, 3) := by decide +kernel
theorem ww30 (hw : HW Z a0) : Cond.before (Cond.classLink cn_1 18 cn_1) a0 Z = true := own_w hw 30 rfl
theorem ww28 (hw : HW Z a0) : Cond.before (Cond.initialized cn_1) a0 Z = true := own_w hw 28 rfl
theorem d40_3 : decode qc40 3 = .ok (.dup, 1) := by decide +kernel
theorem d40_4 : decode qc40 4 = .ok (.aload_n 0, 1) := by decide +kernel
theorem d40_5 : decode qc40 5 = .ok (.aload_n 3, 1) := by decide +kernel
theorem d40_6 : decode qc40 6 = .ok (.iload_n 1, 1) := by decide +kernel
theorem d40_7 : decode qc40 7 = .ok (.aload_n 2, 1) := by decide +kernel
theorem d40_8 : decode qc40 8 = .ok (.ldc 39, 2) := by decide +kernel
theorem ww32 (hw : HW Z a0) : Cond.before (Cond.stringLink cn_1 39 "column") a0 Z = true := own_w hw 32 rfl
theorem d40_10 : decode qc40 10 = .ok (.invokestatic 9, 3) := by decide +kernel
theorem d40_13 : decode qc40 13 = .ok (.checkcast 15, 3) := by decide +kernel
theorem d40_16 : decode qc40 16 = .ok (.aconst_null, 1) := by decide +kernel
theorem d40_17 : decode qc40 17 = .ok (.invokespecial 36, 3) := by decide +kernel
theorem ww40 (hw : HW Z a0) : Cond.before (Cond.methodLink cn_1 36 ({ cls := cn_1, name := "<init>", desc := cn_11 } : MethodName)) a0 Z = true := own_w hw 40 rfl
theorem ww42 (hw : HW Z a0) : Cond.before (Cond.code ({ cls := cn_1, name := "<init>", desc := cn_11 } : MethodName) prog_12_method_1_code 6 (Option.none : Option Jvm.ClassFile.FieldType)) a0 Z = true := own_w hw 42 rfl
theorem pd_25 : parseMethodDescriptor cn_11 = some ⟨[(.object cn_2), (.object cn_2), .int, (.object cn_2), (.object cn_2)], none⟩ := by decide +kernel
theorem ww41 (hw : HW Z a0) : Cond.before (Cond.instanceMethod ({ cls := cn_1, name := "<init>", desc := cn_11 } : MethodName)) a0 Z = true := own_w hw 41 rfl
theorem d40_20 : decode qc40 20 = .ok (.areturn, 1) := by decide +kernel
abbrev rr_at : Room := { frames := 2, cells := 7, slots := 85, locals := 32 }
abbrev y_40 : MethodName := ⟨cn_1, "atCell", cn_8⟩
theorem ef_at (m : MethodId) (o0 : Addr) (p1 : Int32) (o2 o3 : Addr) : entryFrame m #[(.ref o0), (.int p1), (.ref o2), (.ref o3)] 4 = mkF m 0 #[vR o0, vI p1, vR o2, vR o3] [] := by first | (simp [entryFrame, mkF, argsToLocals, Value.category]; done) | rfl
def Q_at (Z : State) (w_0 w_1 : Addr) (w_2 : Int32) (w_3 : Value) (o0 : Addr) (p1 : Int32) (o2 o3 : Addr) (h0 : Heap) (n0 : Nat) (v : Option Value) (h : Heap) (L : List Loc) : Prop := ∃ b : Addr, v = some (.ref b) ∧ Fr n0 L ∧ Keep h0 h [] ∧ h0.size ≤ b ∧ Exa Z h b cn_1 ∧ Fld Z h b cn_1 "code" cn_5 (.ref o0) ∧ Fld Z h b cn_1 "message" cn_5 (.ref o3) ∧ Fld Z h b cn_1 "line" "I" (.int p1) ∧ Fld Z h b cn_1 "column" cn_5 (.ref o2) ∧ Fld Z h b cn_1 "detail" cn_5 .null
theorem rm_at (l : Launch) (Z : State) (a0 : Array Value) (hw : HW Z a0) (ws : List Jvm.Cond) (w_0 w_1 : Addr) (w_2 : Int32) (w_3 : Value) (o0 : Addr) (p1 : Int32) (o2 o3 : Addr) (h0 : Heap) (n0 : Nat) (Z0 : n0 ≤ h0.size) (ST : own_St Z w_0 w_1 w_2 w_3) (O0 : Old Z n0 h0) (Eo0 : Exa Z h0 o0 cn_2) (Eo2 : Exa Z h0 o2 cn_2) (Eo3 : Exa Z h0 o3 cn_2) :
    MetFree l y_40 (head1 (Jvm.Cond.code y_40 prog_12_method_4_code 4 (some (.object cn_1)) :: ws) rr_at) (fun a U => a = #[(.ref o0), (.int p1), (.ref o2), (.ref o3)] ∧ Z.Warmed39 U.vm ∧ U.heap = h0 ∧ CHv Z own_EL U.vm h0) (fun _ _ _ _ _ => True) (fun _ U o U' => ∃ v L, o = .returned v ∧ Q_at Z w_0 w_1 w_2 w_3 o0 p1 o2 o3 h0 n0 v U'.heap L ∧ CHr Z own_EL U.vm U.heap U'.vm U'.heap ∧ ReturnedEndW U o U' L rr_at.cells rr_at.slots) := by
  refine MetFree.of_bodySF (plainFor_of_name pn_9) hisR ?_
  intro p e s m args below meth c s₁ Bd hml0 hP hK
  obtain ⟨rfl, hZ, hh, hC⟩ := hP
  have hx := Bd.exec
  have hby := Bd.bytes
  have B := @hb _ _ hby
  have hml : c.maxLocals = 4 := hml0
  have hown : s.vm.findClass cn_1 = some m.cls := findClass_of_methodNamed Bd.named
  have X0 : Stand p l e rr_at (s.setVm s.vm) m #[(.ref o0), (.int p1), (.ref o2), (.ref o3)] below meth c s₁ [] 0 0 := Stand.of_body Bd
  have e0 : s₁.heap = h0 := by rw [← hh, Bd.state]; rfl
  have N0 := Fr.nil n0
  replace hZ : Z.Warmed39 (s.setVm s.vm).vm := hZ
  replace hown : (s.setVm s.vm).vm.findClass cn_1 = some m.cls := hown
  have hS : s.Since s.vm h0.size := (State.WarmedH.refl s).since _
  have hk0 : h0.size ≤ h0.size := Nat.le_refl _
  have C0 : CHr Z own_EL s.vm h0 s.vm h0 := CHr.refl hC
  have K0 : Keep h0 h0 [] := Keep.refl _ _
  obtain ⟨G, step, ret, fin⟩ := own_openHX X0 (rr_at.cells) (rr_at.slots) (Q_at Z w_0 w_1 w_2 w_3 o0 p1 o2 o3 h0 n0) (own_EW hw) hh Bd.notSynchronized
  refine fin (g := entryFrame m #[(.ref o0), (.int p1), (.ref o2), (.ref o3)] 4) ?_
  rw [ef_at m o0 p1 o2 o3]
  obtain ⟨T1, h1, X1, e1, E1, A1, D1, -, st1⟩ := newO X0 hx hZ hown (ww30 hw) (ww31 hw) (ww28 hw) e0 (g := (mkF m 0 #[vR o0, vI p1, vR o2, vR o3] [])) rfl (B d40_0) (by decide) (by decide)
  obtain ⟨b1, g1⟩ : ∃ z, z = h0.size := ⟨_, rfl⟩
  rw [← g1] at A1 D1 st1
  have cz1 : CHr Z own_EL s.vm h0 s.vm h1 := CHr.ext E1 C0.1
  have C1 : CHr Z own_EL s.vm h0 s.vm h1 := C0.trans cz1
  have ge_b1 : n0 ≤ b1 := Nat.le_trans (own_old_le O0) (Nat.le_of_eq g1.symm)
  have sz_b1 : h0.size ≤ b1 := Nat.le_trans K0.1 (Nat.le_of_eq g1.symm)
  have O1 := O0.ext E1
  have hk1 := Nat.le_trans hk0 E1.1
  have K1 : Keep h0 h1 [] := K0.ext E1
  have F1_code : Fld Z h1 b1 cn_1 "code" cn_5 .null := D1 (Or.inr (ww46 hw)) (ty := (.object cn_2)) (by decide)
  have F1_message : Fld Z h1 b1 cn_1 "message" cn_5 .null := D1 (Or.inr (ww49 hw)) (ty := (.object cn_2)) (by decide)
  have F1_line : Fld Z h1 b1 cn_1 "line" "I" (.int 0) := D1 (Or.inr (ww51 hw)) (ty := .int) (by decide)
  have F1_column : Fld Z h1 b1 cn_1 "column" cn_5 .null := D1 (Or.inr (ww53 hw)) (ty := (.object cn_2)) (by decide)
  have F1_detail : Fld Z h1 b1 cn_1 "detail" cn_5 .null := D1 (Or.inr (ww55 hw)) (ty := (.object cn_2)) (by decide)
  refine step st1 ?_
  refine step (fun _ => XS.dup X1.here hx rfl (B d40_3) rfl rfl) ?_
  refine step (fun _ => XS.aloadN X1.here hx rfl (B d40_4) rfl rfl) ?_
  refine step (fun _ => XS.aloadN X1.here hx rfl (B d40_5) rfl rfl) ?_
  refine step (fun _ => XS.iloadN X1.here hx rfl (B d40_6) rfl) ?_
  refine step (fun _ => XS.aloadN X1.here hx rfl (B d40_7) rfl rfl) ?_
  show G T1 (mkF m 8 #[vR o0, vI p1, vR o2, vR o3] [(.ref o2), (.int p1), (.ref o3), (.ref o0), (.ref b1), (.ref b1)])
  have f3 := (Exa.ext E1 Eo0)
  have f4 := (Exa.ext E1 Eo2)
  have f5 := (Exa.ext E1 Eo3)
  obtain ⟨b2, T2, h2, k2, X2, e2, E2, hS, hk2, hZ, hown, hC2, -, st2⟩ := ldcOH (s := s) X1 hx hZ hown (ww32 hw) (own_wS hw) e1 hS hk1 (own_EW hw) C1.1 (g := (mkF m 8 #[vR o0, vI p1, vR o2, vR o3] [(.ref o2), (.int p1), (.ref o3), (.ref o0), (.ref b1), (.ref b1)])) rfl (B d40_8) (n := 24) (by decide +kernel) (by decide) (by decide) (by decide)
  have cz2 : CHr Z own_EL s.vm h1 T2.vm h2 := hC2
  have C2 : CHr Z own_EL s.vm h0 T2.vm h2 := C1.trans cz2
  have O2 := O1.ext E2
  have K2 : Keep h0 h2 [] := K1.ext E2
  refine step st2 ?_
  have hK6 := (backOf (R := rr_at) (p := p) (e := e) (below := below) (args := #[(.ref o0), (.int p1), (.ref o2), (.ref o3)]) (len := 3) (W := 5) (rm_rn l Z a0 hw [] o2 b2 h2 n0 (own_old_le O2) O2) hZ (ww38 hw) (ww37 hw) (by decide) (by decide))
  obtain ⟨_, _, ⟨T6, L6, k6, n6⟩, -, X6, ⟨Lc6, hQ6, l6, y6, z6⟩, st6⟩ := Jvm.LawKit.callS X2 hx (y := y_38) hown (mvT hZ (ww35 hw)) (mvT hZ (ww36 hw)) (mvT hZ (ww37 hw)) (mvT hZ (ww38 hw)) (by decide) hK6 (g := (mkF m 10 #[vR o0, vI p1, vR o2, vR o3] [(.ref b2), (.ref o2), (.int p1), (.ref o3), (.ref o0), (.ref b1), (.ref b1)])) rfl (by rw [hml]; rfl) (argsL := [(.ref o2), (.ref b2)]) (rest := [(.int p1), (.ref o3), (.ref o0), (.ref b1), (.ref b1)]) (lenOf pd_24 rfl) rfl (by show 2 * 0 + _ ≤ _; exact Nat.le_of_eq rfl) (B d40_10) (fun _ _ => ⟨rfl, e2, (by decide : 3 + 0 ≤ _), (by decide : 33 + 0 ≤ _)⟩)
  dsimp only [Pt.U, Pt.locs, Pt.cells, Pt.slots] at X6 l6 y6 z6 st6 hQ6
  subst l6 y6 z6
  obtain ⟨rfl, N6q, e6⟩ := hQ6
  have N6 := Fr.app N0 N6q
  obtain ⟨lc6, X6, N6⟩ := own_gen X6 N6
  refine step (fun t k => st6 t k) ?_
  have r7 : (f_rn o2 b2) = o2 := rfl
  rw [r7]
  have f9 := (Exa.ext E2 f4)
  obtain ⟨T8, X8, e8, st8⟩ := castY X6 hx hZ hown (ww39 hw) e6 (Ins.self f9) (g := (mkF m 13 #[vR o0, vI p1, vR o2, vR o3] [(.ref o2), (.int p1), (.ref o3), (.ref o0), (.ref b1), (.ref b1)])) rfl rfl (B d40_13)
  refine step st8 ?_
  refine step (fun _ => XS.aconstNull X8.here hx rfl (B d40_16)) ?_
  have f11 := (Exa.ext E2 A1)
  have f12 := (Fld.ext E2 F1_code)
  have f13 := (Fld.ext E2 F1_message)
  have f14 := (Fld.ext E2 F1_line)
  have f15 := (Fld.ext E2 F1_column)
  have f16 := (Fld.ext E2 F1_detail)
  have f17 := (Exa.ext E2 f3)
  have f18 := (Exa.ext E2 f5)
  have hK10 := (backOfSH (s := s) (vm0 := T2.vm) (R := rr_at) (p := p) (e := e) (below := below) (args := #[(.ref o0), (.int p1), (.ref o2), (.ref o3)]) (len := 3) (W := 1) (rm_pi l Z a0 hw [] w_0 w_1 w_2 w_3 b1 o0 o3 p1 o2 h2 n0 (own_old_le O2) ST O2 f11 ge_b1 f12 f13 f14 f15 f16 f17 f18) hZ (ww42 hw) (ww28 hw) (by decide) (by decide) (own_EW hw) C2.1)
  obtain ⟨_, _, ⟨T10, L10, k10, n10⟩, -, X10, hS10, hg10, ⟨Lc10, hQ10, l10, y10, z10, hC10⟩, st10⟩ := X8.specialBackS hx (y := y_39) rfl hown (mvT hZ (ww40 hw)) (mvT hZ (ww41 hw)) (mvT hZ (ww42 hw)) (by decide) hK10 (g := (mkF m 17 #[vR o0, vI p1, vR o2, vR o3] [.null, (.ref o2), (.int p1), (.ref o3), (.ref o0), (.ref b1), (.ref b1)])) rfl (by rw [hml]; rfl) (Steps.refl _) (a := b1) (argsL := [(.ref o0), (.ref o3), (.int p1), (.ref o2), .null]) (rest := [(.ref b1)]) (lenOf pd_25 rfl) rfl (by show 2 * 0 + _ ≤ _; exact Nat.le_of_eq rfl) (B d40_17) (fun _ _ => ⟨rfl, e8, (by decide : 3 + 4 ≤ _), (by decide : 33 + 52 ≤ _)⟩)
  dsimp only [Pt.U, Pt.locs, Pt.cells, Pt.slots] at X10 l10 y10 z10 st10 hQ10 hS10 hg10 hC10
  subst l10 y10 z10
  obtain ⟨X10, hS, hZ, hown⟩ := rebS (s := s) hS (by rw [e8]; exact hk2) X10 hS10 hg10 hZ hown
  obtain ⟨rfl, N10q, K10q, Y10_0, Y10_1, Y10_2, Y10_3, Y10_4, Y10_5⟩ := hQ10
  have N10 := Fr.app N6 N10q
  obtain ⟨lc10, X10, N10⟩ := own_gen X10 N10
  have cz10 : CHr Z own_EL T2.vm h2 T10.vm T10.heap := hC10
  have C10 : CHr Z own_EL s.vm h0 T10.vm T10.heap := C2.trans cz10
  have K10 : Keep h0 T10.heap [] := K2.trans K10q (allS (Or.inr sz_b1) all0)
  have hk10 : _ ≤ T10.heap.size := Nat.le_refl _
  refine step (fun t k => st10.trans k) ?_
  exact ret (v := some (.ref b1)) X10 hS hk10 C10 hZ (fun h => by rw [Bd.returns] at h; cases h) (fun fs hr => retA X10 hx Bd.returns rfl rfl (B d40_20) hr) rfl ⟨b1, rfl, N10, K10, sz_b1, Y10_0, Y10_1, Y10_2, Y10_3, Y10_4, Y10_5⟩ (by decide) (by decide)
theorem d41_0 : decode qc41 0 = .ok (.aload_n 0, 1) := by decide +kernel
theorem d41_1 : decode qc41 1 = .ok (.getfield 17, 3) := by decide +kernel
theorem d41_4 : decode qc41 4 = .ok (.areturn, 1) := by decide +kernel
abbrev rr_cd : Room := { frames := 0, cells := 0, slots := 0, locals := 0 }
abbrev y_41 : MethodName := ⟨cn_1, "code", cn_6⟩
theorem ef_cd (m : MethodId) (o0 : Addr) : entryFrame m #[(.ref o0)] 1 = mkF m 0 #[vR o0] [] := by first | (simp [entryFrame, mkF, argsToLocals, Value.category]; done) | rfl
def f_cd  (o0 o1 : Addr) : Addr := o1
def Q_cd (Z : State)  (o0 o1 : Addr) (h0 : Heap) (n0 : Nat) (v : Option Value) (h : Heap) (L : List Loc) : Prop := v = some (.ref (f_cd o0 o1)) ∧ Fr n0 L ∧ h = h0
theorem rm_cd (l : Launch) (Z : State) (a0 : Array Value) (hw : HW Z a0) (ws : List Jvm.Cond)  (o0 o1 : Addr) (h0 : Heap) (n0 : Nat) (Z0 : n0 ≤ h0.size) (O0 : Old Z n0 h0) (Fq : Fld Z h0 o0 cn_1 "code" cn_5 (.ref o1)) :
    own_Met l y_41 prog_12_method_6_code 1 (some (.object cn_2)) ws rr_cd Z #[(.ref o0)] h0 (Q_cd Z o0 o1 h0 n0) := by
  refine MetFree.of_bodySF (plainFor_of_name pn_9) hisR ?_
  intro p e s m args below meth c s₁ Bd hml0 hP hK
  obtain ⟨rfl, hZ, hh⟩ := hP
  have hx := Bd.exec
  have hby := Bd.bytes
  have B := @hb _ _ hby
  have hml : c.maxLocals = 1 := hml0
  have hown : s.vm.findClass cn_1 = some m.cls := findClass_of_methodNamed Bd.named
  have X0 : Stand p l e rr_cd s m #[(.ref o0)] below meth c s₁ [] 0 0 := Stand.of_body Bd
  have e0 : s₁.heap = h0 := by rw [← hh, Bd.state]; rfl
  have N0 := Fr.nil n0
  obtain ⟨G, step, ret, fin⟩ := own_openX X0 (rr_cd.cells) (rr_cd.slots) (Q_cd Z o0 o1 h0 n0) Bd.notSynchronized
  refine fin (g := entryFrame m #[(.ref o0)] 1) ?_
  rw [ef_cd m o0]
  refine step (fun _ => XS.aloadN X0.here hx rfl (B d41_0) rfl rfl) ?_
  obtain ⟨T1, X1, e1, st1⟩ := getF X0 hx hZ hown (host := "") (Or.inl (ww45 hw)) Via.refl e0 Fq (g := (mkF m 1 #[vR o0] [(.ref o0)])) rfl rfl (B d41_1)
  refine step st1 ?_
  exact ret (v := some (.ref o1)) X1 (fun h => by rw [Bd.returns] at h; cases h) (fun fs hr => retA X1 hx Bd.returns rfl rfl (B d41_4) hr) e1 ⟨rfl, N0, rfl⟩ (by decide) (by decide)
theorem d42_0 : decode qc42 0 = .ok (.aload_n 0, 1) := by decide +kernel
theorem d42_1 : decode qc42 1 = .ok (.getfield 24, 3) := by decide +kernel
theorem d42_4 : decode qc42 4 = .ok (.areturn, 1) := by decide +kernel
abbrev rr_ms : Room := { frames := 0, cells := 0, slots := 0, locals := 0 }
abbrev y_42 : MethodName := ⟨cn_1, "message", cn_6⟩
theorem ef_ms (m : MethodId) (o0 : Addr) : entryFrame m #[(.ref o0)] 1 = mkF m 0 #[vR o0] [] := by first | (simp [entryFrame, mkF, argsToLocals, Value.category]; done) | rfl
def f_ms  (o0 o1 : Addr) : Addr := o1
def Q_ms (Z : State)  (o0 o1 : Addr) (h0 : Heap) (n0 : Nat) (v : Option Value) (h : Heap) (L : List Loc) : Prop := v = some (.ref (f_ms o0 o1)) ∧ Fr n0 L ∧ h = h0
theorem rm_ms (l : Launch) (Z : State) (a0 : Array Value) (hw : HW Z a0) (ws : List Jvm.Cond)  (o0 o1 : Addr) (h0 : Heap) (n0 : Nat) (Z0 : n0 ≤ h0.size) (O0 : Old Z n0 h0) (Fq : Fld Z h0 o0 cn_1 "message" cn_5 (.ref o1)) :
    own_Met l y_42 prog_12_method_7_code 1 (some (.object cn_2)) ws rr_ms Z #[(.ref o0)] h0 (Q_ms Z o0 o1 h0 n0) := by
  refine MetFree.of_bodySF (plainFor_of_name pn_9) hisR ?_
  intro p e s m args below meth c s₁ Bd hml0 hP hK
  obtain ⟨rfl, hZ, hh⟩ := hP
  have hx := Bd.exec
  have hby := Bd.bytes
  have B := @hb _ _ hby
  have hml : c.maxLocals = 1 := hml0
  have hown : s.vm.findClass cn_1 = some m.cls := findClass_of_methodNamed Bd.named
  have X0 : Stand p l e rr_ms s m #[(.ref o0)] below meth c s₁ [] 0 0 := Stand.of_body Bd
  have e0 : s₁.heap = h0 := by rw [← hh, Bd.state]; rfl
  have N0 := Fr.nil n0
  obtain ⟨G, step, ret, fin⟩ := own_openX X0 (rr_ms.cells) (rr_ms.slots) (Q_ms Z o0 o1 h0 n0) Bd.notSynchronized
  refine fin (g := entryFrame m #[(.ref o0)] 1) ?_
  rw [ef_ms m o0]
  refine step (fun _ => XS.aloadN X0.here hx rfl (B d42_0) rfl rfl) ?_
  obtain ⟨T1, X1, e1, st1⟩ := getF X0 hx hZ hown (host := "") (Or.inl (ww48 hw)) Via.refl e0 Fq (g := (mkF m 1 #[vR o0] [(.ref o0)])) rfl rfl (B d42_1)
  refine step st1 ?_
  exact ret (v := some (.ref o1)) X1 (fun h => by rw [Bd.returns] at h; cases h) (fun fs hr => retA X1 hx Bd.returns rfl rfl (B d42_4) hr) e1 ⟨rfl, N0, rfl⟩ (by decide) (by decide)
theorem d43_0 : decode qc43 0 = .ok (.aload_n 0, 1) := by decide +kernel
theorem d43_1 : decode qc43 1 = .ok (.aload_n 1, 1) := by decide +kernel
theorem d43_2 : decode qc43 2 = .ok (.if_acmp .ne 5, 3) := by decide +kernel
theorem d43_5 : decode qc43 5 = .ok (.iconst 1, 1) := by decide +kernel
theorem d43_6 : decode qc43 6 = .ok (.ireturn, 1) := by decide +kernel
abbrev rr_eqs : Room := { frames := 0, cells := 0, slots := 0, locals := 0 }
abbrev y_43 : MethodName := ⟨cn_2, "equals", cn_23⟩
theorem ef_eqs (m : MethodId) (o0 o0 : Addr) : entryFrame m #[(.ref o0), (.ref o0)] 3 = mkF m 0 #[vR o0, vR o0, u_] [] := by first | (simp [entryFrame, mkF, argsToLocals, Value.category]; done) | rfl
def f_eqs  (o0 : Addr) : Int32 := (1 : Int32)
def Q_eqs (Z : State)  (o0 : Addr) (h0 : Heap) (n0 : Nat) (v : Option Value) (h : Heap) (L : List Loc) : Prop := v = some (.int (f_eqs o0)) ∧ Fr n0 L ∧ h = h0
theorem rm_eqs (l : Launch) (Z : State) (a0 : Array Value) (hw : HW Z a0) (ws : List Jvm.Cond)  (o0 : Addr) (h0 : Heap) (n0 : Nat) (Z0 : n0 ≤ h0.size) (O0 : Old Z n0 h0) :
    own_Met l y_43 jdk_42_method_66_code 3 (some .boolean) ws rr_eqs Z #[(.ref o0), (.ref o0)] h0 (Q_eqs Z o0 h0 n0) := by
  refine MetFree.of_bodySF (plainFor_of_name pn_0) hisR ?_
  intro p e s m args below meth c s₁ Bd hml0 hP hK
  obtain ⟨rfl, hZ, hh⟩ := hP
  have hx := Bd.exec
  have hby := Bd.bytes
  have B := @hb _ _ hby
  have hml : c.maxLocals = 3 := hml0
  have hown : s.vm.findClass cn_2 = some m.cls := findClass_of_methodNamed Bd.named
  have X0 : Stand p l e rr_eqs s m #[(.ref o0), (.ref o0)] below meth c s₁ [] 0 0 := Stand.of_body Bd
  have e0 : s₁.heap = h0 := by rw [← hh, Bd.state]; rfl
  have N0 := Fr.nil n0
  obtain ⟨G, step, ret, fin⟩ := own_openX X0 (rr_eqs.cells) (rr_eqs.slots) (Q_eqs Z o0 h0 n0) Bd.notSynchronized
  refine fin (g := entryFrame m #[(.ref o0), (.ref o0)] 3) ?_
  rw [ef_eqs m o0 o0]
  refine step (fun _ => XS.aloadN X0.here hx rfl (B d43_0) rfl rfl) ?_
  refine step (fun _ => XS.aloadN X0.here hx rfl (B d43_1) rfl rfl) ?_
  refine step (fun t k => Jvm.RoadKit.acmp X0 hx rfl rfl rfl (pc0 := 2) (pc' := 5) (same := true) rfl (B d43_2) rfl (decide_eq_true rfl) (by decide) (by decide) k) ?_
  refine step (fun _ => XS.iconst X0.here hx rfl (B d43_5)) ?_
  exact ret (v := some (.int 1)) X0 (fun h => by rw [Bd.returns] at h; cases h) (fun fs hr => retN X0 hx (t := .boolean) Bd.returns (by simp) (B d43_6) hr) e0 ⟨rfl, N0, rfl⟩ (by decide) (by decide)
theorem own_lenL : own_L.length = 6 := rfl
theorem own_lenC : own_C.length = 8 := rfl
theorem own_lenD : own_D.length = 2 := rfl
theorem own_lenE : own_E.length = 0 := rfl
theorem own_t16 : (16 : Int32).toNatClampNeg = 16 := by decide
def own_txA (c0 : Int32) (ds : List Int32) (c1 c2 : Int32) : List Int32 := c0 :: (own_L ++ ds ++ own_C ++ [c1, (58 : Int32), (32 : Int32), c2])
def own_txB (c0 c1 c2 : Int32) : List Int32 := c0 :: (own_C ++ [c1, (58 : Int32), (32 : Int32), c2])
def own_isT (c0 p c1 c2 : Int32) (cs : List Int32) : Prop := ((0 : Int32) < p ∧ ∃ n ds, own_dl p n ds ∧ cs = own_txA c0 ds c1 c2) ∨ (¬ (0 : Int32) < p ∧ cs = own_txB c0 c1 c2)
theorem own_isTp {c0 p c1 c2 : Int32} {cs : List Int32} (hp : (0 : Int32) < p) (h : own_isT c0 p c1 c2 cs) : ∃ n ds, own_dl p n ds ∧ cs = own_txA c0 ds c1 c2 := h.elim (fun z => z.2) (fun z => absurd hp z.1)
theorem own_isTn {c0 p c1 c2 : Int32} {cs : List Int32} (hp : ¬ (0 : Int32) < p) (h : own_isT c0 p c1 c2 cs) : cs = own_txB c0 c1 c2 := h.elim (fun z => absurd z.1 hp) (fun z => z.2)
def own_dlj (p : Int32) (dj : List Int32) : Prop := ((0 : Int32) < p ∧ ∃ n ds, own_dl p n ds ∧ dj = own_L ++ ds) ∨ (¬ (0 : Int32) < p ∧ dj = own_E)
theorem own_dj {p : Int32} {dj : List Int32} (h : own_dlj p dj) : dj.length ≤ 16 := by
  rcases h with ⟨hp, n, ds, hd, rfl⟩ | ⟨-, rfl⟩
  · have e := own_dll hp hd
    rw [List.length_append, own_lenL]
    omega
  · decide
theorem own_ist {p c0 c1 c2 : Int32} {dj : List Int32} (h : own_dlj p dj) : own_isT c0 p c1 c2 ((((([c0] ++ dj) ++ (own_C ++ [c1])) ++ own_D) ++ [c2]) ++ own_E) := by
  rcases h with ⟨hp, n, ds, hd, rfl⟩ | ⟨hp, rfl⟩
  · exact Or.inl ⟨hp, n, ds, hd, by simp [own_txA, own_D, own_E]⟩
  · exact Or.inr ⟨hp, by simp [own_txB, own_D, own_E]⟩
theorem d44_0 : decode qc44 0 = .ok (.new 56, 3) := by decide +kernel
theorem ww76 (hw : HW Z a0) : Cond.before (Cond.classLink cn_1 56 cn_4) a0 Z = true := own_w hw 76 rfl
theorem d44_3 : decode qc44 3 = .ok (.dup, 1) := by decide +kernel
theorem d44_4 : decode qc44 4 = .ok (.invokespecial 58, 3) := by decide +kernel
theorem ww79 (hw : HW Z a0) : Cond.before (Cond.methodLink cn_1 58 ({ cls := cn_4, name := "<init>", desc := "()V" } : MethodName)) a0 Z = true := own_w hw 79 rfl
theorem ww81 (hw : HW Z a0) : Cond.before (Cond.code ({ cls := cn_4, name := "<init>", desc := "()V" } : MethodName) jdk_67_method_1_code 1 (Option.none : Option Jvm.ClassFile.FieldType)) a0 Z = true := own_w hw 81 rfl
theorem pd_26 : parseMethodDescriptor "()V" = some ⟨[], none⟩ := by decide +kernel
theorem ww80 (hw : HW Z a0) : Cond.before (Cond.instanceMethod ({ cls := cn_4, name := "<init>", desc := "()V" } : MethodName)) a0 Z = true := own_w hw 80 rfl
theorem d44_7 : decode qc44 7 = .ok (.aload_n 0, 1) := by decide +kernel
theorem d44_8 : decode qc44 8 = .ok (.getfield 17, 3) := by decide +kernel
theorem d44_11 : decode qc44 11 = .ok (.invokevirtual 59, 3) := by decide +kernel
theorem ww94 (hw : HW Z a0) : Cond.before (Cond.methodLink cn_1 59 ({ cls := cn_4, name := "append", desc := cn_12 } : MethodName)) a0 Z = true := own_w hw 94 rfl
theorem ww97 (hw : HW Z a0) : Cond.before (Cond.selects cn_4 ({ cls := cn_4, name := "append", desc := cn_12 } : MethodName) ({ cls := cn_4, name := "append", desc := cn_12 } : MethodName)) a0 Z = true := own_w hw 97 rfl
theorem ww98 (hw : HW Z a0) : Cond.before (Cond.code ({ cls := cn_4, name := "append", desc := cn_12 } : MethodName) jdk_67_method_7_code 2 (Option.some (FieldType.object cn_4))) a0 Z = true := own_w hw 98 rfl
theorem pd_27 : parseMethodDescriptor cn_12 = some ⟨[(.object cn_2)], some (.object cn_4)⟩ := by decide +kernel
theorem ww95 (hw : HW Z a0) : Cond.before (Cond.declares ({ cls := cn_4, name := "append", desc := cn_12 } : MethodName)) a0 Z = true := own_w hw 95 rfl
theorem ww96 (hw : HW Z a0) : Cond.before (Cond.instanceMethod ({ cls := cn_4, name := "append", desc := cn_12 } : MethodName)) a0 Z = true := own_w hw 96 rfl
theorem d44_48 : decode qc44 48 = .ok (.invokevirtual 59, 3) := by decide +kernel
theorem d44_51 : decode qc44 51 = .ok (.aload_n 0, 1) := by decide +kernel
theorem d44_52 : decode qc44 52 = .ok (.getfield 30, 3) := by decide +kernel
theorem d44_55 : decode qc44 55 = .ok (.ifnull 28, 3) := by decide +kernel
theorem d44_58 : decode qc44 58 = .ok (.new 56, 3) := by decide +kernel
theorem d44_61 : decode qc44 61 = .ok (.dup, 1) := by decide +kernel
theorem d44_62 : decode qc44 62 = .ok (.invokespecial 58, 3) := by decide +kernel
theorem d44_65 : decode qc44 65 = .ok (.ldc 74, 2) := by decide +kernel
theorem d44_67 : decode qc44 67 = .ok (.invokevirtual 59, 3) := by decide +kernel
theorem d44_70 : decode qc44 70 = .ok (.aload_n 0, 1) := by decide +kernel
theorem d44_71 : decode qc44 71 = .ok (.getfield 30, 3) := by decide +kernel
theorem d44_74 : decode qc44 74 = .ok (.invokevirtual 59, 3) := by decide +kernel
theorem d44_77 : decode qc44 77 = .ok (.invokevirtual 68, 3) := by decide +kernel
theorem ww143 (hw : HW Z a0) : Cond.before (Cond.methodLink cn_1 68 ({ cls := cn_4, name := "toString", desc := cn_6 } : MethodName)) a0 Z = true := own_w hw 143 rfl
theorem ww146 (hw : HW Z a0) : Cond.before (Cond.selects cn_4 ({ cls := cn_4, name := "toString", desc := cn_6 } : MethodName) ({ cls := cn_4, name := "toString", desc := cn_6 } : MethodName)) a0 Z = true := own_w hw 146 rfl
theorem ww147 (hw : HW Z a0) : Cond.before (Cond.code ({ cls := cn_4, name := "toString", desc := cn_6 } : MethodName) jdk_67_method_42_code 1 (Option.some (FieldType.object cn_2))) a0 Z = true := own_w hw 147 rfl
theorem pd_28 : parseMethodDescriptor cn_6 = some ⟨[], some (.object cn_2)⟩ := by decide +kernel
theorem ww144 (hw : HW Z a0) : Cond.before (Cond.declares ({ cls := cn_4, name := "toString", desc := cn_6 } : MethodName)) a0 Z = true := own_w hw 144 rfl
theorem ww145 (hw : HW Z a0) : Cond.before (Cond.instanceMethod ({ cls := cn_4, name := "toString", desc := cn_6 } : MethodName)) a0 Z = true := own_w hw 145 rfl
theorem d44_80 : decode qc44 80 = .ok (.goto 5, 3) := by decide +kernel
theorem d44_85 : decode qc44 85 = .ok (.invokevirtual 59, 3) := by decide +kernel
theorem d44_88 : decode qc44 88 = .ok (.ldc 76, 2) := by decide +kernel
theorem d44_90 : decode qc44 90 = .ok (.invokevirtual 59, 3) := by decide +kernel
theorem d44_93 : decode qc44 93 = .ok (.aload_n 0, 1) := by decide +kernel
theorem d44_94 : decode qc44 94 = .ok (.getfield 24, 3) := by decide +kernel
theorem d44_97 : decode qc44 97 = .ok (.invokevirtual 59, 3) := by decide +kernel
theorem d44_100 : decode qc44 100 = .ok (.aload_n 0, 1) := by decide +kernel
theorem d44_101 : decode qc44 101 = .ok (.getfield 33, 3) := by decide +kernel
theorem d44_104 : decode qc44 104 = .ok (.ifnull 33, 3) := by decide +kernel
theorem d44_137 : decode qc44 137 = .ok (.ldc 72, 2) := by decide +kernel
theorem d44_139 : decode qc44 139 = .ok (.invokevirtual 59, 3) := by decide +kernel
theorem d44_142 : decode qc44 142 = .ok (.invokevirtual 68, 3) := by decide +kernel
theorem d44_145 : decode qc44 145 = .ok (.areturn, 1) := by decide +kernel
theorem d44_14 : decode qc44 14 = .ok (.aload_n 0, 1) := by decide +kernel
theorem d44_15 : decode qc44 15 = .ok (.getfield 26, 3) := by decide +kernel
theorem d44_18 : decode qc44 18 = .ok (.ifCond .le 28, 3) := by decide +kernel
theorem d44_21 : decode qc44 21 = .ok (.new 56, 3) := by decide +kernel
theorem d44_24 : decode qc44 24 = .ok (.dup, 1) := by decide +kernel
theorem d44_25 : decode qc44 25 = .ok (.invokespecial 58, 3) := by decide +kernel
theorem d44_28 : decode qc44 28 = .ok (.ldc 63, 2) := by decide +kernel
theorem d44_30 : decode qc44 30 = .ok (.invokevirtual 59, 3) := by decide +kernel
theorem d44_33 : decode qc44 33 = .ok (.aload_n 0, 1) := by decide +kernel
theorem d44_34 : decode qc44 34 = .ok (.getfield 26, 3) := by decide +kernel
theorem d44_37 : decode qc44 37 = .ok (.invokevirtual 65, 3) := by decide +kernel
theorem ww220 (hw : HW Z a0) : Cond.before (Cond.methodLink cn_1 65 ({ cls := cn_4, name := "append", desc := cn_20 } : MethodName)) a0 Z = true := own_w hw 220 rfl
theorem ww223 (hw : HW Z a0) : Cond.before (Cond.selects cn_4 ({ cls := cn_4, name := "append", desc := cn_20 } : MethodName) ({ cls := cn_4, name := "append", desc := cn_20 } : MethodName)) a0 Z = true := own_w hw 223 rfl
theorem ww224 (hw : HW Z a0) : Cond.before (Cond.code ({ cls := cn_4, name := "append", desc := cn_20 } : MethodName) jdk_67_method_15_code 2 (Option.some (FieldType.object cn_4))) a0 Z = true := own_w hw 224 rfl
theorem pd_29 : parseMethodDescriptor cn_20 = some ⟨[.int], some (.object cn_4)⟩ := by decide +kernel
theorem ww221 (hw : HW Z a0) : Cond.before (Cond.declares ({ cls := cn_4, name := "append", desc := cn_20 } : MethodName)) a0 Z = true := own_w hw 221 rfl
theorem ww222 (hw : HW Z a0) : Cond.before (Cond.instanceMethod ({ cls := cn_4, name := "append", desc := cn_20 } : MethodName)) a0 Z = true := own_w hw 222 rfl
theorem d44_40 : decode qc44 40 = .ok (.invokevirtual 68, 3) := by decide +kernel
theorem d44_43 : decode qc44 43 = .ok (.goto 5, 3) := by decide +kernel
theorem d44_46 : decode qc44 46 = .ok (.ldc 72, 2) := by decide +kernel
abbrev rr_pt : Room := { frames := 6, cells := 25, slots := 428, locals := 92 }
abbrev y_44 : MethodName := ⟨cn_1, "toString", cn_6⟩
theorem ef_pt (m : MethodId) (o0 : Addr) : entryFrame m #[(.ref o0)] 1 = mkF m 0 #[vR o0] [] := by first | (simp [entryFrame, mkF, argsToLocals, Value.category]; done) | rfl
def Q_pt (Z : State) (w_0 w_1 : Addr) (w_2 : Int32) (w_3 : Value) (o0 : Addr) (p9 : Int32) (sx0 tx0 : Addr) (kx0 : ClassId) (c0 : Int32) (sx1 tx1 : Addr) (kx1 : ClassId) (c1 : Int32) (sx2 tx2 : Addr) (kx2 : ClassId) (c2 : Int32) (h0 : Heap) (n0 : Nat) (v : Option Value) (h : Heap) (L : List Loc) : Prop := ∃ b : Addr, ∃ t : Addr, ∃ kk : ClassId, ∃ n : Int32, ∃ cs : List Int32, v = some (.ref b) ∧ Fr n0 L ∧ Keep h0 h [] ∧ h0.size ≤ b ∧ h0.size ≤ t ∧ Exa Z h b cn_2 ∧ Fld Z h b cn_2 "value" "[B" (.ref t) ∧ Fld Z h b cn_2 "coder" "B" (.int 0) ∧ Arv Z h t kk .byte n (own_by cs) (.int 0) ∧ own_ok n cs ∧ own_isT c0 p9 c1 c2 cs
theorem rm_pt (l : Launch) (Z : State) (a0 : Array Value) (hw : HW Z a0) (ws : List Jvm.Cond) (w_0 w_1 : Addr) (w_2 : Int32) (w_3 : Value) (o0 : Addr) (p9 : Int32) (sx0 tx0 : Addr) (kx0 : ClassId) (c0 : Int32) (sx1 tx1 : Addr) (kx1 : ClassId) (c1 : Int32) (sx2 tx2 : Addr) (kx2 : ClassId) (c2 : Int32) (h0 : Heap) (n0 : Nat) (Z0 : n0 ≤ h0.size) (ST : own_St Z w_0 w_1 w_2 w_3) (O0 : Old Z n0 h0) (Ex : Exa Z h0 o0 cn_1) (Fq0 : Fld Z h0 o0 cn_1 "code" cn_5 (.ref sx0)) (Fq1 : Fld Z h0 o0 cn_1 "message" cn_5 (.ref sx2)) (Fq2 : Fld Z h0 o0 cn_1 "line" "I" (.int p9)) (Fq3 : Fld Z h0 o0 cn_1 "column" cn_5 (.ref sx1)) (Fq4 : Fld Z h0 o0 cn_1 "detail" cn_5 .null) (Es0 : Exa Z h0 sx0 cn_2) (Fv0 : Fld Z h0 sx0 cn_2 "value" "[B" (.ref tx0)) (Fc0 : Fld Z h0 sx0 cn_2 "coder" "B" (.int 0)) (Va0 : Arv Z h0 tx0 kx0 .byte (1 : Int32) (own_by [c0]) (.int 0)) (hl0 : ¬ c0 < 0 ∧ ¬ (255 : Int32) < c0) (Es1 : Exa Z h0 sx1 cn_2) (Fv1 : Fld Z h0 sx1 cn_2 "value" "[B" (.ref tx1)) (Fc1 : Fld Z h0 sx1 cn_2 "coder" "B" (.int 0)) (Va1 : Arv Z h0 tx1 kx1 .byte (1 : Int32) (own_by [c1]) (.int 0)) (hl1 : ¬ c1 < 0 ∧ ¬ (255 : Int32) < c1) (Es2 : Exa Z h0 sx2 cn_2) (Fv2 : Fld Z h0 sx2 cn_2 "value" "[B" (.ref tx2)) (Fc2 : Fld Z h0 sx2 cn_2 "coder" "B" (.int 0)) (Va2 : Arv Z h0 tx2 kx2 .byte (1 : Int32) (own_by [c2]) (.int 0)) (hl2 : ¬ c2 < 0 ∧ ¬ (255 : Int32) < c2) :
    MetFree l y_44 (head1 (Jvm.Cond.code y_44 prog_12_method_11_code 1 (some (.object cn_2)) :: ws) rr_pt) (fun a U => a = #[(.ref o0)] ∧ Z.Warmed39 U.vm ∧ U.heap = h0 ∧ CHv Z own_EL U.vm h0) (fun _ _ _ _ _ => True) (fun _ U o U' => ∃ v L, o = .returned v ∧ Q_pt Z w_0 w_1 w_2 w_3 o0 p9 sx0 tx0 kx0 c0 sx1 tx1 kx1 c1 sx2 tx2 kx2 c2 h0 n0 v U'.heap L ∧ CHr Z own_EL U.vm U.heap U'.vm U'.heap ∧ ReturnedEndW U o U' L rr_pt.cells rr_pt.slots) := by
  refine MetFree.of_bodySF (plainFor_of_name pn_9) hisR ?_
  intro p e s m args below meth c s₁ Bd hml0 hP hK
  obtain ⟨rfl, hZ, hh, hC⟩ := hP
  have hx := Bd.exec
  have hby := Bd.bytes
  have B := @hb _ _ hby
  have hml : c.maxLocals = 1 := hml0
  have hown : s.vm.findClass cn_1 = some m.cls := findClass_of_methodNamed Bd.named
  have X0 : Stand p l e rr_pt (s.setVm s.vm) m #[(.ref o0)] below meth c s₁ [] 0 0 := Stand.of_body Bd
  have e0 : s₁.heap = h0 := by rw [← hh, Bd.state]; rfl
  have N0 := Fr.nil n0
  replace hZ : Z.Warmed39 (s.setVm s.vm).vm := hZ
  replace hown : (s.setVm s.vm).vm.findClass cn_1 = some m.cls := hown
  have hS : s.Since s.vm h0.size := (State.WarmedH.refl s).since _
  have hk0 : h0.size ≤ h0.size := Nat.le_refl _
  have C0 : CHr Z own_EL s.vm h0 s.vm h0 := CHr.refl hC
  have K0 : Keep h0 h0 [] := Keep.refl _ _
  obtain ⟨G, step, ret, fin⟩ := own_openHX X0 (rr_pt.cells) (rr_pt.slots) (Q_pt Z w_0 w_1 w_2 w_3 o0 p9 sx0 tx0 kx0 c0 sx1 tx1 kx1 c1 sx2 tx2 kx2 c2 h0 n0) (own_EW hw) hh Bd.notSynchronized
  refine fin (g := entryFrame m #[(.ref o0)] 1) ?_
  rw [ef_pt m o0]
  obtain ⟨T1, h1, X1, e1, E1, A1, D1, -, st1⟩ := newO X0 hx hZ hown (ww76 hw) (ww77 hw) (ww78 hw) e0 (g := (mkF m 0 #[vR o0] [])) rfl (B d44_0) (by decide) (by decide)
  obtain ⟨b1, g1⟩ : ∃ z, z = h0.size := ⟨_, rfl⟩
  rw [← g1] at A1 D1 st1
  have cz1 : CHr Z own_EL s.vm h0 s.vm h1 := CHr.ext E1 C0.1
  have C1 : CHr Z own_EL s.vm h0 s.vm h1 := C0.trans cz1
  have ge_b1 : n0 ≤ b1 := Nat.le_trans (own_old_le O0) (Nat.le_of_eq g1.symm)
  have sz_b1 : h0.size ≤ b1 := Nat.le_trans K0.1 (Nat.le_of_eq g1.symm)
  have lt_o0_b1 : o0 < b1 := Nat.lt_of_lt_of_le Ex.lt (Nat.le_of_eq g1.symm)
  have lt_sx0_b1 : sx0 < b1 := Nat.lt_of_lt_of_le Es0.lt (Nat.le_of_eq g1.symm)
  have lt_sx1_b1 : sx1 < b1 := Nat.lt_of_lt_of_le Es1.lt (Nat.le_of_eq g1.symm)
  have lt_sx2_b1 : sx2 < b1 := Nat.lt_of_lt_of_le Es2.lt (Nat.le_of_eq g1.symm)
  have lt_tx0_b1 : tx0 < b1 := Nat.lt_of_lt_of_le Va0.lt (Nat.le_of_eq g1.symm)
  have lt_tx1_b1 : tx1 < b1 := Nat.lt_of_lt_of_le Va1.lt (Nat.le_of_eq g1.symm)
  have lt_tx2_b1 : tx2 < b1 := Nat.lt_of_lt_of_le Va2.lt (Nat.le_of_eq g1.symm)
  have O1 := O0.ext E1
  have hk1 := Nat.le_trans hk0 E1.1
  have K1 : Keep h0 h1 [] := K0.ext E1
  have F1_value : Fld Z h1 b1 cn_0 "value" "[B" .null := D1 (Or.inl (ww91 hw)) (ty := (.array .byte)) (by decide)
  have F1_coder : Fld Z h1 b1 cn_0 "coder" "B" (.int 0) := D1 (Or.inl (ww93 hw)) (ty := .byte) (by decide)
  have F1_count : Fld Z h1 b1 cn_0 "count" "I" (.int 0) := D1 (Or.inl (ww115 hw)) (ty := .int) (by decide)
  refine step st1 ?_
  refine step (fun _ => XS.dup X1.here hx rfl (B d44_3) rfl rfl) ?_
  have hK2 := (backOf (R := rr_pt) (p := p) (e := e) (below := below) (args := #[(.ref o0)]) (len := 3) (W := 1) (rm_si l Z a0 hw [] w_0 w_1 w_2 w_3 b1 h1 n0 (own_old_le O1) ST O1 A1 ge_b1 F1_value F1_coder F1_count) hZ (ww81 hw) (ww78 hw) (by decide) (by decide))
  obtain ⟨_, _, ⟨T2, L2, k2, n2⟩, -, X2, ⟨Lc2, hQ2, l2, y2, z2⟩, st2⟩ := X1.specialBack hx (y := y_12) rfl hown (mvT hZ (ww79 hw)) (mvT hZ (ww80 hw)) (mvT hZ (ww81 hw)) (by decide) hK2 (g := (mkF m 4 #[vR o0] [(.ref b1), (.ref b1)])) rfl (by rw [hml]; rfl) (Steps.refl _) (a := b1) (argsL := []) (rest := [(.ref b1)]) (lenOf pd_26 rfl) rfl (by show 2 * 0 + _ ≤ _; exact Nat.le_of_eq rfl) (B d44_4) (fun _ _ => ⟨rfl, e1, (by decide : 1 + 1 ≤ _), (by decide : 4 + 16 ≤ _)⟩)
  dsimp only [Pt.U, Pt.locs, Pt.cells, Pt.slots] at X2 l2 y2 z2 st2 hQ2
  subst l2 y2 z2
  have f3 := (Exa.ext E1 Ex)
  have f4 := (Exa.ext E1 Es0)
  have f5 := (Exa.ext E1 Es1)
  have f6 := (Exa.ext E1 Es2)
  have f7 := (Va0.ext E1)
  have f8 := (Va1.ext E1)
  have f9 := (Va2.ext E1)
  obtain ⟨a_2, ka_2, rfl, N2q, K2q, Y2_0, Y2_1, Y2_2, Y2_3, Y2_4, Y2_5, Y2_6⟩ := hQ2
  have N2 := Fr.app N0 N2q
  obtain ⟨lc2, X2, N2⟩ := own_gen X2 N2
  have cz2 : CHr Z own_EL s.vm h1 s.vm T2.heap := CHr.keep K2q (allS (Safe.exa hZ.alike A1 (by decide) (by decide)) all0) C1.1
  have C2 : CHr Z own_EL s.vm h0 s.vm T2.heap := C1.trans cz2
  have O2 := O1.keep K2q (allS ge_b1 all0)
  have K2 : Keep h0 T2.heap [] := K1.trans K2q (allS (Or.inr sz_b1) all0)
  have ge_a_2 : n0 ≤ a_2 := Nat.le_trans (own_old_le O1) Y2_0
  have sz_a_2 : h0.size ≤ a_2 := Nat.le_trans K1.1 Y2_0
  have lt_o0_a_2 : o0 < a_2 := Nat.lt_of_lt_of_le f3.lt Y2_0
  have lt_sx1_a_2 : sx1 < a_2 := Nat.lt_of_lt_of_le f5.lt Y2_0
  have lt_sx2_a_2 : sx2 < a_2 := Nat.lt_of_lt_of_le f6.lt Y2_0
  have lt_tx1_a_2 : tx1 < a_2 := Nat.lt_of_lt_of_le f8.lt Y2_0
  have lt_tx2_a_2 : tx2 < a_2 := Nat.lt_of_lt_of_le f9.lt Y2_0
  have hk2 : _ ≤ T2.heap.size := Nat.le_trans hk1 K2q.1
  have S2_a_2 : Safe Z own_EL s.vm T2.heap a_2 := Safe.keep K2q (allS (Safe.exa hZ.alike A1 (by decide) (by decide)) all0) C1.1 (Safe.new Y2_0)
  have Vz_a_2 := own_z16 Y2_6
  refine step (fun t k => st2.trans k) ?_
  refine step (fun _ => XS.aloadN X2.here hx rfl (B d44_7) rfl rfl) ?_
  have f11 := (Fld.keep (Fld.ext E1 Fq0) K2q (ninS (Nat.ne_of_lt lt_o0_b1) nin0))
  obtain ⟨T10, X10, e10, st10⟩ := getF X2 hx hZ hown (host := "") (Or.inl (ww45 hw)) Via.refl rfl f11 (g := (mkF m 8 #[vR o0] [(.ref o0), (.ref b1)])) rfl rfl (B d44_8)
  refine step st10 ?_
  have f13 := (Exa.keep f4 K2q)
  have f14 := (Fld.keep (Fld.ext E1 Fv0) K2q (ninS (Nat.ne_of_lt lt_sx0_b1) nin0))
  have f15 := (Fld.keep (Fld.ext E1 Fc0) K2q (ninS (Nat.ne_of_lt lt_sx0_b1) nin0))
  have f16 := (Arv.keep f7 K2q (ninS (Nat.ne_of_lt lt_tx0_b1) nin0))
  have hK12 := (backOf (R := rr_pt) (p := p) (e := e) (below := below) (args := #[(.ref o0)]) (len := 3) (W := 0) (rm_saN l Z a0 hw [] w_0 w_1 w_2 w_3 b1 sx0 tx0 kx0 (1 : Int32) ([c0]) a_2 ka_2 (16 : Int32) (0 : Int32) ([]) T2.heap n0 (own_old_le O2) ST O2 Y2_1 Y2_2 Y2_3 Y2_4 Vz_a_2 Y2_5 own_sb0 f13 f14 f15 f16 (own_ok1 hl0) ge_b1 ge_a_2 (by simp only [List.length_append, List.length_cons, List.length_nil, own_lenL, own_lenC, own_lenD, own_lenE, own_t16]; omega)) hZ (ww98 hw) (ww78 hw) (by decide) (by decide))
  obtain ⟨cq12, kq12, q12a, q12b, q12c⟩ := isOf hZ e10 Y2_1
  obtain ⟨_, _, ⟨T12, L12, k12, n12⟩, -, X12, ⟨Lc12, hQ12, l12, y12, z12⟩, st12⟩ := X10.virtualBack hx (y := y_23) (z := y_23) hown (mvT hZ (ww94 hw)) (mvT hZ (ww95 hw)) (notFace_of_selects (args := #[]) (mvT hZ (ww97 hw))) (mvT hZ (ww97 hw)) (mvT hZ (ww96 hw)) (by decide) hK12 q12a q12c (g := (mkF m 11 #[vR o0] [(.ref sx0), (.ref b1)])) rfl (by rw [hml]; rfl) (Steps.refl _) (argsL := [(.ref sx0)]) (rest := []) (lenOf pd_27 rfl) rfl (by show 2 * 0 + _ ≤ _; exact Nat.le_of_eq rfl) (B d44_11) (fun _ _ => ⟨rfl, e10, (by decide : 2 + 0 ≤ _), (by decide : 20 + 0 ≤ _)⟩)
  dsimp only [Pt.U, Pt.locs, Pt.cells, Pt.slots] at X12 l12 y12 z12 st12 hQ12
  subst l12 y12 z12
  obtain ⟨rfl, N12q, K12q, Y12_0, Y12_1, Y12_2, Y12_3, Y12_4, Y12_5, Y12_6⟩ := hQ12
  have N12 := Fr.app N2 N12q
  obtain ⟨lc12, X12, N12⟩ := own_gen X12 N12
  have cz12 : CHr Z own_EL s.vm T2.heap s.vm T12.heap := CHr.keep K12q (allS (Safe.exa hZ.alike Y2_1 (by decide) (by decide)) (allS S2_a_2 all0)) C2.1
  have C12 : CHr Z own_EL s.vm h0 s.vm T12.heap := C2.trans cz12
  have S12_a_2 : Safe Z own_EL s.vm T12.heap a_2 := cz12.safe Y2_5.lt S2_a_2
  have O12 := O2.keep K12q (allS ge_b1 (allS ge_a_2 all0))
  have K12 : Keep h0 T12.heap [] := K2.trans K12q (allS (Or.inr sz_b1) (allS (Or.inr sz_a_2) all0))
  have hk12 : _ ≤ T12.heap.size := Nat.le_trans hk2 K12q.1
  have Fz12 : Fld Z T12.heap b1 cn_0 "count" "I" (.int 1) := by have z_ := Y12_3; rw [own_z0a] at z_; exact z_
  have Vz12 : Arv Z T12.heap a_2 ka_2 .byte (16 : Int32) (own_by [c0]) (.int 0) := Y12_5
  have sz12 : own_sbp (1 : Int32) (16 : Int32) [c0] := by have z_ := Y12_6; rw [own_z0a] at z_; exact z_
  refine step (fun t k => st12.trans k) ?_
  obtain ⟨k9, hS, hk9⟩ : ∃ k, s.Since s.vm k ∧ k ≤ T12.heap.size := ⟨_, hS, hk12⟩
  have J48 : ∀ (Tj : State) (lcj : List Loc) (vmj : Vm) (hj : Heap) (kj9 : Nat) (xj tj : Addr) (kj : ClassId) (nj : Int32) (dj : List Int32), Stand p l e rr_pt (s.setVm vmj) m #[(.ref o0)] below meth c Tj lcj 8 110 → Tj.heap = hj → Fr n0 lcj → Old Z n0 hj → s.Since vmj kj9 → kj9 ≤ hj.size → Z.Warmed39 (s.setVm vmj).vm → (s.setVm vmj).vm.findClass cn_1 = some m.cls → CHr Z own_EL s.vm h0 vmj hj → Keep h0 hj [] → Safe Z own_EL vmj hj a_2 → (Exa Z hj o0 cn_1) → (Fld Z hj o0 cn_1 "code" cn_5 (.ref sx0)) → (Fld Z hj o0 cn_1 "message" cn_5 (.ref sx2)) → (Fld Z hj o0 cn_1 "line" "I" (.int p9)) → (Fld Z hj o0 cn_1 "column" cn_5 (.ref sx1)) → (Fld Z hj o0 cn_1 "detail" cn_5 .null) → (Exa Z hj sx1 cn_2) → (Fld Z hj sx1 cn_2 "value" "[B" (.ref tx1)) → (Fld Z hj sx1 cn_2 "coder" "B" (.int 0)) → (Arv Z hj tx1 kx1 .byte (1 : Int32) (own_by [c1]) (.int 0)) → (Exa Z hj sx2 cn_2) → (Fld Z hj sx2 cn_2 "value" "[B" (.ref tx2)) → (Fld Z hj sx2 cn_2 "coder" "B" (.int 0)) → (Arv Z hj tx2 kx2 .byte (1 : Int32) (own_by [c2]) (.int 0)) → (Exa Z hj b1 cn_4) → (Fld Z hj b1 cn_0 "value" "[B" (.ref a_2)) → (Fld Z hj b1 cn_0 "coder" "B" (.int 0)) → (Fld Z hj b1 cn_0 "count" "I" (.int 1)) → (Arv Z hj a_2 ka_2 .byte (16 : Int32) (own_by [c0]) (.int 0)) → (Exa Z hj a_2 "[B") → (Exa Z hj xj cn_2) → (Fld Z hj xj cn_2 "value" "[B" (.ref tj)) → (Fld Z hj xj cn_2 "coder" "B" (.int 0)) → (Arv Z hj tj kj .byte nj (own_by dj) (.int 0)) → own_ok nj dj → own_dlj p9 dj → tx1 ≠ a_2 → tx2 ≠ a_2 → tj ≠ a_2 → G Tj (mkF m 48 #[vR o0] [(.ref xj), (.ref b1)]) := by
    intro Tj lcj vmj hj kj9 xj tj kj nj dj Xj ej Nj Oj hS hkj hZ hown Cj Kj Sj Jo Jq0 Jq1 Jq2 Jq3 Jq4 Je1 Jv1 Jc1 Ja1 Je2 Jv2 Jc2 Ja2 Jse Jsv Jsc Jsn Jsa Jsb Jle Jlv Jlc Jla okj dlj na1 na2 naj
    have n_o0_b1 : o0 ≠ b1 := own_ne_exa Jo Jse (by decide)
    have n_o0_a_2 : o0 ≠ a_2 := own_ne_arv Jo (ww31 hw) Jsa
    have n_sx1_b1 : sx1 ≠ b1 := own_ne_exa Je1 Jse (by decide)
    have n_sx1_a_2 : sx1 ≠ a_2 := own_ne_arv Je1 (ww10 hw) Jsa
    have n_sx2_b1 : sx2 ≠ b1 := own_ne_exa Je2 Jse (by decide)
    have n_sx2_a_2 : sx2 ≠ a_2 := own_ne_arv Je2 (ww10 hw) Jsa
    have n_b1_tx1 : b1 ≠ tx1 := own_ne_arv Jse (ww77 hw) Ja1
    have n_b1_tx2 : b1 ≠ tx2 := own_ne_arv Jse (ww77 hw) Ja2
    have hlen : dj.length ≤ 16 := own_dj dlj
    have hK17 := (backOf (R := rr_pt) (p := p) (e := e) (below := below) (args := #[(.ref o0)]) (len := 3) (W := 0) (rm_saG l Z a0 hw [] w_0 w_1 w_2 w_3 b1 xj tj kj nj dj a_2 ka_2 (16 : Int32) (1 : Int32) ([c0]) hj n0 (own_old_le Oj) ST Oj Jse Jsv Jsc Jsn Jsa Jsb sz12 Jle Jlv Jlc Jla okj ge_b1 ge_a_2 (by have hd_ := hlen; simp only [List.length_append, List.length_cons, List.length_nil, own_lenL, own_lenC, own_lenD, own_lenE, own_t16]; omega)) hZ (ww98 hw) (ww78 hw) (by decide) (by decide))
    obtain ⟨cq17, kq17, q17a, q17b, q17c⟩ := isOf hZ ej Jse
    obtain ⟨_, _, ⟨T17, L17, k17, n17⟩, -, X17, ⟨Lc17, hQ17, l17, y17, z17⟩, st17⟩ := Xj.virtualBack hx (y := y_23) (z := y_23) hown (mvT hZ (ww94 hw)) (mvT hZ (ww95 hw)) (notFace_of_selects (args := #[]) (mvT hZ (ww97 hw))) (mvT hZ (ww97 hw)) (mvT hZ (ww96 hw)) (by decide) hK17 q17a q17c (g := (mkF m 48 #[vR o0] [(.ref xj), (.ref b1)])) rfl (by rw [hml]; rfl) (Steps.refl _) (argsL := [(.ref xj)]) (rest := []) (lenOf pd_27 rfl) rfl (by show 2 * 0 + _ ≤ _; exact Nat.le_of_eq rfl) (B d44_48) (fun _ _ => ⟨rfl, ej, (by decide : 8 + 1 ≤ _), (by decide : 110 + 34 ≤ _)⟩)
    dsimp only [Pt.U, Pt.locs, Pt.cells, Pt.slots] at X17 l17 y17 z17 st17 hQ17
    subst l17 y17 z17
    obtain ⟨a2_17, k2_17, q2_17, rfl, N17q, K17q, Y17_0, Y17_1, Y17_2, Y17_3, Y17_4, Y17_5, Y17_6, Y17_7⟩ := hQ17
    have N17 := Fr.app Nj N17q
    obtain ⟨lc17, X17, N17⟩ := own_gen X17 N17
    have cz17 : CHr Z own_EL vmj hj vmj T17.heap := CHr.keep K17q (allS (Safe.exa hZ.alike Jse (by decide) (by decide)) (allS Sj all0)) Cj.1
    have C17 : CHr Z own_EL s.vm h0 vmj T17.heap := Cj.trans cz17
    have S17_a_2 : Safe Z own_EL vmj T17.heap a_2 := cz17.safe Jsb.lt Sj
    have O17 := Oj.keep K17q (allS ge_b1 (allS ge_a_2 all0))
    have K17 : Keep h0 T17.heap [] := Kj.trans K17q (allS (Or.inr sz_b1) (allS (Or.inr sz_a_2) all0))
    have hk17 : _ ≤ T17.heap.size := Nat.le_trans hkj K17q.1
    have sz_a2_17 : h0.size ≤ a2_17 := Y17_7.2.elim (fun e_ => by rw [e_]; exact sz_a_2) (fun e_ => Nat.le_trans Kj.1 e_)
    have S17_a2_17 : Safe Z own_EL vmj T17.heap a2_17 := Y17_7.2.elim (fun e_ => by rw [e_]; exact S17_a_2) (fun e_ => Safe.keep K17q (allS (Safe.exa hZ.alike Jse (by decide) (by decide)) (allS Sj all0)) Cj.1 (Safe.new e_))
    have ne_o0_a2_17 : o0 ≠ a2_17 := own_nefr n_o0_a_2 Jo.lt Y17_7.2
    have ne_sx2_a2_17 : sx2 ≠ a2_17 := own_nefr n_sx2_a_2 Je2.lt Y17_7.2
    have ne_tx2_a2_17 : tx2 ≠ a2_17 := own_nefr na2 Ja2.lt Y17_7.2
    refine step (fun t k => st17.trans k) ?_
    refine step (fun _ => XS.aloadN X17.here hx rfl (B d44_51) rfl rfl) ?_
    have f19 := (Fld.keep Jq3 K17q (ninS n_o0_b1 (ninS n_o0_a_2 nin0)))
    obtain ⟨T18, X18, e18, st18⟩ := getF X17 hx hZ hown (host := "") (Or.inl (ww52 hw)) Via.refl rfl f19 (g := (mkF m 52 #[vR o0] [(.ref o0), (.ref b1)])) rfl rfl (B d44_52)
    refine step st18 ?_
    refine step (fun _ => XS.ifnullNo X18.here hx rfl (B d44_55) rfl) ?_
    have f22 := (Exa.keep Jo K17q)
    have f23 := (Exa.keep Je1 K17q)
    have f24 := (Exa.keep Je2 K17q)
    have f26 := (Arv.keep Ja1 K17q (ninS (Ne.symm n_b1_tx1) (ninS na1 nin0)))
    have f27 := (Arv.keep Ja2 K17q (ninS (Ne.symm n_b1_tx2) (ninS na2 nin0)))
    obtain ⟨T20, h20, X20, e20, E20, A20, D20, -, st20⟩ := newO X18 hx hZ hown (ww76 hw) (ww77 hw) (ww78 hw) e18 (g := (mkF m 58 #[vR o0] [(.ref b1)])) rfl (B d44_58) (by decide) (by decide)
    obtain ⟨b20, g20⟩ : ∃ z, z = T17.heap.size := ⟨_, rfl⟩
    rw [← g20] at A20 D20 st20
    have cz20 : CHr Z own_EL vmj T17.heap vmj h20 := CHr.ext E20 C17.1
    have C20 : CHr Z own_EL s.vm h0 vmj h20 := C17.trans cz20
    have S20_a2_17 : Safe Z own_EL vmj h20 a2_17 := cz20.safe Y17_4.lt S17_a2_17
    have ge_b20 : n0 ≤ b20 := Nat.le_trans (own_old_le O17) (Nat.le_of_eq g20.symm)
    have sz_b20 : h0.size ≤ b20 := Nat.le_trans K17.1 (Nat.le_of_eq g20.symm)
    have lt_a2_17_b20 : a2_17 < b20 := Nat.lt_of_lt_of_le Y17_4.lt (Nat.le_of_eq g20.symm)
    have lt_b1_b20 : b1 < b20 := Nat.lt_of_lt_of_le Y17_0.lt (Nat.le_of_eq g20.symm)
    have lt_o0_b20 : o0 < b20 := Nat.lt_of_lt_of_le f22.lt (Nat.le_of_eq g20.symm)
    have lt_sx1_b20 : sx1 < b20 := Nat.lt_of_lt_of_le f23.lt (Nat.le_of_eq g20.symm)
    have lt_sx2_b20 : sx2 < b20 := Nat.lt_of_lt_of_le f24.lt (Nat.le_of_eq g20.symm)
    have lt_tx1_b20 : tx1 < b20 := Nat.lt_of_lt_of_le f26.lt (Nat.le_of_eq g20.symm)
    have lt_tx2_b20 : tx2 < b20 := Nat.lt_of_lt_of_le f27.lt (Nat.le_of_eq g20.symm)
    have O20 := O17.ext E20
    have hk20 := Nat.le_trans hk17 E20.1
    have K20 : Keep h0 h20 [] := K17.ext E20
    have F20_value : Fld Z h20 b20 cn_0 "value" "[B" .null := D20 (Or.inl (ww91 hw)) (ty := (.array .byte)) (by decide)
    have F20_coder : Fld Z h20 b20 cn_0 "coder" "B" (.int 0) := D20 (Or.inl (ww93 hw)) (ty := .byte) (by decide)
    have F20_count : Fld Z h20 b20 cn_0 "count" "I" (.int 0) := D20 (Or.inl (ww115 hw)) (ty := .int) (by decide)
    refine step st20 ?_
    refine step (fun _ => XS.dup X20.here hx rfl (B d44_61) rfl rfl) ?_
    have hK29 := (backOf (R := rr_pt) (p := p) (e := e) (below := below) (args := #[(.ref o0)]) (len := 3) (W := 2) (rm_si l Z a0 hw [] w_0 w_1 w_2 w_3 b20 h20 n0 (own_old_le O20) ST O20 A20 ge_b20 F20_value F20_coder F20_count) hZ (ww81 hw) (ww78 hw) (by decide) (by decide))
    obtain ⟨_, _, ⟨T29, L29, k29, n29⟩, -, X29, ⟨Lc29, hQ29, l29, y29, z29⟩, st29⟩ := X20.specialBack hx (y := y_12) rfl hown (mvT hZ (ww79 hw)) (mvT hZ (ww80 hw)) (mvT hZ (ww81 hw)) (by decide) hK29 (g := (mkF m 62 #[vR o0] [(.ref b20), (.ref b20), (.ref b1)])) rfl (by rw [hml]; rfl) (Steps.refl _) (a := b20) (argsL := []) (rest := [(.ref b20), (.ref b1)]) (lenOf pd_26 rfl) rfl (by show 2 * 0 + _ ≤ _; exact Nat.le_of_eq rfl) (B d44_62) (fun _ _ => ⟨rfl, e20, (by decide : 10 + 1 ≤ _), (by decide : 148 + 16 ≤ _)⟩)
    dsimp only [Pt.U, Pt.locs, Pt.cells, Pt.slots] at X29 l29 y29 z29 st29 hQ29
    subst l29 y29 z29
    have f30 := (Exa.ext E20 Y17_4)
    have f32 := (Exa.ext E20 Y17_0)
    have f33 := (Exa.ext E20 f22)
    have f34 := (Exa.ext E20 f23)
    have f35 := (Exa.ext E20 f24)
    have f37 := (f26.ext E20)
    have f38 := (f27.ext E20)
    obtain ⟨a_29, ka_29, rfl, N29q, K29q, Y29_0, Y29_1, Y29_2, Y29_3, Y29_4, Y29_5, Y29_6⟩ := hQ29
    have N29 := Fr.app N17 N29q
    obtain ⟨lc29, X29, N29⟩ := own_gen X29 N29
    have cz29 : CHr Z own_EL vmj h20 vmj T29.heap := CHr.keep K29q (allS (Safe.exa hZ.alike A20 (by decide) (by decide)) all0) C20.1
    have C29 : CHr Z own_EL s.vm h0 vmj T29.heap := C20.trans cz29
    have S29_a2_17 : Safe Z own_EL vmj T29.heap a2_17 := cz29.safe f30.lt S20_a2_17
    have O29 := O20.keep K29q (allS ge_b20 all0)
    have K29 : Keep h0 T29.heap [] := K20.trans K29q (allS (Or.inr sz_b20) all0)
    have ge_a_29 : n0 ≤ a_29 := Nat.le_trans (own_old_le O20) Y29_0
    have sz_a_29 : h0.size ≤ a_29 := Nat.le_trans K20.1 Y29_0
    have lt_a2_17_a_29 : a2_17 < a_29 := Nat.lt_of_lt_of_le f30.lt Y29_0
    have lt_b1_a_29 : b1 < a_29 := Nat.lt_of_lt_of_le f32.lt Y29_0
    have lt_o0_a_29 : o0 < a_29 := Nat.lt_of_lt_of_le f33.lt Y29_0
    have lt_sx1_a_29 : sx1 < a_29 := Nat.lt_of_lt_of_le f34.lt Y29_0
    have lt_sx2_a_29 : sx2 < a_29 := Nat.lt_of_lt_of_le f35.lt Y29_0
    have lt_tx1_a_29 : tx1 < a_29 := Nat.lt_of_lt_of_le f37.lt Y29_0
    have lt_tx2_a_29 : tx2 < a_29 := Nat.lt_of_lt_of_le f38.lt Y29_0
    have hk29 : _ ≤ T29.heap.size := Nat.le_trans hk20 K29q.1
    have S29_a_29 : Safe Z own_EL vmj T29.heap a_29 := Safe.keep K29q (allS (Safe.exa hZ.alike A20 (by decide) (by decide)) all0) C20.1 (Safe.new Y29_0)
    have Vz_a_29 := own_z16 Y29_6
    refine step (fun t k => st29.trans k) ?_
    have f41 := (Exa.keep f30 K29q)
    have f43 := (Exa.keep f32 K29q)
    have f44 := (Exa.keep f33 K29q)
    have f45 := (Exa.keep f34 K29q)
    have f46 := (Exa.keep f35 K29q)
    have f48 := (Arv.keep f37 K29q (ninS (Nat.ne_of_lt lt_tx1_b20) nin0))
    have f49 := (Arv.keep f38 K29q (ninS (Nat.ne_of_lt lt_tx2_b20) nin0))
    obtain ⟨b40, T40, h40, k40, t40, kk40, X40, e40, E40, hS, hk40, hZ, hown, Ex40, Fc40, Fv40, Va40, -, -, hC40, -, hne40, st40⟩ := ldcCH (s := s) X29 hx hZ hown (ww142 hw) (own_wS hw) rfl hS hk29 (own_EW hw) (List.mem_of_getElem? (i := 2) rfl) C29.1 own_eC (z := (8 : Int32)) (by decide) rfl (g := (mkF m 65 #[vR o0] [(.ref b20), (.ref b1)])) rfl (B d44_65) (n := 32) (by decide +kernel) (by decide) (by decide) (by decide)
    have cz40 : CHr Z own_EL vmj T29.heap T40.vm h40 := hC40
    have C40 : CHr Z own_EL s.vm h0 T40.vm h40 := C29.trans cz40
    have S40_a2_17 : Safe Z own_EL T40.vm h40 a2_17 := cz40.safe f41.lt S29_a2_17
    have S40_a_29 : Safe Z own_EL T40.vm h40 a_29 := cz40.safe Y29_5.lt S29_a_29
    have O40 := O29.ext E40
    have K40 : Keep h0 h40 [] := K29.ext E40
    refine step st40 ?_
    have f51 := (Exa.ext E40 f44)
    have f52 := (Exa.ext E40 f43)
    have f53 := (Exa.ext E40 Y29_1)
    obtain ⟨ne40_a2_17, nf40_a2_17⟩ := hne40 _ S40_a2_17
    obtain ⟨ne40_a_29, nf40_a_29⟩ := hne40 _ S40_a_29
    have f55 := (Fld.ext E40 Y29_2)
    have f56 := (Fld.ext E40 Y29_3)
    have f57 := (Fld.ext E40 Y29_4)
    have f58 := (Vz_a_29.ext E40)
    have f59 := (Exa.ext E40 Y29_5)
    have hK54 := (backOf (R := rr_pt) (p := p) (e := e) (below := below) (args := #[(.ref o0)]) (len := 3) (W := 1) (rm_saN l Z a0 hw [] w_0 w_1 w_2 w_3 b20 b40 t40 kk40 (8 : Int32) own_C a_29 ka_29 (16 : Int32) (0 : Int32) ([]) h40 n0 (own_old_le O40) ST O40 f53 f55 f56 f57 f58 f59 own_sb0 Ex40 Fv40 Fc40 Va40 own_okC ge_b20 ge_a_29 (by have hd_ := hlen; simp only [List.length_append, List.length_cons, List.length_nil, own_lenL, own_lenC, own_lenD, own_lenE, own_t16]; omega)) hZ (ww98 hw) (ww78 hw) (by decide) (by decide))
    obtain ⟨cq54, kq54, q54a, q54b, q54c⟩ := isOf hZ e40 f53
    obtain ⟨_, _, ⟨T54, L54, k54, n54⟩, -, X54, ⟨Lc54, hQ54, l54, y54, z54⟩, st54⟩ := X40.virtualBack hx (y := y_23) (z := y_23) hown (mvT hZ (ww94 hw)) (mvT hZ (ww95 hw)) (notFace_of_selects (args := #[]) (mvT hZ (ww97 hw))) (mvT hZ (ww97 hw)) (mvT hZ (ww96 hw)) (by decide) hK54 q54a q54c (g := (mkF m 67 #[vR o0] [(.ref b40), (.ref b20), (.ref b1)])) rfl (by rw [hml]; rfl) (Steps.refl _) (argsL := [(.ref b40)]) (rest := [(.ref b1)]) (lenOf pd_27 rfl) rfl (by show 2 * 0 + _ ≤ _; exact Nat.le_of_eq rfl) (B d44_67) (fun _ _ => ⟨rfl, e40, (by decide : 13 + 0 ≤ _), (by decide : 200 + 0 ≤ _)⟩)
    dsimp only [Pt.U, Pt.locs, Pt.cells, Pt.slots] at X54 l54 y54 z54 st54 hQ54
    subst l54 y54 z54
    obtain ⟨rfl, N54q, K54q, Y54_0, Y54_1, Y54_2, Y54_3, Y54_4, Y54_5, Y54_6⟩ := hQ54
    have N54 := Fr.app N29 N54q
    obtain ⟨lc54, X54, N54⟩ := own_gen X54 N54
    have cz54 : CHr Z own_EL T40.vm h40 T40.vm T54.heap := CHr.keep K54q (allS (Safe.exa hZ.alike f53 (by decide) (by decide)) (allS S40_a_29 all0)) C40.1
    have C54 : CHr Z own_EL s.vm h0 T40.vm T54.heap := C40.trans cz54
    have f60 := (Exa.ext E40 f41)
    have S54_a2_17 : Safe Z own_EL T40.vm T54.heap a2_17 := cz54.safe f60.lt S40_a2_17
    have S54_a_29 : Safe Z own_EL T40.vm T54.heap a_29 := cz54.safe f59.lt S40_a_29
    have O54 := O40.keep K54q (allS ge_b20 (allS ge_a_29 all0))
    have K54 : Keep h0 T54.heap [] := K40.trans K54q (allS (Or.inr sz_b20) (allS (Or.inr sz_a_29) all0))
    have hk54 : _ ≤ T54.heap.size := Nat.le_trans hk40 K54q.1
    have Fz54 : Fld Z T54.heap b20 cn_0 "count" "I" (.int 8) := by have z_ := Y54_3; rw [own_z0a] at z_; exact z_
    have Vz54 : Arv Z T54.heap a_29 ka_29 .byte (16 : Int32) (own_by own_C) (.int 0) := Y54_5
    have sz54 : own_sbp (8 : Int32) (16 : Int32) own_C := by have z_ := Y54_6; rw [own_z0a] at z_; exact z_
    refine step (fun t k => st54.trans k) ?_
    refine step (fun _ => XS.aloadN X54.here hx rfl (B d44_70) rfl rfl) ?_
    have f62 := (Fld.keep (Fld.ext E40 (Fld.keep (Fld.ext E20 f19) K29q (ninS (Nat.ne_of_lt lt_o0_b20) nin0))) K54q (ninS (Nat.ne_of_lt lt_o0_b20) (ninS (Nat.ne_of_lt lt_o0_a_29) nin0)))
    obtain ⟨T61, X61, e61, st61⟩ := getF X54 hx hZ hown (host := "") (Or.inl (ww52 hw)) Via.refl rfl f62 (g := (mkF m 71 #[vR o0] [(.ref o0), (.ref b20), (.ref b1)])) rfl rfl (B d44_71)
    refine step st61 ?_
    have f64 := (Exa.keep (Exa.ext E40 f45) K54q)
    have f65 := (Fld.keep (Fld.ext E40 (Fld.keep (Fld.ext E20 (Fld.keep Jv1 K17q (ninS n_sx1_b1 (ninS n_sx1_a_2 nin0)))) K29q (ninS (Nat.ne_of_lt lt_sx1_b20) nin0))) K54q (ninS (Nat.ne_of_lt lt_sx1_b20) (ninS (Nat.ne_of_lt lt_sx1_a_29) nin0)))
    have f66 := (Fld.keep (Fld.ext E40 (Fld.keep (Fld.ext E20 (Fld.keep Jc1 K17q (ninS n_sx1_b1 (ninS n_sx1_a_2 nin0)))) K29q (ninS (Nat.ne_of_lt lt_sx1_b20) nin0))) K54q (ninS (Nat.ne_of_lt lt_sx1_b20) (ninS (Nat.ne_of_lt lt_sx1_a_29) nin0)))
    have f67 := (Arv.keep (f48.ext E40) K54q (ninS (Nat.ne_of_lt lt_tx1_b20) (ninS (Nat.ne_of_lt lt_tx1_a_29) nin0)))
    have hK63 := (backOf (R := rr_pt) (p := p) (e := e) (below := below) (args := #[(.ref o0)]) (len := 3) (W := 1) (rm_saN l Z a0 hw [] w_0 w_1 w_2 w_3 b20 sx1 tx1 kx1 (1 : Int32) ([c1]) a_29 ka_29 (16 : Int32) (8 : Int32) own_C T54.heap n0 (own_old_le O54) ST O54 Y54_0 Y54_1 Y54_2 Fz54 Vz54 Y54_4 sz54 f64 f65 f66 f67 (own_ok1 hl1) ge_b20 ge_a_29 (by have hd_ := hlen; simp only [List.length_append, List.length_cons, List.length_nil, own_lenL, own_lenC, own_lenD, own_lenE, own_t16]; omega)) hZ (ww98 hw) (ww78 hw) (by decide) (by decide))
    obtain ⟨cq63, kq63, q63a, q63b, q63c⟩ := isOf hZ e61 Y54_0
    obtain ⟨_, _, ⟨T63, L63, k63, n63⟩, -, X63, ⟨Lc63, hQ63, l63, y63, z63⟩, st63⟩ := X61.virtualBack hx (y := y_23) (z := y_23) hown (mvT hZ (ww94 hw)) (mvT hZ (ww95 hw)) (notFace_of_selects (args := #[]) (mvT hZ (ww97 hw))) (mvT hZ (ww97 hw)) (mvT hZ (ww96 hw)) (by decide) hK63 q63a q63c (g := (mkF m 74 #[vR o0] [(.ref sx1), (.ref b20), (.ref b1)])) rfl (by rw [hml]; rfl) (Steps.refl _) (argsL := [(.ref sx1)]) (rest := [(.ref b1)]) (lenOf pd_27 rfl) rfl (by show 2 * 0 + _ ≤ _; exact Nat.le_of_eq rfl) (B d44_74) (fun _ _ => ⟨rfl, e61, (by decide : 13 + 0 ≤ _), (by decide : 200 + 0 ≤ _)⟩)
    dsimp only [Pt.U, Pt.locs, Pt.cells, Pt.slots] at X63 l63 y63 z63 st63 hQ63
    subst l63 y63 z63
    obtain ⟨rfl, N63q, K63q, Y63_0, Y63_1, Y63_2, Y63_3, Y63_4, Y63_5, Y63_6⟩ := hQ63
    have N63 := Fr.app N54 N63q
    obtain ⟨lc63, X63, N63⟩ := own_gen X63 N63
    have cz63 : CHr Z own_EL T40.vm T54.heap T40.vm T63.heap := CHr.keep K63q (allS (Safe.exa hZ.alike Y54_0 (by decide) (by decide)) (allS S54_a_29 all0)) C54.1
    have C63 : CHr Z own_EL s.vm h0 T40.vm T63.heap := C54.trans cz63
    have f68 := (Exa.keep f60 K54q)
    have S63_a2_17 : Safe Z own_EL T40.vm T63.heap a2_17 := cz63.safe f68.lt S54_a2_17
    have S63_a_29 : Safe Z own_EL T40.vm T63.heap a_29 := cz63.safe Y54_4.lt S54_a_29
    have O63 := O54.keep K63q (allS ge_b20 (allS ge_a_29 all0))
    have K63 : Keep h0 T63.heap [] := K54.trans K63q (allS (Or.inr sz_b20) (allS (Or.inr sz_a_29) all0))
    have hk63 : _ ≤ T63.heap.size := Nat.le_trans hk54 K63q.1
    refine step (fun t k => st63.trans k) ?_
    have hK69 := (backOf (R := rr_pt) (p := p) (e := e) (below := below) (args := #[(.ref o0)]) (len := 3) (W := 1) (rm_ts l Z a0 hw [] w_0 w_1 w_2 w_3 b20 a_29 ka_29 (16 : Int32) ((8 : Int32) + (1 : Int32)) (own_C ++ [c1]) T63.heap n0 (own_old_le O63) ST O63 Y63_0 Y63_1 Y63_2 Y63_3 Y63_5 Y63_4 Y63_6) hZ (ww147 hw) (ww78 hw) (by decide) (by decide))
    obtain ⟨cq69, kq69, q69a, q69b, q69c⟩ := isOf hZ rfl Y63_0
    obtain ⟨_, _, ⟨T69, L69, k69, n69⟩, -, X69, ⟨Lc69, hQ69, l69, y69, z69⟩, st69⟩ := X63.virtualBack hx (y := y_33) (z := y_33) hown (mvT hZ (ww143 hw)) (mvT hZ (ww144 hw)) (notFace_of_selects (args := #[]) (mvT hZ (ww146 hw))) (mvT hZ (ww146 hw)) (mvT hZ (ww145 hw)) (by decide) hK69 q69a q69c (g := (mkF m 77 #[vR o0] [(.ref b20), (.ref b1)])) rfl (by rw [hml]; rfl) (Steps.refl _) (argsL := []) (rest := [(.ref b1)]) (lenOf pd_28 rfl) rfl (by show 2 * 0 + _ ≤ _; exact Nat.le_of_eq rfl) (B d44_77) (fun _ _ => ⟨rfl, rfl, (by decide : 13 + 2 ≤ _), (by decide : 200 + 38 ≤ _)⟩)
    dsimp only [Pt.U, Pt.locs, Pt.cells, Pt.slots] at X69 l69 y69 z69 st69 hQ69
    subst l69 y69 z69
    have f70 := (Exa.keep f68 K63q)
    have f72 := (Exa.keep (Exa.keep f52 K54q) K63q)
    have f74 := (Exa.keep (Exa.keep f51 K54q) K63q)
    have f76 := (Exa.keep (Exa.keep (Exa.ext E40 f46) K54q) K63q)
    have f80 := (Arv.keep (Arv.keep (f49.ext E40) K54q (ninS (Nat.ne_of_lt lt_tx2_b20) (ninS (Nat.ne_of_lt lt_tx2_a_29) nin0))) K63q (ninS (Nat.ne_of_lt lt_tx2_b20) (ninS (Nat.ne_of_lt lt_tx2_a_29) nin0)))
    obtain ⟨b69, t_69, kk_69, rfl, N69q, K69q, Y69_0, Y69_1, Y69_2, Y69_3, Y69_4, Y69_5⟩ := hQ69
    have N69 := Fr.app N63 N69q
    obtain ⟨lc69, X69, N69⟩ := own_gen X69 N69
    have cz69 : CHr Z own_EL T40.vm T63.heap T40.vm T69.heap := CHr.keep K69q all0 C63.1
    have C69 : CHr Z own_EL s.vm h0 T40.vm T69.heap := C63.trans cz69
    have S69_a2_17 : Safe Z own_EL T40.vm T69.heap a2_17 := cz69.safe f70.lt S63_a2_17
    have S69_a_29 : Safe Z own_EL T40.vm T69.heap a_29 := cz69.safe Y63_4.lt S63_a_29
    have O69 := O63.keep K69q all0
    have K69 : Keep h0 T69.heap [] := K63.trans K69q all0
    have hk69 : _ ≤ T69.heap.size := Nat.le_trans hk63 K69q.1
    refine step (fun t k => st69.trans k) ?_
    refine step (fun _ => XS.goto X69.here hx rfl (pc0 := 80) (pc' := 85) rfl (B d44_80) (by decide) (by decide)) ?_
    have f83 := (Exa.keep f72 K69q)
    have f84 := (Fld.keep (Fld.keep (Fld.keep (Fld.ext E40 (Fld.keep (Fld.ext E20 Y17_1) K29q (ninS (Nat.ne_of_lt lt_b1_b20) nin0))) K54q (ninS (Nat.ne_of_lt lt_b1_b20) (ninS (Nat.ne_of_lt lt_b1_a_29) nin0))) K63q (ninS (Nat.ne_of_lt lt_b1_b20) (ninS (Nat.ne_of_lt lt_b1_a_29) nin0))) K69q nin0)
    have f85 := (Fld.keep (Fld.keep (Fld.keep (Fld.ext E40 (Fld.keep (Fld.ext E20 Y17_2) K29q (ninS (Nat.ne_of_lt lt_b1_b20) nin0))) K54q (ninS (Nat.ne_of_lt lt_b1_b20) (ninS (Nat.ne_of_lt lt_b1_a_29) nin0))) K63q (ninS (Nat.ne_of_lt lt_b1_b20) (ninS (Nat.ne_of_lt lt_b1_a_29) nin0))) K69q nin0)
    have f86 := (Fld.keep (Fld.keep (Fld.keep (Fld.ext E40 (Fld.keep (Fld.ext E20 Y17_3) K29q (ninS (Nat.ne_of_lt lt_b1_b20) nin0))) K54q (ninS (Nat.ne_of_lt lt_b1_b20) (ninS (Nat.ne_of_lt lt_b1_a_29) nin0))) K63q (ninS (Nat.ne_of_lt lt_b1_b20) (ninS (Nat.ne_of_lt lt_b1_a_29) nin0))) K69q nin0)
    have f87 := (Arv.keep (Arv.keep (Arv.keep ((Arv.keep (Y17_5.ext E20) K29q (ninS (Nat.ne_of_lt lt_a2_17_b20) nin0)).ext E40) K54q (ninS (Nat.ne_of_lt lt_a2_17_b20) (ninS (Nat.ne_of_lt lt_a2_17_a_29) nin0))) K63q (ninS (Nat.ne_of_lt lt_a2_17_b20) (ninS (Nat.ne_of_lt lt_a2_17_a_29) nin0))) K69q nin0)
    have f88 := (Exa.keep f70 K69q)
    have hK82 := (backOf (R := rr_pt) (p := p) (e := e) (below := below) (args := #[(.ref o0)]) (len := 3) (W := 0) (rm_saG l Z a0 hw [] w_0 w_1 w_2 w_3 b1 b69 t_69 kk_69 ((8 : Int32) + (1 : Int32)) (own_C ++ [c1]) a2_17 k2_17 q2_17 ((1 : Int32) + nj) ([c0] ++ dj) T69.heap n0 (own_old_le O69) ST O69 f83 f84 f85 f86 f87 f88 Y17_6 Y69_2 Y69_3 Y69_4 Y69_5 (own_okS Y63_6) ge_b1 Y17_7.1 (by have hd_ := hlen; simp only [List.length_append, List.length_cons, List.length_nil, own_lenL, own_lenC, own_lenD, own_lenE, own_t16]; omega)) hZ (ww98 hw) (ww78 hw) (by decide) (by decide))
    obtain ⟨cq82, kq82, q82a, q82b, q82c⟩ := isOf hZ rfl f83
    obtain ⟨_, _, ⟨T82, L82, k82, n82⟩, -, X82, ⟨Lc82, hQ82, l82, y82, z82⟩, st82⟩ := X69.virtualBack hx (y := y_23) (z := y_23) hown (mvT hZ (ww94 hw)) (mvT hZ (ww95 hw)) (notFace_of_selects (args := #[]) (mvT hZ (ww97 hw))) (mvT hZ (ww97 hw)) (mvT hZ (ww96 hw)) (by decide) hK82 q82a q82c (g := (mkF m 85 #[vR o0] [(.ref b69), (.ref b1)])) rfl (by rw [hml]; rfl) (Steps.refl _) (argsL := [(.ref b69)]) (rest := []) (lenOf pd_27 rfl) rfl (by show 2 * 0 + _ ≤ _; exact Nat.le_of_eq rfl) (B d44_85) (fun _ _ => ⟨rfl, rfl, (by decide : 15 + 1 ≤ _), (by decide : 238 + 34 ≤ _)⟩)
    dsimp only [Pt.U, Pt.locs, Pt.cells, Pt.slots] at X82 l82 y82 z82 st82 hQ82
    subst l82 y82 z82
    have f90 := (Exa.keep Y63_4 K69q)
    have f93 := (Exa.keep f74 K69q)
    have f95 := (Exa.keep f76 K69q)
    have f99 := (Arv.keep f80 K69q nin0)
    obtain ⟨a2_82, k2_82, q2_82, rfl, N82q, K82q, Y82_0, Y82_1, Y82_2, Y82_3, Y82_4, Y82_5, Y82_6, Y82_7⟩ := hQ82
    have N82 := Fr.app N69 N82q
    obtain ⟨lc82, X82, N82⟩ := own_gen X82 N82
    have cz82 : CHr Z own_EL T40.vm T69.heap T40.vm T82.heap := CHr.keep K82q (allS (Safe.exa hZ.alike f83 (by decide) (by decide)) (allS S69_a2_17 all0)) C69.1
    have C82 : CHr Z own_EL s.vm h0 T40.vm T82.heap := C69.trans cz82
    have S82_a2_17 : Safe Z own_EL T40.vm T82.heap a2_17 := cz82.safe f88.lt S69_a2_17
    have S82_a_29 : Safe Z own_EL T40.vm T82.heap a_29 := cz82.safe f90.lt S69_a_29
    have O82 := O69.keep K82q (allS ge_b1 (allS Y17_7.1 all0))
    have K82 : Keep h0 T82.heap [] := K69.trans K82q (allS (Or.inr sz_b1) (allS (Or.inr sz_a2_17) all0))
    have hk82 : _ ≤ T82.heap.size := Nat.le_trans hk69 K82q.1
    have sz_a2_82 : h0.size ≤ a2_82 := Y82_7.2.elim (fun e_ => by rw [e_]; exact sz_a2_17) (fun e_ => Nat.le_trans K69.1 e_)
    have S82_a2_82 : Safe Z own_EL T40.vm T82.heap a2_82 := Y82_7.2.elim (fun e_ => by rw [e_]; exact S82_a2_17) (fun e_ => Safe.keep K82q (allS (Safe.exa hZ.alike f83 (by decide) (by decide)) (allS S69_a2_17 all0)) C69.1 (Safe.new e_))
    have ne_o0_a2_82 : o0 ≠ a2_82 := own_nefr ne_o0_a2_17 f93.lt Y82_7.2
    have ne_sx2_a2_82 : sx2 ≠ a2_82 := own_nefr ne_sx2_a2_17 f95.lt Y82_7.2
    have ne_tx2_a2_82 : tx2 ≠ a2_82 := own_nefr ne_tx2_a2_17 f99.lt Y82_7.2
    refine step (fun t k => st82.trans k) ?_
    have f104 := (Exa.keep f90 K82q)
    have f108 := (Exa.keep f93 K82q)
    have f110 := (Exa.keep f95 K82q)
    have f115 := (Arv.keep f99 K82q (ninS (Ne.symm n_b1_tx2) (ninS ne_tx2_a2_17 nin0)))
    obtain ⟨b101, T101, h101, k101, t101, kk101, X101, e101, E101, hS, hk101, hZ, hown, Ex101, Fc101, Fv101, Va101, -, -, hC101, -, hne101, st101⟩ := ldcCH (s := s) X82 hx hZ hown (ww188 hw) (own_wS hw) rfl hS hk82 (own_EW hw) (List.mem_of_getElem? (i := 3) rfl) C82.1 own_eD (z := (2 : Int32)) (by decide) rfl (g := (mkF m 88 #[vR o0] [(.ref b1)])) rfl (B d44_88) (n := 8) (by decide +kernel) (by decide) (by decide) (by decide)
    have cz101 : CHr Z own_EL T40.vm T82.heap T101.vm h101 := hC101
    have C101 : CHr Z own_EL s.vm h0 T101.vm h101 := C82.trans cz101
    have S101_a_29 : Safe Z own_EL T101.vm h101 a_29 := cz101.safe f104.lt S82_a_29
    have S101_a2_82 : Safe Z own_EL T101.vm h101 a2_82 := cz101.safe Y82_4.lt S82_a2_82
    have O101 := O82.ext E101
    have K101 : Keep h0 h101 [] := K82.ext E101
    refine step st101 ?_
    have f117 := (Exa.ext E101 f108)
    have f118 := (Exa.ext E101 Y82_0)
    obtain ⟨ne101_a_29, nf101_a_29⟩ := hne101 _ S101_a_29
    obtain ⟨ne101_a2_82, nf101_a2_82⟩ := hne101 _ S101_a2_82
    have f121 := (Fld.ext E101 Y82_1)
    have f122 := (Fld.ext E101 Y82_2)
    have f123 := (Fld.ext E101 Y82_3)
    have f124 := (Y82_5.ext E101)
    have f125 := (Exa.ext E101 Y82_4)
    have hK120 := (backOf (R := rr_pt) (p := p) (e := e) (below := below) (args := #[(.ref o0)]) (len := 3) (W := 0) (rm_saG l Z a0 hw [] w_0 w_1 w_2 w_3 b1 b101 t101 kk101 (2 : Int32) own_D a2_82 k2_82 q2_82 (((1 : Int32) + nj) + ((8 : Int32) + (1 : Int32))) (([c0] ++ dj) ++ (own_C ++ [c1])) h101 n0 (own_old_le O101) ST O101 f118 f121 f122 f123 f124 f125 Y82_6 Ex101 Fv101 Fc101 Va101 own_okD ge_b1 Y82_7.1 (by have hd_ := hlen; simp only [List.length_append, List.length_cons, List.length_nil, own_lenL, own_lenC, own_lenD, own_lenE, own_t16]; omega)) hZ (ww98 hw) (ww78 hw) (by decide) (by decide))
    obtain ⟨cq120, kq120, q120a, q120b, q120c⟩ := isOf hZ e101 f118
    obtain ⟨_, _, ⟨T120, L120, k120, n120⟩, -, X120, ⟨Lc120, hQ120, l120, y120, z120⟩, st120⟩ := X101.virtualBack hx (y := y_23) (z := y_23) hown (mvT hZ (ww94 hw)) (mvT hZ (ww95 hw)) (notFace_of_selects (args := #[]) (mvT hZ (ww97 hw))) (mvT hZ (ww97 hw)) (mvT hZ (ww96 hw)) (by decide) hK120 q120a q120c (g := (mkF m 90 #[vR o0] [(.ref b101), (.ref b1)])) rfl (by rw [hml]; rfl) (Steps.refl _) (argsL := [(.ref b101)]) (rest := []) (lenOf pd_27 rfl) rfl (by show 2 * 0 + _ ≤ _; exact Nat.le_of_eq rfl) (B d44_90) (fun _ _ => ⟨rfl, e101, (by decide : 18 + 1 ≤ _), (by decide : 284 + 34 ≤ _)⟩)
    dsimp only [Pt.U, Pt.locs, Pt.cells, Pt.slots] at X120 l120 y120 z120 st120 hQ120
    subst l120 y120 z120
    have f128 := (Exa.ext E101 f104)
    have f132 := (Exa.ext E101 f110)
    have f137 := (f115.ext E101)
    obtain ⟨a2_120, k2_120, q2_120, rfl, N120q, K120q, Y120_0, Y120_1, Y120_2, Y120_3, Y120_4, Y120_5, Y120_6, Y120_7⟩ := hQ120
    have N120 := Fr.app N82 N120q
    obtain ⟨lc120, X120, N120⟩ := own_gen X120 N120
    have cz120 : CHr Z own_EL T101.vm h101 T101.vm T120.heap := CHr.keep K120q (allS (Safe.exa hZ.alike f118 (by decide) (by decide)) (allS S101_a2_82 all0)) C101.1
    have C120 : CHr Z own_EL s.vm h0 T101.vm T120.heap := C101.trans cz120
    have S120_a_29 : Safe Z own_EL T101.vm T120.heap a_29 := cz120.safe f128.lt S101_a_29
    have S120_a2_82 : Safe Z own_EL T101.vm T120.heap a2_82 := cz120.safe f125.lt S101_a2_82
    have O120 := O101.keep K120q (allS ge_b1 (allS Y82_7.1 all0))
    have K120 : Keep h0 T120.heap [] := K101.trans K120q (allS (Or.inr sz_b1) (allS (Or.inr sz_a2_82) all0))
    have hk120 : _ ≤ T120.heap.size := Nat.le_trans hk101 K120q.1
    have sz_a2_120 : h0.size ≤ a2_120 := Y120_7.2.elim (fun e_ => by rw [e_]; exact sz_a2_82) (fun e_ => Nat.le_trans K101.1 e_)
    have S120_a2_120 : Safe Z own_EL T101.vm T120.heap a2_120 := Y120_7.2.elim (fun e_ => by rw [e_]; exact S120_a2_82) (fun e_ => Safe.keep K120q (allS (Safe.exa hZ.alike f118 (by decide) (by decide)) (allS S101_a2_82 all0)) C101.1 (Safe.new e_))
    have ne_o0_a2_120 : o0 ≠ a2_120 := own_nefr ne_o0_a2_82 f117.lt Y120_7.2
    refine step (fun t k => st120.trans k) ?_
    refine step (fun _ => XS.aloadN X120.here hx rfl (B d44_93) rfl rfl) ?_
    have f140 := (Fld.keep (Fld.ext E101 (Fld.keep (Fld.keep (Fld.keep (Fld.keep (Fld.ext E40 (Fld.keep (Fld.ext E20 (Fld.keep Jq1 K17q (ninS n_o0_b1 (ninS n_o0_a_2 nin0)))) K29q (ninS (Nat.ne_of_lt lt_o0_b20) nin0))) K54q (ninS (Nat.ne_of_lt lt_o0_b20) (ninS (Nat.ne_of_lt lt_o0_a_29) nin0))) K63q (ninS (Nat.ne_of_lt lt_o0_b20) (ninS (Nat.ne_of_lt lt_o0_a_29) nin0))) K69q nin0) K82q (ninS n_o0_b1 (ninS ne_o0_a2_17 nin0)))) K120q (ninS n_o0_b1 (ninS ne_o0_a2_82 nin0)))
    obtain ⟨T139, X139, e139, st139⟩ := getF X120 hx hZ hown (host := "") (Or.inl (ww48 hw)) Via.refl rfl f140 (g := (mkF m 94 #[vR o0] [(.ref o0), (.ref b1)])) rfl rfl (B d44_94)
    refine step st139 ?_
    have f142 := (Exa.keep f132 K120q)
    have f143 := (Fld.keep (Fld.ext E101 (Fld.keep (Fld.keep (Fld.keep (Fld.keep (Fld.ext E40 (Fld.keep (Fld.ext E20 (Fld.keep Jv2 K17q (ninS n_sx2_b1 (ninS n_sx2_a_2 nin0)))) K29q (ninS (Nat.ne_of_lt lt_sx2_b20) nin0))) K54q (ninS (Nat.ne_of_lt lt_sx2_b20) (ninS (Nat.ne_of_lt lt_sx2_a_29) nin0))) K63q (ninS (Nat.ne_of_lt lt_sx2_b20) (ninS (Nat.ne_of_lt lt_sx2_a_29) nin0))) K69q nin0) K82q (ninS n_sx2_b1 (ninS ne_sx2_a2_17 nin0)))) K120q (ninS n_sx2_b1 (ninS ne_sx2_a2_82 nin0)))
    have f144 := (Fld.keep (Fld.ext E101 (Fld.keep (Fld.keep (Fld.keep (Fld.keep (Fld.ext E40 (Fld.keep (Fld.ext E20 (Fld.keep Jc2 K17q (ninS n_sx2_b1 (ninS n_sx2_a_2 nin0)))) K29q (ninS (Nat.ne_of_lt lt_sx2_b20) nin0))) K54q (ninS (Nat.ne_of_lt lt_sx2_b20) (ninS (Nat.ne_of_lt lt_sx2_a_29) nin0))) K63q (ninS (Nat.ne_of_lt lt_sx2_b20) (ninS (Nat.ne_of_lt lt_sx2_a_29) nin0))) K69q nin0) K82q (ninS n_sx2_b1 (ninS ne_sx2_a2_17 nin0)))) K120q (ninS n_sx2_b1 (ninS ne_sx2_a2_82 nin0)))
    have f145 := (Arv.keep f137 K120q (ninS (Ne.symm n_b1_tx2) (ninS ne_tx2_a2_82 nin0)))
    have hK141 := (backOf (R := rr_pt) (p := p) (e := e) (below := below) (args := #[(.ref o0)]) (len := 3) (W := 0) (rm_saG l Z a0 hw [] w_0 w_1 w_2 w_3 b1 sx2 tx2 kx2 (1 : Int32) ([c2]) a2_120 k2_120 q2_120 ((((1 : Int32) + nj) + ((8 : Int32) + (1 : Int32))) + (2 : Int32)) ((([c0] ++ dj) ++ (own_C ++ [c1])) ++ own_D) T120.heap n0 (own_old_le O120) ST O120 Y120_0 Y120_1 Y120_2 Y120_3 Y120_5 Y120_4 Y120_6 f142 f143 f144 f145 (own_ok1 hl2) ge_b1 Y120_7.1 (by have hd_ := hlen; simp only [List.length_append, List.length_cons, List.length_nil, own_lenL, own_lenC, own_lenD, own_lenE, own_t16]; omega)) hZ (ww98 hw) (ww78 hw) (by decide) (by decide))
    obtain ⟨cq141, kq141, q141a, q141b, q141c⟩ := isOf hZ e139 Y120_0
    obtain ⟨_, _, ⟨T141, L141, k141, n141⟩, -, X141, ⟨Lc141, hQ141, l141, y141, z141⟩, st141⟩ := X139.virtualBack hx (y := y_23) (z := y_23) hown (mvT hZ (ww94 hw)) (mvT hZ (ww95 hw)) (notFace_of_selects (args := #[]) (mvT hZ (ww97 hw))) (mvT hZ (ww97 hw)) (mvT hZ (ww96 hw)) (by decide) hK141 q141a q141c (g := (mkF m 97 #[vR o0] [(.ref sx2), (.ref b1)])) rfl (by rw [hml]; rfl) (Steps.refl _) (argsL := [(.ref sx2)]) (rest := []) (lenOf pd_27 rfl) rfl (by show 2 * 0 + _ ≤ _; exact Nat.le_of_eq rfl) (B d44_97) (fun _ _ => ⟨rfl, e139, (by decide : 19 + 1 ≤ _), (by decide : 318 + 34 ≤ _)⟩)
    dsimp only [Pt.U, Pt.locs, Pt.cells, Pt.slots] at X141 l141 y141 z141 st141 hQ141
    subst l141 y141 z141
    have f149 := (Exa.keep f128 K120q)
    obtain ⟨a2_141, k2_141, q2_141, rfl, N141q, K141q, Y141_0, Y141_1, Y141_2, Y141_3, Y141_4, Y141_5, Y141_6, Y141_7⟩ := hQ141
    have N141 := Fr.app N120 N141q
    obtain ⟨lc141, X141, N141⟩ := own_gen X141 N141
    have cz141 : CHr Z own_EL T101.vm T120.heap T101.vm T141.heap := CHr.keep K141q (allS (Safe.exa hZ.alike Y120_0 (by decide) (by decide)) (allS S120_a2_120 all0)) C120.1
    have C141 : CHr Z own_EL s.vm h0 T101.vm T141.heap := C120.trans cz141
    have S141_a_29 : Safe Z own_EL T101.vm T141.heap a_29 := cz141.safe f149.lt S120_a_29
    have S141_a2_120 : Safe Z own_EL T101.vm T141.heap a2_120 := cz141.safe Y120_4.lt S120_a2_120
    have O141 := O120.keep K141q (allS ge_b1 (allS Y120_7.1 all0))
    have K141 : Keep h0 T141.heap [] := K120.trans K141q (allS (Or.inr sz_b1) (allS (Or.inr sz_a2_120) all0))
    have hk141 : _ ≤ T141.heap.size := Nat.le_trans hk120 K141q.1
    have sz_a2_141 : h0.size ≤ a2_141 := Y141_7.2.elim (fun e_ => by rw [e_]; exact sz_a2_120) (fun e_ => Nat.le_trans K120.1 e_)
    have S141_a2_141 : Safe Z own_EL T101.vm T141.heap a2_141 := Y141_7.2.elim (fun e_ => by rw [e_]; exact S141_a2_120) (fun e_ => Safe.keep K141q (allS (Safe.exa hZ.alike Y120_0 (by decide) (by decide)) (allS S120_a2_120 all0)) C120.1 (Safe.new e_))
    refine step (fun t k => st141.trans k) ?_
    refine step (fun _ => XS.aloadN X141.here hx rfl (B d44_100) rfl rfl) ?_
    have f163 := (Fld.keep (Fld.keep (Fld.ext E101 (Fld.keep (Fld.keep (Fld.keep (Fld.keep (Fld.ext E40 (Fld.keep (Fld.ext E20 (Fld.keep Jq4 K17q (ninS n_o0_b1 (ninS n_o0_a_2 nin0)))) K29q (ninS (Nat.ne_of_lt lt_o0_b20) nin0))) K54q (ninS (Nat.ne_of_lt lt_o0_b20) (ninS (Nat.ne_of_lt lt_o0_a_29) nin0))) K63q (ninS (Nat.ne_of_lt lt_o0_b20) (ninS (Nat.ne_of_lt lt_o0_a_29) nin0))) K69q nin0) K82q (ninS n_o0_b1 (ninS ne_o0_a2_17 nin0)))) K120q (ninS n_o0_b1 (ninS ne_o0_a2_82 nin0))) K141q (ninS n_o0_b1 (ninS ne_o0_a2_120 nin0)))
    obtain ⟨T162, X162, e162, st162⟩ := getF X141 hx hZ hown (host := "") (Or.inl (ww54 hw)) Via.refl rfl f163 (g := (mkF m 101 #[vR o0] [(.ref o0), (.ref b1)])) rfl rfl (B d44_101)
    refine step st162 ?_
    refine step (fun _ => XS.ifnullYes X162.here hx rfl (pc0 := 104) (pc' := 137) rfl (B d44_104) rfl (by decide) (by decide)) ?_
    have f169 := (Exa.keep f149 K141q)
    obtain ⟨b164, T164, h164, k164, t164, kk164, X164, e164, E164, hS, hk164, hZ, hown, Ex164, Fc164, Fv164, Va164, -, -, hC164, -, hne164, st164⟩ := ldcCH (s := s) X162 hx hZ hown (ww141 hw) (own_wS hw) e162 hS hk141 (own_EW hw) (List.mem_of_getElem? (i := 1) rfl) C141.1 own_eE (z := (0 : Int32)) (by decide) rfl (g := (mkF m 137 #[vR o0] [(.ref b1)])) rfl (B d44_137) (n := 0) (by decide +kernel) (by decide) (by decide) (by decide)
    have cz164 : CHr Z own_EL T101.vm T141.heap T164.vm h164 := hC164
    have C164 : CHr Z own_EL s.vm h0 T164.vm h164 := C141.trans cz164
    have S164_a_29 : Safe Z own_EL T164.vm h164 a_29 := cz164.safe f169.lt S141_a_29
    have S164_a2_141 : Safe Z own_EL T164.vm h164 a2_141 := cz164.safe Y141_4.lt S141_a2_141
    have O164 := O141.ext E164
    have K164 : Keep h0 h164 [] := K141.ext E164
    refine step st164 ?_
    have f185 := (Exa.ext E164 Y141_0)
    obtain ⟨ne164_a_29, nf164_a_29⟩ := hne164 _ S164_a_29
    obtain ⟨ne164_a2_141, nf164_a2_141⟩ := hne164 _ S164_a2_141
    have f188 := (Fld.ext E164 Y141_1)
    have f189 := (Fld.ext E164 Y141_2)
    have f190 := (Fld.ext E164 Y141_3)
    have f191 := (Y141_5.ext E164)
    have f192 := (Exa.ext E164 Y141_4)
    have hK187 := (backOf (R := rr_pt) (p := p) (e := e) (below := below) (args := #[(.ref o0)]) (len := 3) (W := 0) (rm_saG l Z a0 hw [] w_0 w_1 w_2 w_3 b1 b164 t164 kk164 (0 : Int32) own_E a2_141 k2_141 q2_141 (((((1 : Int32) + nj) + ((8 : Int32) + (1 : Int32))) + (2 : Int32)) + (1 : Int32)) (((([c0] ++ dj) ++ (own_C ++ [c1])) ++ own_D) ++ [c2]) h164 n0 (own_old_le O164) ST O164 f185 f188 f189 f190 f191 f192 Y141_6 Ex164 Fv164 Fc164 Va164 own_okE ge_b1 Y141_7.1 (by have hd_ := hlen; simp only [List.length_append, List.length_cons, List.length_nil, own_lenL, own_lenC, own_lenD, own_lenE, own_t16]; omega)) hZ (ww98 hw) (ww78 hw) (by decide) (by decide))
    obtain ⟨cq187, kq187, q187a, q187b, q187c⟩ := isOf hZ e164 f185
    obtain ⟨_, _, ⟨T187, L187, k187, n187⟩, -, X187, ⟨Lc187, hQ187, l187, y187, z187⟩, st187⟩ := X164.virtualBack hx (y := y_23) (z := y_23) hown (mvT hZ (ww94 hw)) (mvT hZ (ww95 hw)) (notFace_of_selects (args := #[]) (mvT hZ (ww97 hw))) (mvT hZ (ww97 hw)) (mvT hZ (ww96 hw)) (by decide) hK187 q187a q187c (g := (mkF m 139 #[vR o0] [(.ref b164), (.ref b1)])) rfl (by rw [hml]; rfl) (Steps.refl _) (argsL := [(.ref b164)]) (rest := []) (lenOf pd_27 rfl) rfl (by show 2 * 0 + _ ≤ _; exact Nat.le_of_eq rfl) (B d44_139) (fun _ _ => ⟨rfl, e164, (by decide : 22 + 1 ≤ _), (by decide : 356 + 34 ≤ _)⟩)
    dsimp only [Pt.U, Pt.locs, Pt.cells, Pt.slots] at X187 l187 y187 z187 st187 hQ187
    subst l187 y187 z187
    obtain ⟨a2_187, k2_187, q2_187, rfl, N187q, K187q, Y187_0, Y187_1, Y187_2, Y187_3, Y187_4, Y187_5, Y187_6, Y187_7⟩ := hQ187
    have N187 := Fr.app N141 N187q
    obtain ⟨lc187, X187, N187⟩ := own_gen X187 N187
    have cz187 : CHr Z own_EL T164.vm h164 T164.vm T187.heap := CHr.keep K187q (allS (Safe.exa hZ.alike f185 (by decide) (by decide)) (allS S164_a2_141 all0)) C164.1
    have C187 : CHr Z own_EL s.vm h0 T164.vm T187.heap := C164.trans cz187
    have O187 := O164.keep K187q (allS ge_b1 (allS Y141_7.1 all0))
    have K187 : Keep h0 T187.heap [] := K164.trans K187q (allS (Or.inr sz_b1) (allS (Or.inr sz_a2_141) all0))
    have hk187 : _ ≤ T187.heap.size := Nat.le_trans hk164 K187q.1
    refine step (fun t k => st187.trans k) ?_
    have hK210 := (backOf (R := rr_pt) (p := p) (e := e) (below := below) (args := #[(.ref o0)]) (len := 3) (W := 0) (rm_ts l Z a0 hw [] w_0 w_1 w_2 w_3 b1 a2_187 k2_187 q2_187 ((((((1 : Int32) + nj) + ((8 : Int32) + (1 : Int32))) + (2 : Int32)) + (1 : Int32)) + (0 : Int32)) ((((([c0] ++ dj) ++ (own_C ++ [c1])) ++ own_D) ++ [c2]) ++ own_E) T187.heap n0 (own_old_le O187) ST O187 Y187_0 Y187_1 Y187_2 Y187_3 Y187_5 Y187_4 Y187_6) hZ (ww147 hw) (ww78 hw) (by decide) (by decide))
    obtain ⟨cq210, kq210, q210a, q210b, q210c⟩ := isOf hZ rfl Y187_0
    obtain ⟨_, _, ⟨T210, L210, k210, n210⟩, -, X210, ⟨Lc210, hQ210, l210, y210, z210⟩, st210⟩ := X187.virtualBack hx (y := y_33) (z := y_33) hown (mvT hZ (ww143 hw)) (mvT hZ (ww144 hw)) (notFace_of_selects (args := #[]) (mvT hZ (ww146 hw))) (mvT hZ (ww146 hw)) (mvT hZ (ww145 hw)) (by decide) hK210 q210a q210c (g := (mkF m 142 #[vR o0] [(.ref b1)])) rfl (by rw [hml]; rfl) (Steps.refl _) (argsL := []) (rest := []) (lenOf pd_28 rfl) rfl (by show 2 * 0 + _ ≤ _; exact Nat.le_of_eq rfl) (B d44_142) (fun _ _ => ⟨rfl, rfl, (by decide : 23 + 2 ≤ _), (by decide : 390 + 38 ≤ _)⟩)
    dsimp only [Pt.U, Pt.locs, Pt.cells, Pt.slots] at X210 l210 y210 z210 st210 hQ210
    subst l210 y210 z210
    obtain ⟨b210, t_210, kk_210, rfl, N210q, K210q, Y210_0, Y210_1, Y210_2, Y210_3, Y210_4, Y210_5⟩ := hQ210
    have N210 := Fr.app N187 N210q
    obtain ⟨lc210, X210, N210⟩ := own_gen X210 N210
    have cz210 : CHr Z own_EL T164.vm T187.heap T164.vm T210.heap := CHr.keep K210q all0 C187.1
    have C210 : CHr Z own_EL s.vm h0 T164.vm T210.heap := C187.trans cz210
    have K210 : Keep h0 T210.heap [] := K187.trans K210q all0
    have sz_b210 : h0.size ≤ b210 := Nat.le_trans K187.1 Y210_0
    have sz_t_210 : h0.size ≤ t_210 := Nat.le_trans K187.1 Y210_1
    have hk210 : _ ≤ T210.heap.size := Nat.le_trans hk187 K210q.1
    refine step (fun t k => st210.trans k) ?_
    exact ret (v := some (.ref b210)) X210 hS hk210 C210 hZ (fun h => by rw [Bd.returns] at h; cases h) (fun fs hr => retA X210 hx Bd.returns rfl rfl (B d44_145) hr) rfl ⟨b210, t_210, kk_210, ((((((1 : Int32) + nj) + ((8 : Int32) + (1 : Int32))) + (2 : Int32)) + (1 : Int32)) + (0 : Int32)), ((((([c0] ++ dj) ++ (own_C ++ [c1])) ++ own_D) ++ [c2]) ++ own_E), rfl, N210, K210, sz_b210, sz_t_210, Y210_2, Y210_3, Y210_4, Y210_5, (own_okS Y187_6), (own_ist dlj)⟩ (by decide) (by decide)
  refine step (fun _ => XS.aloadN X12.here hx rfl (B d44_14) rfl rfl) ?_
  have f234 := (Fld.keep (Fld.keep (Fld.ext E1 Fq2) K2q (ninS (Nat.ne_of_lt lt_o0_b1) nin0)) K12q (ninS (Nat.ne_of_lt lt_o0_b1) (ninS (Nat.ne_of_lt lt_o0_a_2) nin0)))
  obtain ⟨T233, X233, e233, st233⟩ := getF X12 hx hZ hown (host := "") (Or.inl (ww50 hw)) Via.refl rfl f234 (g := (mkF m 15 #[vR o0] [(.ref o0), (.ref b1)])) rfl rfl (B d44_15)
  refine step st233 ?_
  by_cases hc235 : (0 : Int32) < p9
  · skip
    refine step (fun _ => XS.ifNo X233.here hx rfl (B d44_18) rfl ((if0 _ _).trans (tlt hc235).2.2.2)) ?_
    have f237 := (Exa.keep (Exa.keep f3 K2q) K12q)
    have f239 := (Exa.keep (Exa.keep f5 K2q) K12q)
    have f240 := (Exa.keep (Exa.keep f6 K2q) K12q)
    have f242 := (Arv.keep (Arv.keep f8 K2q (ninS (Nat.ne_of_lt lt_tx1_b1) nin0)) K12q (ninS (Nat.ne_of_lt lt_tx1_b1) (ninS (Nat.ne_of_lt lt_tx1_a_2) nin0)))
    have f243 := (Arv.keep (Arv.keep f9 K2q (ninS (Nat.ne_of_lt lt_tx2_b1) nin0)) K12q (ninS (Nat.ne_of_lt lt_tx2_b1) (ninS (Nat.ne_of_lt lt_tx2_a_2) nin0)))
    obtain ⟨T236, h236, X236, e236, E236, A236, D236, -, st236⟩ := newO X233 hx hZ hown (ww76 hw) (ww77 hw) (ww78 hw) e233 (g := (mkF m 21 #[vR o0] [(.ref b1)])) rfl (B d44_21) (by decide) (by decide)
    obtain ⟨b236, g236⟩ : ∃ z, z = T12.heap.size := ⟨_, rfl⟩
    rw [← g236] at A236 D236 st236
    have cz236 : CHr Z own_EL s.vm T12.heap s.vm h236 := CHr.ext E236 C12.1
    have C236 : CHr Z own_EL s.vm h0 s.vm h236 := C12.trans cz236
    have S236_a_2 : Safe Z own_EL s.vm h236 a_2 := cz236.safe Y12_4.lt S12_a_2
    have ge_b236 : n0 ≤ b236 := Nat.le_trans (own_old_le O12) (Nat.le_of_eq g236.symm)
    have sz_b236 : h0.size ≤ b236 := Nat.le_trans K12.1 (Nat.le_of_eq g236.symm)
    have lt_a_2_b236 : a_2 < b236 := Nat.lt_of_lt_of_le Y12_4.lt (Nat.le_of_eq g236.symm)
    have lt_b1_b236 : b1 < b236 := Nat.lt_of_lt_of_le Y12_0.lt (Nat.le_of_eq g236.symm)
    have lt_o0_b236 : o0 < b236 := Nat.lt_of_lt_of_le f237.lt (Nat.le_of_eq g236.symm)
    have lt_sx1_b236 : sx1 < b236 := Nat.lt_of_lt_of_le f239.lt (Nat.le_of_eq g236.symm)
    have lt_sx2_b236 : sx2 < b236 := Nat.lt_of_lt_of_le f240.lt (Nat.le_of_eq g236.symm)
    have lt_tx1_b236 : tx1 < b236 := Nat.lt_of_lt_of_le f242.lt (Nat.le_of_eq g236.symm)
    have lt_tx2_b236 : tx2 < b236 := Nat.lt_of_lt_of_le f243.lt (Nat.le_of_eq g236.symm)
    have O236 := O12.ext E236
    have hk236 := Nat.le_trans hk9 E236.1
    have K236 : Keep h0 h236 [] := K12.ext E236
    have F236_value : Fld Z h236 b236 cn_0 "value" "[B" .null := D236 (Or.inl (ww91 hw)) (ty := (.array .byte)) (by decide)
    have F236_coder : Fld Z h236 b236 cn_0 "coder" "B" (.int 0) := D236 (Or.inl (ww93 hw)) (ty := .byte) (by decide)
    have F236_count : Fld Z h236 b236 cn_0 "count" "I" (.int 0) := D236 (Or.inl (ww115 hw)) (ty := .int) (by decide)
    refine step st236 ?_
    refine step (fun _ => XS.dup X236.here hx rfl (B d44_24) rfl rfl) ?_
    have hK244 := (backOf (R := rr_pt) (p := p) (e := e) (below := below) (args := #[(.ref o0)]) (len := 3) (W := 2) (rm_si l Z a0 hw [] w_0 w_1 w_2 w_3 b236 h236 n0 (own_old_le O236) ST O236 A236 ge_b236 F236_value F236_coder F236_count) hZ (ww81 hw) (ww78 hw) (by decide) (by decide))
    obtain ⟨_, _, ⟨T244, L244, k244, n244⟩, -, X244, ⟨Lc244, hQ244, l244, y244, z244⟩, st244⟩ := X236.specialBack hx (y := y_12) rfl hown (mvT hZ (ww79 hw)) (mvT hZ (ww80 hw)) (mvT hZ (ww81 hw)) (by decide) hK244 (g := (mkF m 25 #[vR o0] [(.ref b236), (.ref b236), (.ref b1)])) rfl (by rw [hml]; rfl) (Steps.refl _) (a := b236) (argsL := []) (rest := [(.ref b236), (.ref b1)]) (lenOf pd_26 rfl) rfl (by show 2 * 0 + _ ≤ _; exact Nat.le_of_eq rfl) (B d44_25) (fun _ _ => ⟨rfl, e236, (by decide : 3 + 1 ≤ _), (by decide : 24 + 16 ≤ _)⟩)
    dsimp only [Pt.U, Pt.locs, Pt.cells, Pt.slots] at X244 l244 y244 z244 st244 hQ244
    subst l244 y244 z244
    have f245 := (Exa.ext E236 Y12_4)
    have f246 := (Exa.ext E236 Y12_0)
    have f247 := (Exa.ext E236 f237)
    have f249 := (Exa.ext E236 f239)
    have f250 := (Exa.ext E236 f240)
    have f252 := (f242.ext E236)
    have f253 := (f243.ext E236)
    obtain ⟨a_244, ka_244, rfl, N244q, K244q, Y244_0, Y244_1, Y244_2, Y244_3, Y244_4, Y244_5, Y244_6⟩ := hQ244
    have N244 := Fr.app N12 N244q
    obtain ⟨lc244, X244, N244⟩ := own_gen X244 N244
    have cz244 : CHr Z own_EL s.vm h236 s.vm T244.heap := CHr.keep K244q (allS (Safe.exa hZ.alike A236 (by decide) (by decide)) all0) C236.1
    have C244 : CHr Z own_EL s.vm h0 s.vm T244.heap := C236.trans cz244
    have S244_a_2 : Safe Z own_EL s.vm T244.heap a_2 := cz244.safe f245.lt S236_a_2
    have O244 := O236.keep K244q (allS ge_b236 all0)
    have K244 : Keep h0 T244.heap [] := K236.trans K244q (allS (Or.inr sz_b236) all0)
    have ge_a_244 : n0 ≤ a_244 := Nat.le_trans (own_old_le O236) Y244_0
    have sz_a_244 : h0.size ≤ a_244 := Nat.le_trans K236.1 Y244_0
    have lt_a_2_a_244 : a_2 < a_244 := Nat.lt_of_lt_of_le f245.lt Y244_0
    have lt_b1_a_244 : b1 < a_244 := Nat.lt_of_lt_of_le f246.lt Y244_0
    have lt_o0_a_244 : o0 < a_244 := Nat.lt_of_lt_of_le f247.lt Y244_0
    have lt_sx1_a_244 : sx1 < a_244 := Nat.lt_of_lt_of_le f249.lt Y244_0
    have lt_sx2_a_244 : sx2 < a_244 := Nat.lt_of_lt_of_le f250.lt Y244_0
    have lt_tx1_a_244 : tx1 < a_244 := Nat.lt_of_lt_of_le f252.lt Y244_0
    have lt_tx2_a_244 : tx2 < a_244 := Nat.lt_of_lt_of_le f253.lt Y244_0
    have hk244 : _ ≤ T244.heap.size := Nat.le_trans hk236 K244q.1
    have S244_a_244 : Safe Z own_EL s.vm T244.heap a_244 := Safe.keep K244q (allS (Safe.exa hZ.alike A236 (by decide) (by decide)) all0) C236.1 (Safe.new Y244_0)
    have Vz_a_244 := own_z16 Y244_6
    refine step (fun t k => st244.trans k) ?_
    have f255 := (Exa.keep f245 K244q)
    have f256 := (Exa.keep f246 K244q)
    have f257 := (Exa.keep f247 K244q)
    have f259 := (Exa.keep f249 K244q)
    have f260 := (Exa.keep f250 K244q)
    have f262 := (Arv.keep f252 K244q (ninS (Nat.ne_of_lt lt_tx1_b236) nin0))
    have f263 := (Arv.keep f253 K244q (ninS (Nat.ne_of_lt lt_tx2_b236) nin0))
    obtain ⟨b254, T254, h254, k254, t254, kk254, X254, e254, E254, hS, hk254, hZ, hown, Ex254, Fc254, Fv254, Va254, -, -, hC254, -, hne254, st254⟩ := ldcCH (s := s) X244 hx hZ hown (ww219 hw) (own_wS hw) rfl hS hk244 (own_EW hw) (List.mem_of_getElem? (i := 0) rfl) C244.1 own_eL (z := (6 : Int32)) (by decide) rfl (g := (mkF m 28 #[vR o0] [(.ref b236), (.ref b1)])) rfl (B d44_28) (n := 24) (by decide +kernel) (by decide) (by decide) (by decide)
    have cz254 : CHr Z own_EL s.vm T244.heap T254.vm h254 := hC254
    have C254 : CHr Z own_EL s.vm h0 T254.vm h254 := C244.trans cz254
    have S254_a_2 : Safe Z own_EL T254.vm h254 a_2 := cz254.safe f255.lt S244_a_2
    have S254_a_244 : Safe Z own_EL T254.vm h254 a_244 := cz254.safe Y244_5.lt S244_a_244
    have O254 := O244.ext E254
    have K254 : Keep h0 h254 [] := K244.ext E254
    refine step st254 ?_
    have f264 := (Exa.ext E254 f257)
    have f265 := (Exa.ext E254 f256)
    have f266 := (Exa.ext E254 Y244_1)
    obtain ⟨ne254_a_2, nf254_a_2⟩ := hne254 _ S254_a_2
    obtain ⟨ne254_a_244, nf254_a_244⟩ := hne254 _ S254_a_244
    have f268 := (Fld.ext E254 Y244_2)
    have f269 := (Fld.ext E254 Y244_3)
    have f270 := (Fld.ext E254 Y244_4)
    have f271 := (Vz_a_244.ext E254)
    have f272 := (Exa.ext E254 Y244_5)
    have hK267 := (backOf (R := rr_pt) (p := p) (e := e) (below := below) (args := #[(.ref o0)]) (len := 3) (W := 1) (rm_saN l Z a0 hw [] w_0 w_1 w_2 w_3 b236 b254 t254 kk254 (6 : Int32) own_L a_244 ka_244 (16 : Int32) (0 : Int32) ([]) h254 n0 (own_old_le O254) ST O254 f266 f268 f269 f270 f271 f272 own_sb0 Ex254 Fv254 Fc254 Va254 own_okL ge_b236 ge_a_244 (by simp only [List.length_append, List.length_cons, List.length_nil, own_lenL, own_lenC, own_lenD, own_lenE, own_t16]; omega)) hZ (ww98 hw) (ww78 hw) (by decide) (by decide))
    obtain ⟨cq267, kq267, q267a, q267b, q267c⟩ := isOf hZ e254 f266
    obtain ⟨_, _, ⟨T267, L267, k267, n267⟩, -, X267, ⟨Lc267, hQ267, l267, y267, z267⟩, st267⟩ := X254.virtualBack hx (y := y_23) (z := y_23) hown (mvT hZ (ww94 hw)) (mvT hZ (ww95 hw)) (notFace_of_selects (args := #[]) (mvT hZ (ww97 hw))) (mvT hZ (ww97 hw)) (mvT hZ (ww96 hw)) (by decide) hK267 q267a q267c (g := (mkF m 30 #[vR o0] [(.ref b254), (.ref b236), (.ref b1)])) rfl (by rw [hml]; rfl) (Steps.refl _) (argsL := [(.ref b254)]) (rest := [(.ref b1)]) (lenOf pd_27 rfl) rfl (by show 2 * 0 + _ ≤ _; exact Nat.le_of_eq rfl) (B d44_30) (fun _ _ => ⟨rfl, e254, (by decide : 6 + 0 ≤ _), (by decide : 68 + 0 ≤ _)⟩)
    dsimp only [Pt.U, Pt.locs, Pt.cells, Pt.slots] at X267 l267 y267 z267 st267 hQ267
    subst l267 y267 z267
    obtain ⟨rfl, N267q, K267q, Y267_0, Y267_1, Y267_2, Y267_3, Y267_4, Y267_5, Y267_6⟩ := hQ267
    have N267 := Fr.app N244 N267q
    obtain ⟨lc267, X267, N267⟩ := own_gen X267 N267
    have cz267 : CHr Z own_EL T254.vm h254 T254.vm T267.heap := CHr.keep K267q (allS (Safe.exa hZ.alike f266 (by decide) (by decide)) (allS S254_a_244 all0)) C254.1
    have C267 : CHr Z own_EL s.vm h0 T254.vm T267.heap := C254.trans cz267
    have f273 := (Exa.ext E254 f255)
    have S267_a_2 : Safe Z own_EL T254.vm T267.heap a_2 := cz267.safe f273.lt S254_a_2
    have S267_a_244 : Safe Z own_EL T254.vm T267.heap a_244 := cz267.safe f272.lt S254_a_244
    have O267 := O254.keep K267q (allS ge_b236 (allS ge_a_244 all0))
    have K267 : Keep h0 T267.heap [] := K254.trans K267q (allS (Or.inr sz_b236) (allS (Or.inr sz_a_244) all0))
    have hk267 : _ ≤ T267.heap.size := Nat.le_trans hk254 K267q.1
    have Fz267 : Fld Z T267.heap b236 cn_0 "count" "I" (.int 6) := by have z_ := Y267_3; rw [own_z0a] at z_; exact z_
    have Vz267 : Arv Z T267.heap a_244 ka_244 .byte (16 : Int32) (own_by own_L) (.int 0) := Y267_5
    have sz267 : own_sbp (6 : Int32) (16 : Int32) own_L := by have z_ := Y267_6; rw [own_z0a] at z_; exact z_
    refine step (fun t k => st267.trans k) ?_
    refine step (fun _ => XS.aloadN X267.here hx rfl (B d44_33) rfl rfl) ?_
    have f275 := (Fld.keep (Fld.ext E254 (Fld.keep (Fld.ext E236 f234) K244q (ninS (Nat.ne_of_lt lt_o0_b236) nin0))) K267q (ninS (Nat.ne_of_lt lt_o0_b236) (ninS (Nat.ne_of_lt lt_o0_a_244) nin0)))
    obtain ⟨T274, X274, e274, st274⟩ := getF X267 hx hZ hown (host := "") (Or.inl (ww50 hw)) Via.refl rfl f275 (g := (mkF m 34 #[vR o0] [(.ref o0), (.ref b236), (.ref b1)])) rfl rfl (B d44_34)
    refine step st274 ?_
    have hK276 := (backOf (R := rr_pt) (p := p) (e := e) (below := below) (args := #[(.ref o0)]) (len := 3) (W := 1) (rm_sai l Z a0 hw [] w_0 w_1 w_2 w_3 b236 p9 a_244 ka_244 T267.heap n0 (own_old_le O267) ST O267 Y267_0 Y267_1 Y267_2 Fz267 Vz267 Y267_4 ge_b236 ge_a_244 (hc235 : (0 : Int32) < p9)) hZ (ww224 hw) (ww78 hw) (by decide) (by decide))
    obtain ⟨cq276, kq276, q276a, q276b, q276c⟩ := isOf hZ e274 Y267_0
    obtain ⟨_, _, ⟨T276, L276, k276, n276⟩, -, X276, ⟨Lc276, hQ276, l276, y276, z276⟩, st276⟩ := X274.virtualBack hx (y := y_37) (z := y_37) hown (mvT hZ (ww220 hw)) (mvT hZ (ww221 hw)) (notFace_of_selects (args := #[]) (mvT hZ (ww223 hw))) (mvT hZ (ww223 hw)) (mvT hZ (ww222 hw)) (by decide) hK276 q276a q276c (g := (mkF m 37 #[vR o0] [(.int p9), (.ref b236), (.ref b1)])) rfl (by rw [hml]; rfl) (Steps.refl _) (argsL := [(.int p9)]) (rest := [(.ref b1)]) (lenOf pd_29 rfl) rfl (by show 2 * 0 + _ ≤ _; exact Nat.le_of_eq rfl) (B d44_37) (fun _ _ => ⟨rfl, e274, (by decide : 6 + 0 ≤ _), (by decide : 68 + 0 ≤ _)⟩)
    dsimp only [Pt.U, Pt.locs, Pt.cells, Pt.slots] at X276 l276 y276 z276 st276 hQ276
    subst l276 y276 z276
    obtain ⟨n_276, ds_276, rfl, N276q, K276q, Y276_0, Y276_1, Y276_2, Y276_3, Y276_4, Y276_5, Y276_6⟩ := hQ276
    have N276 := Fr.app N267 N276q
    obtain ⟨lc276, X276, N276⟩ := own_gen X276 N276
    have cz276 : CHr Z own_EL T254.vm T267.heap T254.vm T276.heap := CHr.keep K276q (allS (Safe.exa hZ.alike Y267_0 (by decide) (by decide)) (allS S267_a_244 all0)) C267.1
    have C276 : CHr Z own_EL s.vm h0 T254.vm T276.heap := C267.trans cz276
    have f277 := (Exa.keep f273 K267q)
    have S276_a_2 : Safe Z own_EL T254.vm T276.heap a_2 := cz276.safe f277.lt S267_a_2
    have O276 := O267.keep K276q (allS ge_b236 (allS ge_a_244 all0))
    have K276 : Keep h0 T276.heap [] := K267.trans K276q (allS (Or.inr sz_b236) (allS (Or.inr sz_a_244) all0))
    have hk276 : _ ≤ T276.heap.size := Nat.le_trans hk267 K276q.1
    refine step (fun t k => st276.trans k) ?_
    have hK278 := (backOf (R := rr_pt) (p := p) (e := e) (below := below) (args := #[(.ref o0)]) (len := 3) (W := 1) (rm_ts l Z a0 hw [] w_0 w_1 w_2 w_3 b236 a_244 ka_244 (16 : Int32) ((6 : Int32) + n_276) (own_L ++ ds_276) T276.heap n0 (own_old_le O276) ST O276 Y276_0 Y276_1 Y276_2 Y276_3 Y276_5 Y276_4 (own_sbI hc235 Y276_6)) hZ (ww147 hw) (ww78 hw) (by decide) (by decide))
    obtain ⟨cq278, kq278, q278a, q278b, q278c⟩ := isOf hZ rfl Y276_0
    obtain ⟨_, _, ⟨T278, L278, k278, n278⟩, -, X278, ⟨Lc278, hQ278, l278, y278, z278⟩, st278⟩ := X276.virtualBack hx (y := y_33) (z := y_33) hown (mvT hZ (ww143 hw)) (mvT hZ (ww144 hw)) (notFace_of_selects (args := #[]) (mvT hZ (ww146 hw))) (mvT hZ (ww146 hw)) (mvT hZ (ww145 hw)) (by decide) hK278 q278a q278c (g := (mkF m 40 #[vR o0] [(.ref b236), (.ref b1)])) rfl (by rw [hml]; rfl) (Steps.refl _) (argsL := []) (rest := [(.ref b1)]) (lenOf pd_28 rfl) rfl (by show 2 * 0 + _ ≤ _; exact Nat.le_of_eq rfl) (B d44_40) (fun _ _ => ⟨rfl, rfl, (by decide : 6 + 2 ≤ _), (by decide : 68 + 38 ≤ _)⟩)
    dsimp only [Pt.U, Pt.locs, Pt.cells, Pt.slots] at X278 l278 y278 z278 st278 hQ278
    subst l278 y278 z278
    have f279 := (Exa.keep f277 K276q)
    have f280 := (Exa.keep (Exa.keep f265 K267q) K276q)
    have f282 := (Exa.keep (Exa.keep f264 K267q) K276q)
    have f284 := (Exa.keep (Exa.keep (Exa.ext E254 f259) K267q) K276q)
    have f285 := (Exa.keep (Exa.keep (Exa.ext E254 f260) K267q) K276q)
    have f288 := (Arv.keep (Arv.keep (f262.ext E254) K267q (ninS (Nat.ne_of_lt lt_tx1_b236) (ninS (Nat.ne_of_lt lt_tx1_a_244) nin0))) K276q (ninS (Nat.ne_of_lt lt_tx1_b236) (ninS (Nat.ne_of_lt lt_tx1_a_244) nin0)))
    have f289 := (Arv.keep (Arv.keep (f263.ext E254) K267q (ninS (Nat.ne_of_lt lt_tx2_b236) (ninS (Nat.ne_of_lt lt_tx2_a_244) nin0))) K276q (ninS (Nat.ne_of_lt lt_tx2_b236) (ninS (Nat.ne_of_lt lt_tx2_a_244) nin0)))
    obtain ⟨b278, t_278, kk_278, rfl, N278q, K278q, Y278_0, Y278_1, Y278_2, Y278_3, Y278_4, Y278_5⟩ := hQ278
    have N278 := Fr.app N276 N278q
    obtain ⟨lc278, X278, N278⟩ := own_gen X278 N278
    have cz278 : CHr Z own_EL T254.vm T276.heap T254.vm T278.heap := CHr.keep K278q all0 C276.1
    have C278 : CHr Z own_EL s.vm h0 T254.vm T278.heap := C276.trans cz278
    have S278_a_2 : Safe Z own_EL T254.vm T278.heap a_2 := cz278.safe f279.lt S276_a_2
    have O278 := O276.keep K278q all0
    have K278 : Keep h0 T278.heap [] := K276.trans K278q all0
    have lt_a_2_t_278 : a_2 < t_278 := Nat.lt_of_lt_of_le f279.lt Y278_1
    have hk278 : _ ≤ T278.heap.size := Nat.le_trans hk276 K278q.1
    refine step (fun t k => st278.trans k) ?_
    refine step (fun _ => XS.goto X278.here hx rfl (pc0 := 43) (pc' := 48) rfl (B d44_43) (by decide) (by decide)) ?_
    have f290 := (Exa.keep f282 K278q)
    have f291 := (Fld.keep (Fld.keep (Fld.keep (Fld.ext E254 (Fld.keep (Fld.ext E236 (Fld.keep f11 K12q (ninS (Nat.ne_of_lt lt_o0_b1) (ninS (Nat.ne_of_lt lt_o0_a_2) nin0)))) K244q (ninS (Nat.ne_of_lt lt_o0_b236) nin0))) K267q (ninS (Nat.ne_of_lt lt_o0_b236) (ninS (Nat.ne_of_lt lt_o0_a_244) nin0))) K276q (ninS (Nat.ne_of_lt lt_o0_b236) (ninS (Nat.ne_of_lt lt_o0_a_244) nin0))) K278q nin0)
    have f292 := (Fld.keep (Fld.keep (Fld.keep (Fld.ext E254 (Fld.keep (Fld.ext E236 (Fld.keep (Fld.keep (Fld.ext E1 Fq1) K2q (ninS (Nat.ne_of_lt lt_o0_b1) nin0)) K12q (ninS (Nat.ne_of_lt lt_o0_b1) (ninS (Nat.ne_of_lt lt_o0_a_2) nin0)))) K244q (ninS (Nat.ne_of_lt lt_o0_b236) nin0))) K267q (ninS (Nat.ne_of_lt lt_o0_b236) (ninS (Nat.ne_of_lt lt_o0_a_244) nin0))) K276q (ninS (Nat.ne_of_lt lt_o0_b236) (ninS (Nat.ne_of_lt lt_o0_a_244) nin0))) K278q nin0)
    have f293 := (Fld.keep (Fld.keep f275 K276q (ninS (Nat.ne_of_lt lt_o0_b236) (ninS (Nat.ne_of_lt lt_o0_a_244) nin0))) K278q nin0)
    have f294 := (Fld.keep (Fld.keep (Fld.keep (Fld.ext E254 (Fld.keep (Fld.ext E236 (Fld.keep (Fld.keep (Fld.ext E1 Fq3) K2q (ninS (Nat.ne_of_lt lt_o0_b1) nin0)) K12q (ninS (Nat.ne_of_lt lt_o0_b1) (ninS (Nat.ne_of_lt lt_o0_a_2) nin0)))) K244q (ninS (Nat.ne_of_lt lt_o0_b236) nin0))) K267q (ninS (Nat.ne_of_lt lt_o0_b236) (ninS (Nat.ne_of_lt lt_o0_a_244) nin0))) K276q (ninS (Nat.ne_of_lt lt_o0_b236) (ninS (Nat.ne_of_lt lt_o0_a_244) nin0))) K278q nin0)
    have f295 := (Fld.keep (Fld.keep (Fld.keep (Fld.ext E254 (Fld.keep (Fld.ext E236 (Fld.keep (Fld.keep (Fld.ext E1 Fq4) K2q (ninS (Nat.ne_of_lt lt_o0_b1) nin0)) K12q (ninS (Nat.ne_of_lt lt_o0_b1) (ninS (Nat.ne_of_lt lt_o0_a_2) nin0)))) K244q (ninS (Nat.ne_of_lt lt_o0_b236) nin0))) K267q (ninS (Nat.ne_of_lt lt_o0_b236) (ninS (Nat.ne_of_lt lt_o0_a_244) nin0))) K276q (ninS (Nat.ne_of_lt lt_o0_b236) (ninS (Nat.ne_of_lt lt_o0_a_244) nin0))) K278q nin0)
    have f296 := (Exa.keep f284 K278q)
    have f297 := (Fld.keep (Fld.keep (Fld.keep (Fld.ext E254 (Fld.keep (Fld.ext E236 (Fld.keep (Fld.keep (Fld.ext E1 Fv1) K2q (ninS (Nat.ne_of_lt lt_sx1_b1) nin0)) K12q (ninS (Nat.ne_of_lt lt_sx1_b1) (ninS (Nat.ne_of_lt lt_sx1_a_2) nin0)))) K244q (ninS (Nat.ne_of_lt lt_sx1_b236) nin0))) K267q (ninS (Nat.ne_of_lt lt_sx1_b236) (ninS (Nat.ne_of_lt lt_sx1_a_244) nin0))) K276q (ninS (Nat.ne_of_lt lt_sx1_b236) (ninS (Nat.ne_of_lt lt_sx1_a_244) nin0))) K278q nin0)
    have f298 := (Fld.keep (Fld.keep (Fld.keep (Fld.ext E254 (Fld.keep (Fld.ext E236 (Fld.keep (Fld.keep (Fld.ext E1 Fc1) K2q (ninS (Nat.ne_of_lt lt_sx1_b1) nin0)) K12q (ninS (Nat.ne_of_lt lt_sx1_b1) (ninS (Nat.ne_of_lt lt_sx1_a_2) nin0)))) K244q (ninS (Nat.ne_of_lt lt_sx1_b236) nin0))) K267q (ninS (Nat.ne_of_lt lt_sx1_b236) (ninS (Nat.ne_of_lt lt_sx1_a_244) nin0))) K276q (ninS (Nat.ne_of_lt lt_sx1_b236) (ninS (Nat.ne_of_lt lt_sx1_a_244) nin0))) K278q nin0)
    have f299 := (Arv.keep f288 K278q nin0)
    have f300 := (Exa.keep f285 K278q)
    have f301 := (Fld.keep (Fld.keep (Fld.keep (Fld.ext E254 (Fld.keep (Fld.ext E236 (Fld.keep (Fld.keep (Fld.ext E1 Fv2) K2q (ninS (Nat.ne_of_lt lt_sx2_b1) nin0)) K12q (ninS (Nat.ne_of_lt lt_sx2_b1) (ninS (Nat.ne_of_lt lt_sx2_a_2) nin0)))) K244q (ninS (Nat.ne_of_lt lt_sx2_b236) nin0))) K267q (ninS (Nat.ne_of_lt lt_sx2_b236) (ninS (Nat.ne_of_lt lt_sx2_a_244) nin0))) K276q (ninS (Nat.ne_of_lt lt_sx2_b236) (ninS (Nat.ne_of_lt lt_sx2_a_244) nin0))) K278q nin0)
    have f302 := (Fld.keep (Fld.keep (Fld.keep (Fld.ext E254 (Fld.keep (Fld.ext E236 (Fld.keep (Fld.keep (Fld.ext E1 Fc2) K2q (ninS (Nat.ne_of_lt lt_sx2_b1) nin0)) K12q (ninS (Nat.ne_of_lt lt_sx2_b1) (ninS (Nat.ne_of_lt lt_sx2_a_2) nin0)))) K244q (ninS (Nat.ne_of_lt lt_sx2_b236) nin0))) K267q (ninS (Nat.ne_of_lt lt_sx2_b236) (ninS (Nat.ne_of_lt lt_sx2_a_244) nin0))) K276q (ninS (Nat.ne_of_lt lt_sx2_b236) (ninS (Nat.ne_of_lt lt_sx2_a_244) nin0))) K278q nin0)
    have f303 := (Arv.keep f289 K278q nin0)
    have f304 := (Exa.keep f280 K278q)
    have f305 := (Fld.keep (Fld.keep (Fld.keep (Fld.ext E254 (Fld.keep (Fld.ext E236 Y12_1) K244q (ninS (Nat.ne_of_lt lt_b1_b236) nin0))) K267q (ninS (Nat.ne_of_lt lt_b1_b236) (ninS (Nat.ne_of_lt lt_b1_a_244) nin0))) K276q (ninS (Nat.ne_of_lt lt_b1_b236) (ninS (Nat.ne_of_lt lt_b1_a_244) nin0))) K278q nin0)
    have f306 := (Fld.keep (Fld.keep (Fld.keep (Fld.ext E254 (Fld.keep (Fld.ext E236 Y12_2) K244q (ninS (Nat.ne_of_lt lt_b1_b236) nin0))) K267q (ninS (Nat.ne_of_lt lt_b1_b236) (ninS (Nat.ne_of_lt lt_b1_a_244) nin0))) K276q (ninS (Nat.ne_of_lt lt_b1_b236) (ninS (Nat.ne_of_lt lt_b1_a_244) nin0))) K278q nin0)
    have f307 := (Fld.keep (Fld.keep (Fld.keep (Fld.ext E254 (Fld.keep (Fld.ext E236 Fz12) K244q (ninS (Nat.ne_of_lt lt_b1_b236) nin0))) K267q (ninS (Nat.ne_of_lt lt_b1_b236) (ninS (Nat.ne_of_lt lt_b1_a_244) nin0))) K276q (ninS (Nat.ne_of_lt lt_b1_b236) (ninS (Nat.ne_of_lt lt_b1_a_244) nin0))) K278q nin0)
    have f308 := (Arv.keep (Arv.keep (Arv.keep ((Arv.keep (Vz12.ext E236) K244q (ninS (Nat.ne_of_lt lt_a_2_b236) nin0)).ext E254) K267q (ninS (Nat.ne_of_lt lt_a_2_b236) (ninS (Nat.ne_of_lt lt_a_2_a_244) nin0))) K276q (ninS (Nat.ne_of_lt lt_a_2_b236) (ninS (Nat.ne_of_lt lt_a_2_a_244) nin0))) K278q nin0)
    have f309 := (Exa.keep f279 K278q)
    exact J48 _ _ _ _ _ _ _ _ _ _ (X278.more (by decide) (by decide)) rfl N278 O278 hS hk278 hZ hown C278 K278 S278_a_2 f290 f291 f292 f293 f294 f295 f296 f297 f298 f299 f300 f301 f302 f303 f304 f305 f306 f307 f308 f309 Y278_2 Y278_3 Y278_4 Y278_5 (own_okS (own_sbI hc235 Y276_6)) (Or.inl ⟨hc235, n_276, ds_276, Y276_6, rfl⟩) (Nat.ne_of_lt lt_tx1_a_2) (Nat.ne_of_lt lt_tx2_a_2) (Nat.ne_of_gt lt_a_2_t_278)
  · skip
    refine step (fun _ => XS.ifYes X233.here hx rfl (pc0 := 18) (pc' := 46) rfl (B d44_18) rfl ((if0 _ _).trans (flt hc235).2.2.2) (by decide) (by decide)) ?_
    have f311 := (Exa.keep (Exa.keep f3 K2q) K12q)
    have f313 := (Exa.keep (Exa.keep f5 K2q) K12q)
    have f314 := (Exa.keep (Exa.keep f6 K2q) K12q)
    have f316 := (Arv.keep (Arv.keep f8 K2q (ninS (Nat.ne_of_lt lt_tx1_b1) nin0)) K12q (ninS (Nat.ne_of_lt lt_tx1_b1) (ninS (Nat.ne_of_lt lt_tx1_a_2) nin0)))
    have f317 := (Arv.keep (Arv.keep f9 K2q (ninS (Nat.ne_of_lt lt_tx2_b1) nin0)) K12q (ninS (Nat.ne_of_lt lt_tx2_b1) (ninS (Nat.ne_of_lt lt_tx2_a_2) nin0)))
    obtain ⟨b310, T310, h310, k310, t310, kk310, X310, e310, E310, hS, hk310, hZ, hown, Ex310, Fc310, Fv310, Va310, -, -, hC310, -, hne310, st310⟩ := ldcCH (s := s) X233 hx hZ hown (ww141 hw) (own_wS hw) e233 hS hk9 (own_EW hw) (List.mem_of_getElem? (i := 1) rfl) C12.1 own_eE (z := (0 : Int32)) (by decide) rfl (g := (mkF m 46 #[vR o0] [(.ref b1)])) rfl (B d44_46) (n := 0) (by decide +kernel) (by decide) (by decide) (by decide)
    have cz310 : CHr Z own_EL s.vm T12.heap T310.vm h310 := hC310
    have C310 : CHr Z own_EL s.vm h0 T310.vm h310 := C12.trans cz310
    have S310_a_2 : Safe Z own_EL T310.vm h310 a_2 := cz310.safe Y12_4.lt S12_a_2
    have O310 := O12.ext E310
    have K310 : Keep h0 h310 [] := K12.ext E310
    refine step st310 ?_
    have f318 := (Exa.ext E310 f311)
    have f319 := (Exa.ext E310 Y12_0)
    obtain ⟨ne310_a_2, nf310_a_2⟩ := hne310 _ S310_a_2
    have f320 := (Fld.ext E310 (Fld.keep f11 K12q (ninS (Nat.ne_of_lt lt_o0_b1) (ninS (Nat.ne_of_lt lt_o0_a_2) nin0))))
    have f321 := (Fld.ext E310 (Fld.keep (Fld.keep (Fld.ext E1 Fq1) K2q (ninS (Nat.ne_of_lt lt_o0_b1) nin0)) K12q (ninS (Nat.ne_of_lt lt_o0_b1) (ninS (Nat.ne_of_lt lt_o0_a_2) nin0))))
    have f322 := (Fld.ext E310 f234)
    have f323 := (Fld.ext E310 (Fld.keep (Fld.keep (Fld.ext E1 Fq3) K2q (ninS (Nat.ne_of_lt lt_o0_b1) nin0)) K12q (ninS (Nat.ne_of_lt lt_o0_b1) (ninS (Nat.ne_of_lt lt_o0_a_2) nin0))))
    have f324 := (Fld.ext E310 (Fld.keep (Fld.keep (Fld.ext E1 Fq4) K2q (ninS (Nat.ne_of_lt lt_o0_b1) nin0)) K12q (ninS (Nat.ne_of_lt lt_o0_b1) (ninS (Nat.ne_of_lt lt_o0_a_2) nin0))))
    have f325 := (Exa.ext E310 f313)
    have f326 := (Fld.ext E310 (Fld.keep (Fld.keep (Fld.ext E1 Fv1) K2q (ninS (Nat.ne_of_lt lt_sx1_b1) nin0)) K12q (ninS (Nat.ne_of_lt lt_sx1_b1) (ninS (Nat.ne_of_lt lt_sx1_a_2) nin0))))
    have f327 := (Fld.ext E310 (Fld.keep (Fld.keep (Fld.ext E1 Fc1) K2q (ninS (Nat.ne_of_lt lt_sx1_b1) nin0)) K12q (ninS (Nat.ne_of_lt lt_sx1_b1) (ninS (Nat.ne_of_lt lt_sx1_a_2) nin0))))
    have f328 := (f316.ext E310)
    have f329 := (Exa.ext E310 f314)
    have f330 := (Fld.ext E310 (Fld.keep (Fld.keep (Fld.ext E1 Fv2) K2q (ninS (Nat.ne_of_lt lt_sx2_b1) nin0)) K12q (ninS (Nat.ne_of_lt lt_sx2_b1) (ninS (Nat.ne_of_lt lt_sx2_a_2) nin0))))
    have f331 := (Fld.ext E310 (Fld.keep (Fld.keep (Fld.ext E1 Fc2) K2q (ninS (Nat.ne_of_lt lt_sx2_b1) nin0)) K12q (ninS (Nat.ne_of_lt lt_sx2_b1) (ninS (Nat.ne_of_lt lt_sx2_a_2) nin0))))
    have f332 := (f317.ext E310)
    have f333 := (Fld.ext E310 Y12_1)
    have f334 := (Fld.ext E310 Y12_2)
    have f335 := (Fld.ext E310 Fz12)
    have f336 := (Vz12.ext E310)
    have f337 := (Exa.ext E310 Y12_4)
    exact J48 _ _ _ _ _ _ _ _ _ _ (X310.more (by decide) (by decide)) e310 N12 O310 hS hk310 hZ hown C310 K310 S310_a_2 f318 f320 f321 f322 f323 f324 f325 f326 f327 f328 f329 f330 f331 f332 f319 f333 f334 f335 f336 f337 Ex310 Fv310 Fc310 Va310 own_okE (Or.inr ⟨hc235, rfl⟩) (Nat.ne_of_lt lt_tx1_a_2) (Nat.ne_of_lt lt_tx2_a_2) (Ne.symm nf310_a_2)
theorem d45_0 : decode qc45 0 = .ok (.iload_n 0, 1) := by decide +kernel
theorem d45_1 : decode qc45 1 = .ok (.bipush 10, 2) := by decide +kernel
theorem d45_3 : decode qc45 3 = .ok (.if_icmp .ge 5, 3) := by decide +kernel
theorem d45_6 : decode qc45 6 = .ok (.iconst 1, 1) := by decide +kernel
theorem d45_7 : decode qc45 7 = .ok (.ireturn, 1) := by decide +kernel
theorem d45_8 : decode qc45 8 = .ok (.iload_n 0, 1) := by decide +kernel
theorem d45_9 : decode qc45 9 = .ok (.bipush 100, 2) := by decide +kernel
theorem d45_11 : decode qc45 11 = .ok (.if_icmp .ge 5, 3) := by decide +kernel
theorem d45_14 : decode qc45 14 = .ok (.iconst 2, 1) := by decide +kernel
theorem d45_15 : decode qc45 15 = .ok (.ireturn, 1) := by decide +kernel
theorem d45_16 : decode qc45 16 = .ok (.iload_n 0, 1) := by decide +kernel
theorem d45_17 : decode qc45 17 = .ok (.sipush 1000, 3) := by decide +kernel
theorem d45_20 : decode qc45 20 = .ok (.if_icmp .ge 5, 3) := by decide +kernel
theorem d45_23 : decode qc45 23 = .ok (.iconst 3, 1) := by decide +kernel
theorem d45_24 : decode qc45 24 = .ok (.ireturn, 1) := by decide +kernel
theorem d45_25 : decode qc45 25 = .ok (.iload_n 0, 1) := by decide +kernel
theorem d45_26 : decode qc45 26 = .ok (.sipush 10000, 3) := by decide +kernel
theorem d45_29 : decode qc45 29 = .ok (.if_icmp .ge 5, 3) := by decide +kernel
theorem d45_32 : decode qc45 32 = .ok (.iconst 4, 1) := by decide +kernel
theorem d45_33 : decode qc45 33 = .ok (.ireturn, 1) := by decide +kernel
theorem d45_34 : decode qc45 34 = .ok (.iload_n 0, 1) := by decide +kernel
theorem d45_35 : decode qc45 35 = .ok (.ldc 66, 2) := by decide +kernel
theorem ww275 (hw : HW Z a0) : Cond.before (Cond.constant cn_3 66 (100000 : Int32)) a0 Z = true := own_w hw 275 rfl
theorem d45_37 : decode qc45 37 = .ok (.if_icmp .ge 5, 3) := by decide +kernel
theorem d45_40 : decode qc45 40 = .ok (.iconst 5, 1) := by decide +kernel
theorem d45_41 : decode qc45 41 = .ok (.ireturn, 1) := by decide +kernel
theorem d45_42 : decode qc45 42 = .ok (.iload_n 0, 1) := by decide +kernel
theorem d45_43 : decode qc45 43 = .ok (.ldc 67, 2) := by decide +kernel
theorem ww276 (hw : HW Z a0) : Cond.before (Cond.constant cn_3 67 (1000000 : Int32)) a0 Z = true := own_w hw 276 rfl
theorem d45_45 : decode qc45 45 = .ok (.if_icmp .ge 6, 3) := by decide +kernel
theorem d45_48 : decode qc45 48 = .ok (.bipush 6, 2) := by decide +kernel
theorem d45_50 : decode qc45 50 = .ok (.ireturn, 1) := by decide +kernel
theorem d45_51 : decode qc45 51 = .ok (.iload_n 0, 1) := by decide +kernel
theorem d45_52 : decode qc45 52 = .ok (.ldc 68, 2) := by decide +kernel
theorem ww277 (hw : HW Z a0) : Cond.before (Cond.constant cn_3 68 (10000000 : Int32)) a0 Z = true := own_w hw 277 rfl
theorem d45_54 : decode qc45 54 = .ok (.if_icmp .ge 6, 3) := by decide +kernel
theorem d45_57 : decode qc45 57 = .ok (.bipush 7, 2) := by decide +kernel
theorem d45_59 : decode qc45 59 = .ok (.ireturn, 1) := by decide +kernel
theorem d45_60 : decode qc45 60 = .ok (.iload_n 0, 1) := by decide +kernel
theorem d45_61 : decode qc45 61 = .ok (.ldc 69, 2) := by decide +kernel
theorem ww278 (hw : HW Z a0) : Cond.before (Cond.constant cn_3 69 (100000000 : Int32)) a0 Z = true := own_w hw 278 rfl
theorem d45_63 : decode qc45 63 = .ok (.if_icmp .ge 6, 3) := by decide +kernel
theorem d45_66 : decode qc45 66 = .ok (.bipush 8, 2) := by decide +kernel
theorem d45_68 : decode qc45 68 = .ok (.ireturn, 1) := by decide +kernel
theorem d45_69 : decode qc45 69 = .ok (.iload_n 0, 1) := by decide +kernel
theorem d45_70 : decode qc45 70 = .ok (.ldc 70, 2) := by decide +kernel
theorem ww279 (hw : HW Z a0) : Cond.before (Cond.constant cn_3 70 (1000000000 : Int32)) a0 Z = true := own_w hw 279 rfl
theorem d45_72 : decode qc45 72 = .ok (.if_icmp .ge 6, 3) := by decide +kernel
theorem d45_75 : decode qc45 75 = .ok (.bipush 9, 2) := by decide +kernel
theorem d45_77 : decode qc45 77 = .ok (.ireturn, 1) := by decide +kernel
theorem d45_78 : decode qc45 78 = .ok (.bipush 10, 2) := by decide +kernel
theorem d45_80 : decode qc45 80 = .ok (.ireturn, 1) := by decide +kernel
abbrev rr_dg : Room := { frames := 0, cells := 0, slots := 0, locals := 0 }
abbrev y_45 : MethodName := ⟨cn_3, "digits", "(I)I"⟩
theorem pn_10 : plainName cn_3 = true := by first | (simp [plainName, overriddenIn]; done) | decide +kernel
theorem ef_dg (m : MethodId) (p0 : Int32) : entryFrame m #[(.int p0)] 1 = mkF m 0 #[vI p0] [] := by first | (simp [entryFrame, mkF, argsToLocals, Value.category]; done) | rfl
def f_dg  (p0 : Int32) : Int32 := (if p0 < (10 : Int32) then (1 : Int32) else (if p0 < (100 : Int32) then (2 : Int32) else (if p0 < (1000 : Int32) then (3 : Int32) else (if p0 < (10000 : Int32) then (4 : Int32) else (if p0 < (100000 : Int32) then (5 : Int32) else (if p0 < (1000000 : Int32) then (6 : Int32) else (if p0 < (10000000 : Int32) then (7 : Int32) else (if p0 < (100000000 : Int32) then (8 : Int32) else (if p0 < (1000000000 : Int32) then (9 : Int32) else (10 : Int32))))))))))
def Q_dg (Z : State)  (p0 : Int32) (h0 : Heap) (n0 : Nat) (v : Option Value) (h : Heap) (L : List Loc) : Prop := v = some (.int (f_dg p0)) ∧ Fr n0 L ∧ h = h0
theorem rm_dg (l : Launch) (Z : State) (a0 : Array Value) (hw : HW Z a0) (ws : List Jvm.Cond)  (p0 : Int32) (h0 : Heap) (n0 : Nat) (Z0 : n0 ≤ h0.size) (O0 : Old Z n0 h0) :
    own_Met l y_45 method_7_code 1 (some .int) ws rr_dg Z #[(.int p0)] h0 (Q_dg Z p0 h0 n0) := by
  refine MetFree.of_bodySF (plainFor_of_name pn_10) hisR ?_
  intro p e s m args below meth c s₁ Bd hml0 hP hK
  obtain ⟨rfl, hZ, hh⟩ := hP
  have hx := Bd.exec
  have hby := Bd.bytes
  have B := @hb _ _ hby
  have hml : c.maxLocals = 1 := hml0
  have hown : s.vm.findClass cn_3 = some m.cls := findClass_of_methodNamed Bd.named
  have X0 : Stand p l e rr_dg s m #[(.int p0)] below meth c s₁ [] 0 0 := Stand.of_body Bd
  have e0 : s₁.heap = h0 := by rw [← hh, Bd.state]; rfl
  have N0 := Fr.nil n0
  obtain ⟨G, step, ret, fin⟩ := own_openX X0 (rr_dg.cells) (rr_dg.slots) (Q_dg Z p0 h0 n0) Bd.notSynchronized
  refine fin (g := entryFrame m #[(.int p0)] 1) ?_
  rw [ef_dg m p0]
  refine step (fun _ => XS.iloadN X0.here hx rfl (B d45_0) rfl) ?_
  refine step (fun _ => XS.bipush X0.here hx rfl (B d45_1)) ?_
  show G s₁ (mkF m 3 #[vI p0] [(.int 10), (.int p0)])
  by_cases hc1 : p0 < (10 : Int32)
  · skip
    refine step (fun _ => XS.icmpNo X0.here hx rfl (B d45_3) rfl (tlt hc1).2.1) ?_
    refine step (fun _ => XS.iconst X0.here hx rfl (B d45_6)) ?_
    exact ret (v := some (.int 1)) X0 (fun h => by rw [Bd.returns] at h; cases h) (fun fs hr => retI X0 hx Bd.returns (B d45_7) hr) e0 ⟨by unfold f_dg; rw [if_pos hc1], N0, rfl⟩ (by decide) (by decide)
  · skip
    refine step (fun _ => XS.icmpYes X0.here hx rfl (pc0 := 3) (pc' := 8) rfl (B d45_3) rfl (flt hc1).2.1 (by decide) (by decide)) ?_
    refine step (fun _ => XS.iloadN X0.here hx rfl (B d45_8) rfl) ?_
    refine step (fun _ => XS.bipush X0.here hx rfl (B d45_9)) ?_
    show G s₁ (mkF m 11 #[vI p0] [(.int 100), (.int p0)])
    by_cases hc2 : p0 < (100 : Int32)
    · skip
      refine step (fun _ => XS.icmpNo X0.here hx rfl (B d45_11) rfl (tlt hc2).2.1) ?_
      refine step (fun _ => XS.iconst X0.here hx rfl (B d45_14)) ?_
      exact ret (v := some (.int 2)) X0 (fun h => by rw [Bd.returns] at h; cases h) (fun fs hr => retI X0 hx Bd.returns (B d45_15) hr) e0 ⟨by unfold f_dg; rw [if_neg hc1, if_pos hc2], N0, rfl⟩ (by decide) (by decide)
    · skip
      refine step (fun _ => XS.icmpYes X0.here hx rfl (pc0 := 11) (pc' := 16) rfl (B d45_11) rfl (flt hc2).2.1 (by decide) (by decide)) ?_
      refine step (fun _ => XS.iloadN X0.here hx rfl (B d45_16) rfl) ?_
      refine step (fun _ => XS.sipush X0.here hx rfl (B d45_17)) ?_
      show G s₁ (mkF m 20 #[vI p0] [(.int 1000), (.int p0)])
      by_cases hc3 : p0 < (1000 : Int32)
      · skip
        refine step (fun _ => XS.icmpNo X0.here hx rfl (B d45_20) rfl (tlt hc3).2.1) ?_
        refine step (fun _ => XS.iconst X0.here hx rfl (B d45_23)) ?_
        exact ret (v := some (.int 3)) X0 (fun h => by rw [Bd.returns] at h; cases h) (fun fs hr => retI X0 hx Bd.returns (B d45_24) hr) e0 ⟨by unfold f_dg; rw [if_neg hc1, if_neg hc2, if_pos hc3], N0, rfl⟩ (by decide) (by decide)
      · skip
        refine step (fun _ => XS.icmpYes X0.here hx rfl (pc0 := 20) (pc' := 25) rfl (B d45_20) rfl (flt hc3).2.1 (by decide) (by decide)) ?_
        refine step (fun _ => XS.iloadN X0.here hx rfl (B d45_25) rfl) ?_
        refine step (fun _ => XS.sipush X0.here hx rfl (B d45_26)) ?_
        show G s₁ (mkF m 29 #[vI p0] [(.int 10000), (.int p0)])
        by_cases hc4 : p0 < (10000 : Int32)
        · skip
          refine step (fun _ => XS.icmpNo X0.here hx rfl (B d45_29) rfl (tlt hc4).2.1) ?_
          refine step (fun _ => XS.iconst X0.here hx rfl (B d45_32)) ?_
          exact ret (v := some (.int 4)) X0 (fun h => by rw [Bd.returns] at h; cases h) (fun fs hr => retI X0 hx Bd.returns (B d45_33) hr) e0 ⟨by unfold f_dg; rw [if_neg hc1, if_neg hc2, if_neg hc3, if_pos hc4], N0, rfl⟩ (by decide) (by decide)
        · skip
          refine step (fun _ => XS.icmpYes X0.here hx rfl (pc0 := 29) (pc' := 34) rfl (B d45_29) rfl (flt hc4).2.1 (by decide) (by decide)) ?_
          refine step (fun _ => XS.iloadN X0.here hx rfl (B d45_34) rfl) ?_
          have q5 := X0.ldcInt hx hown (mvT hZ (ww275 hw)) (g := (mkF m 35 #[vI p0] [(.int p0)])) rfl (B d45_35)
          refine step q5 ?_
          by_cases hc6 : p0 < (100000 : Int32)
          · skip
            refine step (fun _ => XS.icmpNo X0.here hx rfl (B d45_37) rfl (tlt hc6).2.1) ?_
            refine step (fun _ => XS.iconst X0.here hx rfl (B d45_40)) ?_
            exact ret (v := some (.int 5)) X0 (fun h => by rw [Bd.returns] at h; cases h) (fun fs hr => retI X0 hx Bd.returns (B d45_41) hr) e0 ⟨by unfold f_dg; rw [if_neg hc1, if_neg hc2, if_neg hc3, if_neg hc4, if_pos hc6], N0, rfl⟩ (by decide) (by decide)
          · skip
            refine step (fun _ => XS.icmpYes X0.here hx rfl (pc0 := 37) (pc' := 42) rfl (B d45_37) rfl (flt hc6).2.1 (by decide) (by decide)) ?_
            refine step (fun _ => XS.iloadN X0.here hx rfl (B d45_42) rfl) ?_
            have q7 := X0.ldcInt hx hown (mvT hZ (ww276 hw)) (g := (mkF m 43 #[vI p0] [(.int p0)])) rfl (B d45_43)
            refine step q7 ?_
            by_cases hc8 : p0 < (1000000 : Int32)
            · skip
              refine step (fun _ => XS.icmpNo X0.here hx rfl (B d45_45) rfl (tlt hc8).2.1) ?_
              refine step (fun _ => XS.bipush X0.here hx rfl (B d45_48)) ?_
              show G s₁ (mkF m 50 #[vI p0] [(.int 6)])
              exact ret (v := some (.int 6)) X0 (fun h => by rw [Bd.returns] at h; cases h) (fun fs hr => retI X0 hx Bd.returns (B d45_50) hr) e0 ⟨by unfold f_dg; rw [if_neg hc1, if_neg hc2, if_neg hc3, if_neg hc4, if_neg hc6, if_pos hc8], N0, rfl⟩ (by decide) (by decide)
            · skip
              refine step (fun _ => XS.icmpYes X0.here hx rfl (pc0 := 45) (pc' := 51) rfl (B d45_45) rfl (flt hc8).2.1 (by decide) (by decide)) ?_
              refine step (fun _ => XS.iloadN X0.here hx rfl (B d45_51) rfl) ?_
              have q9 := X0.ldcInt hx hown (mvT hZ (ww277 hw)) (g := (mkF m 52 #[vI p0] [(.int p0)])) rfl (B d45_52)
              refine step q9 ?_
              by_cases hc10 : p0 < (10000000 : Int32)
              · skip
                refine step (fun _ => XS.icmpNo X0.here hx rfl (B d45_54) rfl (tlt hc10).2.1) ?_
                refine step (fun _ => XS.bipush X0.here hx rfl (B d45_57)) ?_
                show G s₁ (mkF m 59 #[vI p0] [(.int 7)])
                exact ret (v := some (.int 7)) X0 (fun h => by rw [Bd.returns] at h; cases h) (fun fs hr => retI X0 hx Bd.returns (B d45_59) hr) e0 ⟨by unfold f_dg; rw [if_neg hc1, if_neg hc2, if_neg hc3, if_neg hc4, if_neg hc6, if_neg hc8, if_pos hc10], N0, rfl⟩ (by decide) (by decide)
              · skip
                refine step (fun _ => XS.icmpYes X0.here hx rfl (pc0 := 54) (pc' := 60) rfl (B d45_54) rfl (flt hc10).2.1 (by decide) (by decide)) ?_
                refine step (fun _ => XS.iloadN X0.here hx rfl (B d45_60) rfl) ?_
                have q11 := X0.ldcInt hx hown (mvT hZ (ww278 hw)) (g := (mkF m 61 #[vI p0] [(.int p0)])) rfl (B d45_61)
                refine step q11 ?_
                by_cases hc12 : p0 < (100000000 : Int32)
                · skip
                  refine step (fun _ => XS.icmpNo X0.here hx rfl (B d45_63) rfl (tlt hc12).2.1) ?_
                  refine step (fun _ => XS.bipush X0.here hx rfl (B d45_66)) ?_
                  show G s₁ (mkF m 68 #[vI p0] [(.int 8)])
                  exact ret (v := some (.int 8)) X0 (fun h => by rw [Bd.returns] at h; cases h) (fun fs hr => retI X0 hx Bd.returns (B d45_68) hr) e0 ⟨by unfold f_dg; rw [if_neg hc1, if_neg hc2, if_neg hc3, if_neg hc4, if_neg hc6, if_neg hc8, if_neg hc10, if_pos hc12], N0, rfl⟩ (by decide) (by decide)
                · skip
                  refine step (fun _ => XS.icmpYes X0.here hx rfl (pc0 := 63) (pc' := 69) rfl (B d45_63) rfl (flt hc12).2.1 (by decide) (by decide)) ?_
                  refine step (fun _ => XS.iloadN X0.here hx rfl (B d45_69) rfl) ?_
                  have q13 := X0.ldcInt hx hown (mvT hZ (ww279 hw)) (g := (mkF m 70 #[vI p0] [(.int p0)])) rfl (B d45_70)
                  refine step q13 ?_
                  by_cases hc14 : p0 < (1000000000 : Int32)
                  · skip
                    refine step (fun _ => XS.icmpNo X0.here hx rfl (B d45_72) rfl (tlt hc14).2.1) ?_
                    refine step (fun _ => XS.bipush X0.here hx rfl (B d45_75)) ?_
                    show G s₁ (mkF m 77 #[vI p0] [(.int 9)])
                    exact ret (v := some (.int 9)) X0 (fun h => by rw [Bd.returns] at h; cases h) (fun fs hr => retI X0 hx Bd.returns (B d45_77) hr) e0 ⟨by unfold f_dg; rw [if_neg hc1, if_neg hc2, if_neg hc3, if_neg hc4, if_neg hc6, if_neg hc8, if_neg hc10, if_neg hc12, if_pos hc14], N0, rfl⟩ (by decide) (by decide)
                  · skip
                    refine step (fun _ => XS.icmpYes X0.here hx rfl (pc0 := 72) (pc' := 78) rfl (B d45_72) rfl (flt hc14).2.1 (by decide) (by decide)) ?_
                    refine step (fun _ => XS.bipush X0.here hx rfl (B d45_78)) ?_
                    show G s₁ (mkF m 80 #[vI p0] [(.int 10)])
                    exact ret (v := some (.int 10)) X0 (fun h => by rw [Bd.returns] at h; cases h) (fun fs hr => retI X0 hx Bd.returns (B d45_80) hr) e0 ⟨by unfold f_dg; rw [if_neg hc1, if_neg hc2, if_neg hc3, if_neg hc4, if_neg hc6, if_neg hc8, if_neg hc10, if_neg hc12, if_neg hc14], N0, rfl⟩ (by decide) (by decide)
theorem d46_0 : decode qc46 0 = .ok (.iload_n 0, 1) := by decide +kernel
theorem d46_1 : decode qc46 1 = .ok (.ifCond .gt 5, 3) := by decide +kernel
theorem d46_6 : decode qc46 6 = .ok (.iload_n 0, 1) := by decide +kernel
theorem d46_7 : decode qc46 7 = .ok (.iconst 1, 1) := by decide +kernel
theorem d46_8 : decode qc46 8 = .ok (.if_icmp .ne 6, 3) := by decide +kernel
theorem d46_11 : decode qc46 11 = .ok (.bipush 10, 2) := by decide +kernel
theorem d46_13 : decode qc46 13 = .ok (.ireturn, 1) := by decide +kernel
theorem d46_14 : decode qc46 14 = .ok (.iload_n 0, 1) := by decide +kernel
theorem d46_15 : decode qc46 15 = .ok (.iconst 2, 1) := by decide +kernel
theorem d46_16 : decode qc46 16 = .ok (.if_icmp .ne 6, 3) := by decide +kernel
theorem d46_19 : decode qc46 19 = .ok (.bipush 100, 2) := by decide +kernel
theorem d46_21 : decode qc46 21 = .ok (.ireturn, 1) := by decide +kernel
theorem d46_22 : decode qc46 22 = .ok (.iload_n 0, 1) := by decide +kernel
theorem d46_23 : decode qc46 23 = .ok (.iconst 3, 1) := by decide +kernel
theorem d46_24 : decode qc46 24 = .ok (.if_icmp .ne 7, 3) := by decide +kernel
theorem d46_27 : decode qc46 27 = .ok (.sipush 1000, 3) := by decide +kernel
theorem d46_30 : decode qc46 30 = .ok (.ireturn, 1) := by decide +kernel
theorem d46_31 : decode qc46 31 = .ok (.iload_n 0, 1) := by decide +kernel
theorem d46_32 : decode qc46 32 = .ok (.iconst 4, 1) := by decide +kernel
theorem d46_33 : decode qc46 33 = .ok (.if_icmp .ne 7, 3) := by decide +kernel
theorem d46_36 : decode qc46 36 = .ok (.sipush 10000, 3) := by decide +kernel
theorem d46_39 : decode qc46 39 = .ok (.ireturn, 1) := by decide +kernel
theorem d46_40 : decode qc46 40 = .ok (.iload_n 0, 1) := by decide +kernel
theorem d46_41 : decode qc46 41 = .ok (.iconst 5, 1) := by decide +kernel
theorem d46_42 : decode qc46 42 = .ok (.if_icmp .ne 6, 3) := by decide +kernel
theorem d46_45 : decode qc46 45 = .ok (.ldc 66, 2) := by decide +kernel
theorem d46_47 : decode qc46 47 = .ok (.ireturn, 1) := by decide +kernel
theorem d46_48 : decode qc46 48 = .ok (.iload_n 0, 1) := by decide +kernel
theorem d46_49 : decode qc46 49 = .ok (.bipush 6, 2) := by decide +kernel
theorem d46_51 : decode qc46 51 = .ok (.if_icmp .ne 6, 3) := by decide +kernel
theorem d46_54 : decode qc46 54 = .ok (.ldc 67, 2) := by decide +kernel
theorem d46_56 : decode qc46 56 = .ok (.ireturn, 1) := by decide +kernel
theorem d46_57 : decode qc46 57 = .ok (.iload_n 0, 1) := by decide +kernel
theorem d46_58 : decode qc46 58 = .ok (.bipush 7, 2) := by decide +kernel
theorem d46_60 : decode qc46 60 = .ok (.if_icmp .ne 6, 3) := by decide +kernel
theorem d46_63 : decode qc46 63 = .ok (.ldc 68, 2) := by decide +kernel
theorem d46_65 : decode qc46 65 = .ok (.ireturn, 1) := by decide +kernel
theorem d46_66 : decode qc46 66 = .ok (.iload_n 0, 1) := by decide +kernel
theorem d46_67 : decode qc46 67 = .ok (.bipush 8, 2) := by decide +kernel
theorem d46_69 : decode qc46 69 = .ok (.if_icmp .ne 6, 3) := by decide +kernel
theorem d46_72 : decode qc46 72 = .ok (.ldc 69, 2) := by decide +kernel
theorem d46_74 : decode qc46 74 = .ok (.ireturn, 1) := by decide +kernel
theorem d46_75 : decode qc46 75 = .ok (.ldc 70, 2) := by decide +kernel
theorem d46_77 : decode qc46 77 = .ok (.ireturn, 1) := by decide +kernel
theorem d46_4 : decode qc46 4 = .ok (.iconst 1, 1) := by decide +kernel
theorem d46_5 : decode qc46 5 = .ok (.ireturn, 1) := by decide +kernel
abbrev rr_pow : Room := { frames := 0, cells := 0, slots := 0, locals := 0 }
abbrev y_46 : MethodName := ⟨cn_3, "pow10", "(I)I"⟩
theorem ef_pow (m : MethodId) (p0 : Int32) : entryFrame m #[(.int p0)] 1 = mkF m 0 #[vI p0] [] := by first | (simp [entryFrame, mkF, argsToLocals, Value.category]; done) | rfl
def f_pow  (p0 : Int32) : Int32 := (if (0 : Int32) < p0 then (if p0 = (1 : Int32) then (10 : Int32) else (if p0 = (2 : Int32) then (100 : Int32) else (if p0 = (3 : Int32) then (1000 : Int32) else (if p0 = (4 : Int32) then (10000 : Int32) else (if p0 = (5 : Int32) then (100000 : Int32) else (if p0 = (6 : Int32) then (1000000 : Int32) else (if p0 = (7 : Int32) then (10000000 : Int32) else (if p0 = (8 : Int32) then (100000000 : Int32) else (1000000000 : Int32))))))))) else (1 : Int32))
def Q_pow (Z : State)  (p0 : Int32) (h0 : Heap) (n0 : Nat) (v : Option Value) (h : Heap) (L : List Loc) : Prop := v = some (.int (f_pow p0)) ∧ Fr n0 L ∧ h = h0
theorem rm_pow (l : Launch) (Z : State) (a0 : Array Value) (hw : HW Z a0) (ws : List Jvm.Cond)  (p0 : Int32) (h0 : Heap) (n0 : Nat) (Z0 : n0 ≤ h0.size) (O0 : Old Z n0 h0) :
    own_Met l y_46 method_6_code 1 (some .int) ws rr_pow Z #[(.int p0)] h0 (Q_pow Z p0 h0 n0) := by
  refine MetFree.of_bodySF (plainFor_of_name pn_10) hisR ?_
  intro p e s m args below meth c s₁ Bd hml0 hP hK
  obtain ⟨rfl, hZ, hh⟩ := hP
  have hx := Bd.exec
  have hby := Bd.bytes
  have B := @hb _ _ hby
  have hml : c.maxLocals = 1 := hml0
  have hown : s.vm.findClass cn_3 = some m.cls := findClass_of_methodNamed Bd.named
  have X0 : Stand p l e rr_pow s m #[(.int p0)] below meth c s₁ [] 0 0 := Stand.of_body Bd
  have e0 : s₁.heap = h0 := by rw [← hh, Bd.state]; rfl
  have N0 := Fr.nil n0
  obtain ⟨G, step, ret, fin⟩ := own_openX X0 (rr_pow.cells) (rr_pow.slots) (Q_pow Z p0 h0 n0) Bd.notSynchronized
  refine fin (g := entryFrame m #[(.int p0)] 1) ?_
  rw [ef_pow m p0]
  refine step (fun _ => XS.iloadN X0.here hx rfl (B d46_0) rfl) ?_
  by_cases hc1 : (0 : Int32) < p0
  · skip
    refine step (fun _ => XS.ifYes X0.here hx rfl (pc0 := 1) (pc' := 6) rfl (B d46_1) rfl ((if0 _ _).trans (tlt hc1).2.2.1) (by decide) (by decide)) ?_
    refine step (fun _ => XS.iloadN X0.here hx rfl (B d46_6) rfl) ?_
    refine step (fun _ => XS.iconst X0.here hx rfl (B d46_7)) ?_
    by_cases hc2 : p0 = (1 : Int32)
    · skip
      refine step (fun _ => XS.icmpNo X0.here hx rfl (B d46_8) rfl (teq hc2).2) ?_
      refine step (fun _ => XS.bipush X0.here hx rfl (B d46_11)) ?_
      show G s₁ (mkF m 13 #[vI p0] [(.int 10)])
      exact ret (v := some (.int 10)) X0 (fun h => by rw [Bd.returns] at h; cases h) (fun fs hr => retI X0 hx Bd.returns (B d46_13) hr) e0 ⟨by unfold f_pow; rw [if_pos hc1, if_pos hc2], N0, rfl⟩ (by decide) (by decide)
    · skip
      refine step (fun _ => XS.icmpYes X0.here hx rfl (pc0 := 8) (pc' := 14) rfl (B d46_8) rfl (feq hc2).2 (by decide) (by decide)) ?_
      refine step (fun _ => XS.iloadN X0.here hx rfl (B d46_14) rfl) ?_
      refine step (fun _ => XS.iconst X0.here hx rfl (B d46_15)) ?_
      by_cases hc3 : p0 = (2 : Int32)
      · skip
        refine step (fun _ => XS.icmpNo X0.here hx rfl (B d46_16) rfl (teq hc3).2) ?_
        refine step (fun _ => XS.bipush X0.here hx rfl (B d46_19)) ?_
        show G s₁ (mkF m 21 #[vI p0] [(.int 100)])
        exact ret (v := some (.int 100)) X0 (fun h => by rw [Bd.returns] at h; cases h) (fun fs hr => retI X0 hx Bd.returns (B d46_21) hr) e0 ⟨by unfold f_pow; rw [if_pos hc1, if_neg hc2, if_pos hc3], N0, rfl⟩ (by decide) (by decide)
      · skip
        refine step (fun _ => XS.icmpYes X0.here hx rfl (pc0 := 16) (pc' := 22) rfl (B d46_16) rfl (feq hc3).2 (by decide) (by decide)) ?_
        refine step (fun _ => XS.iloadN X0.here hx rfl (B d46_22) rfl) ?_
        refine step (fun _ => XS.iconst X0.here hx rfl (B d46_23)) ?_
        by_cases hc4 : p0 = (3 : Int32)
        · skip
          refine step (fun _ => XS.icmpNo X0.here hx rfl (B d46_24) rfl (teq hc4).2) ?_
          refine step (fun _ => XS.sipush X0.here hx rfl (B d46_27)) ?_
          show G s₁ (mkF m 30 #[vI p0] [(.int 1000)])
          exact ret (v := some (.int 1000)) X0 (fun h => by rw [Bd.returns] at h; cases h) (fun fs hr => retI X0 hx Bd.returns (B d46_30) hr) e0 ⟨by unfold f_pow; rw [if_pos hc1, if_neg hc2, if_neg hc3, if_pos hc4], N0, rfl⟩ (by decide) (by decide)
        · skip
          refine step (fun _ => XS.icmpYes X0.here hx rfl (pc0 := 24) (pc' := 31) rfl (B d46_24) rfl (feq hc4).2 (by decide) (by decide)) ?_
          refine step (fun _ => XS.iloadN X0.here hx rfl (B d46_31) rfl) ?_
          refine step (fun _ => XS.iconst X0.here hx rfl (B d46_32)) ?_
          by_cases hc5 : p0 = (4 : Int32)
          · skip
            refine step (fun _ => XS.icmpNo X0.here hx rfl (B d46_33) rfl (teq hc5).2) ?_
            refine step (fun _ => XS.sipush X0.here hx rfl (B d46_36)) ?_
            show G s₁ (mkF m 39 #[vI p0] [(.int 10000)])
            exact ret (v := some (.int 10000)) X0 (fun h => by rw [Bd.returns] at h; cases h) (fun fs hr => retI X0 hx Bd.returns (B d46_39) hr) e0 ⟨by unfold f_pow; rw [if_pos hc1, if_neg hc2, if_neg hc3, if_neg hc4, if_pos hc5], N0, rfl⟩ (by decide) (by decide)
          · skip
            refine step (fun _ => XS.icmpYes X0.here hx rfl (pc0 := 33) (pc' := 40) rfl (B d46_33) rfl (feq hc5).2 (by decide) (by decide)) ?_
            refine step (fun _ => XS.iloadN X0.here hx rfl (B d46_40) rfl) ?_
            refine step (fun _ => XS.iconst X0.here hx rfl (B d46_41)) ?_
            by_cases hc6 : p0 = (5 : Int32)
            · skip
              refine step (fun _ => XS.icmpNo X0.here hx rfl (B d46_42) rfl (teq hc6).2) ?_
              have q7 := X0.ldcInt hx hown (mvT hZ (ww275 hw)) (g := (mkF m 45 #[vI p0] [])) rfl (B d46_45)
              refine step q7 ?_
              exact ret (v := some (.int 100000)) X0 (fun h => by rw [Bd.returns] at h; cases h) (fun fs hr => retI X0 hx Bd.returns (B d46_47) hr) e0 ⟨by unfold f_pow; rw [if_pos hc1, if_neg hc2, if_neg hc3, if_neg hc4, if_neg hc5, if_pos hc6], N0, rfl⟩ (by decide) (by decide)
            · skip
              refine step (fun _ => XS.icmpYes X0.here hx rfl (pc0 := 42) (pc' := 48) rfl (B d46_42) rfl (feq hc6).2 (by decide) (by decide)) ?_
              refine step (fun _ => XS.iloadN X0.here hx rfl (B d46_48) rfl) ?_
              refine step (fun _ => XS.bipush X0.here hx rfl (B d46_49)) ?_
              show G s₁ (mkF m 51 #[vI p0] [(.int 6), (.int p0)])
              by_cases hc8 : p0 = (6 : Int32)
              · skip
                refine step (fun _ => XS.icmpNo X0.here hx rfl (B d46_51) rfl (teq hc8).2) ?_
                have q9 := X0.ldcInt hx hown (mvT hZ (ww276 hw)) (g := (mkF m 54 #[vI p0] [])) rfl (B d46_54)
                refine step q9 ?_
                exact ret (v := some (.int 1000000)) X0 (fun h => by rw [Bd.returns] at h; cases h) (fun fs hr => retI X0 hx Bd.returns (B d46_56) hr) e0 ⟨by unfold f_pow; rw [if_pos hc1, if_neg hc2, if_neg hc3, if_neg hc4, if_neg hc5, if_neg hc6, if_pos hc8], N0, rfl⟩ (by decide) (by decide)
              · skip
                refine step (fun _ => XS.icmpYes X0.here hx rfl (pc0 := 51) (pc' := 57) rfl (B d46_51) rfl (feq hc8).2 (by decide) (by decide)) ?_
                refine step (fun _ => XS.iloadN X0.here hx rfl (B d46_57) rfl) ?_
                refine step (fun _ => XS.bipush X0.here hx rfl (B d46_58)) ?_
                show G s₁ (mkF m 60 #[vI p0] [(.int 7), (.int p0)])
                by_cases hc10 : p0 = (7 : Int32)
                · skip
                  refine step (fun _ => XS.icmpNo X0.here hx rfl (B d46_60) rfl (teq hc10).2) ?_
                  have q11 := X0.ldcInt hx hown (mvT hZ (ww277 hw)) (g := (mkF m 63 #[vI p0] [])) rfl (B d46_63)
                  refine step q11 ?_
                  exact ret (v := some (.int 10000000)) X0 (fun h => by rw [Bd.returns] at h; cases h) (fun fs hr => retI X0 hx Bd.returns (B d46_65) hr) e0 ⟨by unfold f_pow; rw [if_pos hc1, if_neg hc2, if_neg hc3, if_neg hc4, if_neg hc5, if_neg hc6, if_neg hc8, if_pos hc10], N0, rfl⟩ (by decide) (by decide)
                · skip
                  refine step (fun _ => XS.icmpYes X0.here hx rfl (pc0 := 60) (pc' := 66) rfl (B d46_60) rfl (feq hc10).2 (by decide) (by decide)) ?_
                  refine step (fun _ => XS.iloadN X0.here hx rfl (B d46_66) rfl) ?_
                  refine step (fun _ => XS.bipush X0.here hx rfl (B d46_67)) ?_
                  show G s₁ (mkF m 69 #[vI p0] [(.int 8), (.int p0)])
                  by_cases hc12 : p0 = (8 : Int32)
                  · skip
                    refine step (fun _ => XS.icmpNo X0.here hx rfl (B d46_69) rfl (teq hc12).2) ?_
                    have q13 := X0.ldcInt hx hown (mvT hZ (ww278 hw)) (g := (mkF m 72 #[vI p0] [])) rfl (B d46_72)
                    refine step q13 ?_
                    exact ret (v := some (.int 100000000)) X0 (fun h => by rw [Bd.returns] at h; cases h) (fun fs hr => retI X0 hx Bd.returns (B d46_74) hr) e0 ⟨by unfold f_pow; rw [if_pos hc1, if_neg hc2, if_neg hc3, if_neg hc4, if_neg hc5, if_neg hc6, if_neg hc8, if_neg hc10, if_pos hc12], N0, rfl⟩ (by decide) (by decide)
                  · skip
                    refine step (fun _ => XS.icmpYes X0.here hx rfl (pc0 := 69) (pc' := 75) rfl (B d46_69) rfl (feq hc12).2 (by decide) (by decide)) ?_
                    have q14 := X0.ldcInt hx hown (mvT hZ (ww279 hw)) (g := (mkF m 75 #[vI p0] [])) rfl (B d46_75)
                    refine step q14 ?_
                    exact ret (v := some (.int 1000000000)) X0 (fun h => by rw [Bd.returns] at h; cases h) (fun fs hr => retI X0 hx Bd.returns (B d46_77) hr) e0 ⟨by unfold f_pow; rw [if_pos hc1, if_neg hc2, if_neg hc3, if_neg hc4, if_neg hc5, if_neg hc6, if_neg hc8, if_neg hc10, if_neg hc12], N0, rfl⟩ (by decide) (by decide)
  · skip
    refine step (fun _ => XS.ifNo X0.here hx rfl (B d46_1) rfl ((if0 _ _).trans (flt hc1).2.2.1)) ?_
    refine step (fun _ => XS.iconst X0.here hx rfl (B d46_4)) ?_
    exact ret (v := some (.int 1)) X0 (fun h => by rw [Bd.returns] at h; cases h) (fun fs hr => retI X0 hx Bd.returns (B d46_5) hr) e0 ⟨by unfold f_pow; rw [if_neg hc1], N0, rfl⟩ (by decide) (by decide)
theorem own_gl {A B : List Int32} {i : Nat} (h : i < A.length) : (A ++ B).getD i 0 = A.getD i 0 := by simp [List.getD_eq_getElem?_getD, List.getElem?_append_left h]
theorem own_gr {A B : List Int32} {i : Nat} (h : A.length ≤ i) : (A ++ B).getD i 0 = B.getD (i - A.length) 0 := by simp [List.getD_eq_getElem?_getD, List.getElem?_append_right h]
theorem own_sb {x a b : Int32} (h : x = a - b) (h1 : -1000 ≤ a.toInt ∧ a.toInt ≤ 1000) (h2 : -1000 ≤ b.toInt ∧ b.toInt ≤ 1000) : x.toInt = a.toInt - b.toInt := by
  rw [h]
  have c1 := c_isub a b
  have r1 := rng32 (a - b)
  omega
theorem own_tn (x : Int32) : x.toNatClampNeg = x.toInt.toNat := rfl
theorem own_i2 {a b : Int32} : ¬ a < b ↔ b.toInt ≤ a.toInt := by rw [own_xlt]; omega
theorem own_pw (x : Int32) : 1 ≤ (f_pow x).toInt ∧ (f_pow x).toInt ≤ 1000000000 := by
  unfold f_pow
  repeat' split
  all_goals exact ⟨by decide, by decide⟩
theorem own_pnz (x : Int32) : ¬ f_pow x = 0 := by
  have h := own_pw x
  have k0 : (0 : Int32).toInt = 0 := by decide
  rw [own_xeq]
  omega
theorem own_dgl {p x : Int32} (hp : (0 : Int32) < p) : ¬ ((48 : Int32) + ((p / (f_pow x)) % (10 : Int32))) < 0 ∧ ¬ (255 : Int32) < ((48 : Int32) + ((p / (f_pow x)) % (10 : Int32))) := by
  have h := own_pw x
  exact own_lad hp rfl (by omega) (fun q => by rw [q] at h; exact absurd h (by decide))
theorem d47_0 : decode qc47 0 = .ok (.iload_n 1, 1) := by decide +kernel
theorem d47_1 : decode qc47 1 = .ok (.iconst 1, 1) := by decide +kernel
theorem d47_2 : decode qc47 2 = .ok (.isub, 1) := by decide +kernel
theorem d47_3 : decode qc47 3 = .ok (.iload_n 2, 1) := by decide +kernel
theorem d47_4 : decode qc47 4 = .ok (.isub, 1) := by decide +kernel
theorem d47_5 : decode qc47 5 = .ok (.invokestatic 63, 3) := by decide +kernel
theorem ww263 (hw : HW Z a0) : Cond.before (Cond.methodLink cn_3 63 ({ cls := cn_3, name := "pow10", desc := "(I)I" } : MethodName)) a0 Z = true := own_w hw 263 rfl
theorem ww265 (hw : HW Z a0) : Cond.before (Cond.code ({ cls := cn_3, name := "pow10", desc := "(I)I" } : MethodName) method_6_code 1 (Option.some FieldType.int)) a0 Z = true := own_w hw 265 rfl
theorem ww192 (hw : HW Z a0) : Cond.before (Cond.initialized cn_3) a0 Z = true := own_w hw 192 rfl
theorem ww264 (hw : HW Z a0) : Cond.before (Cond.static ({ cls := cn_3, name := "pow10", desc := "(I)I" } : MethodName)) a0 Z = true := own_w hw 264 rfl
theorem d47_8 : decode qc47 8 = .ok (.istore_n 3, 1) := by decide +kernel
theorem d47_9 : decode qc47 9 = .ok (.bipush 48, 2) := by decide +kernel
theorem d47_11 : decode qc47 11 = .ok (.iload_n 0, 1) := by decide +kernel
theorem d47_12 : decode qc47 12 = .ok (.iload_n 3, 1) := by decide +kernel
theorem d47_13 : decode qc47 13 = .ok (.idiv, 1) := by decide +kernel
theorem d47_14 : decode qc47 14 = .ok (.bipush 10, 2) := by decide +kernel
theorem d47_16 : decode qc47 16 = .ok (.irem, 1) := by decide +kernel
theorem d47_17 : decode qc47 17 = .ok (.iadd, 1) := by decide +kernel
theorem d47_18 : decode qc47 18 = .ok (.i2c, 1) := by decide +kernel
theorem d47_19 : decode qc47 19 = .ok (.ireturn, 1) := by decide +kernel
abbrev rr_dt : Room := { frames := 1, cells := 0, slots := 0, locals := 12 }
abbrev y_47 : MethodName := ⟨cn_3, "digit", "(III)C"⟩
theorem ef_dt (m : MethodId) (p0 p1 p2 : Int32) : entryFrame m #[(.int p0), (.int p1), (.int p2)] 4 = mkF m 0 #[vI p0, vI p1, vI p2, u_] [] := by first | (simp [entryFrame, mkF, argsToLocals, Value.category]; done) | rfl
def f_dt  (p0 p1 p2 : Int32) : Int32 := ((48 : Int32) + ((p0 / (f_pow ((p1 - (1 : Int32)) - p2))) % (10 : Int32)))
def Q_dt (Z : State)  (p0 p1 p2 : Int32) (h0 : Heap) (n0 : Nat) (v : Option Value) (h : Heap) (L : List Loc) : Prop := v = some (.int (f_dt p0 p1 p2)) ∧ Fr n0 L ∧ h = h0
theorem rm_dt (l : Launch) (Z : State) (a0 : Array Value) (hw : HW Z a0) (ws : List Jvm.Cond)  (p0 p1 p2 : Int32) (h0 : Heap) (n0 : Nat) (Z0 : n0 ≤ h0.size) (O0 : Old Z n0 h0) (hp : (0 : Int32) < p0) :
    own_Met l y_47 method_5_code 4 (some .char) ws rr_dt Z #[(.int p0), (.int p1), (.int p2)] h0 (Q_dt Z p0 p1 p2 h0 n0) := by
  refine MetFree.of_bodySF (plainFor_of_name pn_10) hisR ?_
  intro p e s m args below meth c s₁ Bd hml0 hP hK
  obtain ⟨rfl, hZ, hh⟩ := hP
  have hx := Bd.exec
  have hby := Bd.bytes
  have B := @hb _ _ hby
  have hml : c.maxLocals = 4 := hml0
  have hown : s.vm.findClass cn_3 = some m.cls := findClass_of_methodNamed Bd.named
  have X0 : Stand p l e rr_dt s m #[(.int p0), (.int p1), (.int p2)] below meth c s₁ [] 0 0 := Stand.of_body Bd
  have e0 : s₁.heap = h0 := by rw [← hh, Bd.state]; rfl
  have N0 := Fr.nil n0
  obtain ⟨G, step, ret, fin⟩ := own_openX X0 (rr_dt.cells) (rr_dt.slots) (Q_dt Z p0 p1 p2 h0 n0) Bd.notSynchronized
  refine fin (g := entryFrame m #[(.int p0), (.int p1), (.int p2)] 4) ?_
  rw [ef_dt m p0 p1 p2]
  refine step (fun _ => XS.iloadN X0.here hx rfl (B d47_0) rfl) ?_
  refine step (fun _ => XS.iconst X0.here hx rfl (B d47_1)) ?_
  refine step (fun _ => XS.isub X0.here hx rfl (B d47_2) rfl) ?_
  refine step (fun _ => XS.iloadN X0.here hx rfl (B d47_3) rfl) ?_
  refine step (fun _ => XS.isub X0.here hx rfl (B d47_4) rfl) ?_
  have hK1 := (backOf (R := rr_dt) (p := p) (e := e) (below := below) (s := s) (args := #[(.int p0), (.int p1), (.int p2)]) (len := 3) (W := 0) (rm_pow l Z a0 hw [] ((p1 - (1 : Int32)) - p2) h0 n0 (own_old_le O0) O0) hZ (ww265 hw) (ww192 hw) (by decide) (by decide))
  obtain ⟨_, _, ⟨T1, L1, k1, n1⟩, -, X1, ⟨Lc1, hQ1, l1, y1, z1⟩, st1⟩ := Jvm.LawKit.callS X0 hx (y := y_46) hown (mvT hZ (ww263 hw)) (mvT hZ (ww264 hw)) (mvT hZ (ww192 hw)) (mvT hZ (ww265 hw)) (by decide) hK1 (g := (mkF m 5 #[vI p0, vI p1, vI p2, u_] [(.int ((p1 - (1 : Int32)) - p2))])) rfl (by rw [hml]; rfl) (argsL := [(.int ((p1 - (1 : Int32)) - p2))]) (rest := []) (lenOf pd_11 rfl) rfl (by show 2 * 0 + _ ≤ _; exact Nat.le_of_eq rfl) (B d47_5) (fun _ _ => ⟨rfl, e0, (by decide : 0 + 0 ≤ _), (by decide : 0 + 0 ≤ _)⟩)
  dsimp only [Pt.U, Pt.locs, Pt.cells, Pt.slots] at X1 l1 y1 z1 st1 hQ1
  subst l1 y1 z1
  obtain ⟨rfl, N1q, e1⟩ := hQ1
  have N1 := Fr.app N0 N1q
  obtain ⟨lc1, X1, N1⟩ := own_gen X1 N1
  refine step (fun t k => st1 t k) ?_
  refine step (fun _ => XS.istoreN X1.here hx rfl (B d47_8) rfl (l' := #[vI p0, vI p1, vI p2, vI ((f_pow ((p1 - (1 : Int32)) - p2)))]) rfl) ?_
  refine step (fun _ => XS.bipush X1.here hx rfl (B d47_9)) ?_
  refine step (fun _ => XS.iloadN X1.here hx rfl (B d47_11) rfl) ?_
  refine step (fun _ => XS.iloadN X1.here hx rfl (B d47_12) rfl) ?_
  refine step (fun _ => XS.idiv X1.here hx rfl (B d47_13) rfl (own_pnz _)) ?_
  show G T1 (mkF m 14 #[vI p0, vI p1, vI p2, vI ((f_pow ((p1 - (1 : Int32)) - p2)))] [(.int (p0 / (f_pow ((p1 - (1 : Int32)) - p2)))), (.int 48)])
  refine step (fun _ => XS.bipush X1.here hx rfl (B d47_14)) ?_
  refine step (fun t k => iremM X1 hx rfl (B d47_16) rfl (by decide) k) ?_
  refine step (fun _ => XS.iadd X1.here hx rfl (B d47_17) rfl) ?_
  refine step (fun _ => XS.i2c X1.here hx rfl (B d47_18) rfl) ?_
  show G T1 (mkF m 19 #[vI p0, vI p1, vI p2, vI ((f_pow ((p1 - (1 : Int32)) - p2)))] [(.int (((48 : Int32) + ((p0 / (f_pow ((p1 - (1 : Int32)) - p2))) % (10 : Int32))).toUInt32.toUInt16.toUInt32.toInt32))])
  rw [own_i2c (own_dgl hp)]
  exact ret (v := some (.int ((48 : Int32) + ((p0 / (f_pow ((p1 - (1 : Int32)) - p2))) % (10 : Int32))))) X1 (fun h => by rw [Bd.returns] at h; cases h) (fun fs hr => retN X1 hx (t := .char) Bd.returns (by simp) (B d47_19) (by rw [own_narc (own_dgl hp)]; exact hr)) e1 ⟨rfl, N1, rfl⟩ (by decide) (by decide)
theorem own_dgn {p n : Int32} {ds : List Int32} (hp : (0 : Int32) < p) (h : own_dl p n ds) : f_dg p = n := by
  have h1 := h.1
  unfold own_sz at h1
  unfold f_dg
  have k1 : (10 : Int32).toInt = 10 := by decide
  have k2 : (100 : Int32).toInt = 100 := by decide
  have k3 : (1000 : Int32).toInt = 1000 := by decide
  have k4 : (10000 : Int32).toInt = 10000 := by decide
  have k5 : (100000 : Int32).toInt = 100000 := by decide
  have k6 : (1000000 : Int32).toInt = 1000000 := by decide
  have k7 : (10000000 : Int32).toInt = 10000000 := by decide
  have k8 : (100000000 : Int32).toInt = 100000000 := by decide
  have k9 : (1000000000 : Int32).toInt = 1000000000 := by decide
  rcases h1 with ⟨rfl, a1, a2⟩ | ⟨rfl, a1, a2⟩ | ⟨rfl, a1, a2⟩ | ⟨rfl, a1, a2⟩ | ⟨rfl, a1, a2⟩ | ⟨rfl, a1, a2⟩ | ⟨rfl, a1, a2⟩ | ⟨rfl, a1, a2⟩ | ⟨rfl, a1, a2⟩ | ⟨rfl, a1, a2⟩
  · rw [if_pos (by rw [own_xlt]; omega)]
  · rw [if_neg (by rw [own_xlt]; omega), if_pos (by rw [own_xlt]; omega)]
  · rw [if_neg (by rw [own_xlt]; omega), if_neg (by rw [own_xlt]; omega), if_pos (by rw [own_xlt]; omega)]
  · rw [if_neg (by rw [own_xlt]; omega), if_neg (by rw [own_xlt]; omega), if_neg (by rw [own_xlt]; omega), if_pos (by rw [own_xlt]; omega)]
  · rw [if_neg (by rw [own_xlt]; omega), if_neg (by rw [own_xlt]; omega), if_neg (by rw [own_xlt]; omega), if_neg (by rw [own_xlt]; omega), if_pos (by rw [own_xlt]; omega)]
  · rw [if_neg (by rw [own_xlt]; omega), if_neg (by rw [own_xlt]; omega), if_neg (by rw [own_xlt]; omega), if_neg (by rw [own_xlt]; omega), if_neg (by rw [own_xlt]; omega), if_pos (by rw [own_xlt]; omega)]
  · rw [if_neg (by rw [own_xlt]; omega), if_neg (by rw [own_xlt]; omega), if_neg (by rw [own_xlt]; omega), if_neg (by rw [own_xlt]; omega), if_neg (by rw [own_xlt]; omega), if_neg (by rw [own_xlt]; omega), if_pos (by rw [own_xlt]; omega)]
  · rw [if_neg (by rw [own_xlt]; omega), if_neg (by rw [own_xlt]; omega), if_neg (by rw [own_xlt]; omega), if_neg (by rw [own_xlt]; omega), if_neg (by rw [own_xlt]; omega), if_neg (by rw [own_xlt]; omega), if_neg (by rw [own_xlt]; omega), if_pos (by rw [own_xlt]; omega)]
  · rw [if_neg (by rw [own_xlt]; omega), if_neg (by rw [own_xlt]; omega), if_neg (by rw [own_xlt]; omega), if_neg (by rw [own_xlt]; omega), if_neg (by rw [own_xlt]; omega), if_neg (by rw [own_xlt]; omega), if_neg (by rw [own_xlt]; omega), if_neg (by rw [own_xlt]; omega), if_pos (by rw [own_xlt]; omega)]
  · rw [if_neg (by rw [own_xlt]; omega), if_neg (by rw [own_xlt]; omega), if_neg (by rw [own_xlt]; omega), if_neg (by rw [own_xlt]; omega), if_neg (by rw [own_xlt]; omega), if_neg (by rw [own_xlt]; omega), if_neg (by rw [own_xlt]; omega), if_neg (by rw [own_xlt]; omega), if_neg (by rw [own_xlt]; omega)]
theorem own_dgk {p n k : Int32} {ds : List Int32} (h : own_dl p n ds) (h1 : 0 ≤ k.toInt) (h2 : k.toInt < n.toInt) : ((48 : Int32) + ((p / (f_pow ((n - (1 : Int32)) - k))) % (10 : Int32))) = ds.getD k.toNatClampNeg 0 := by
  obtain ⟨h, rfl⟩ := h
  unfold own_sz at h
  have q0 : (0 : Int32).toInt = 0 := by decide
  have q1 : (1 : Int32).toInt = 1 := by decide
  have q2 : (2 : Int32).toInt = 2 := by decide
  have q3 : (3 : Int32).toInt = 3 := by decide
  have q4 : (4 : Int32).toInt = 4 := by decide
  have q5 : (5 : Int32).toInt = 5 := by decide
  have q6 : (6 : Int32).toInt = 6 := by decide
  have q7 : (7 : Int32).toInt = 7 := by decide
  have q8 : (8 : Int32).toInt = 8 := by decide
  have q9 : (9 : Int32).toInt = 9 := by decide
  have q10 : (10 : Int32).toInt = 10 := by decide
  rcases h with ⟨rfl, -⟩ | ⟨rfl, -⟩ | ⟨rfl, -⟩ | ⟨rfl, -⟩ | ⟨rfl, -⟩ | ⟨rfl, -⟩ | ⟨rfl, -⟩ | ⟨rfl, -⟩ | ⟨rfl, -⟩ | ⟨rfl, -⟩
  · obtain rfl : k = (0 : Int32) := by simp only [own_xeq, q0]; omega
    rw [show f_pow (((1 : Int32) - (1 : Int32)) - (0 : Int32)) = (1 : Int32) from by decide]
    rfl
  · obtain rfl | rfl : k = (0 : Int32) ∨ k = (1 : Int32) := by simp only [own_xeq, q0, q1]; omega
    · rw [show f_pow (((2 : Int32) - (1 : Int32)) - (0 : Int32)) = (10 : Int32) from by decide]
      rfl
    · rw [show f_pow (((2 : Int32) - (1 : Int32)) - (1 : Int32)) = (1 : Int32) from by decide]
      rfl
  · obtain rfl | rfl | rfl : k = (0 : Int32) ∨ k = (1 : Int32) ∨ k = (2 : Int32) := by simp only [own_xeq, q0, q1, q2]; omega
    · rw [show f_pow (((3 : Int32) - (1 : Int32)) - (0 : Int32)) = (100 : Int32) from by decide]
      rfl
    · rw [show f_pow (((3 : Int32) - (1 : Int32)) - (1 : Int32)) = (10 : Int32) from by decide]
      rfl
    · rw [show f_pow (((3 : Int32) - (1 : Int32)) - (2 : Int32)) = (1 : Int32) from by decide]
      rfl
  · obtain rfl | rfl | rfl | rfl : k = (0 : Int32) ∨ k = (1 : Int32) ∨ k = (2 : Int32) ∨ k = (3 : Int32) := by simp only [own_xeq, q0, q1, q2, q3]; omega
    · rw [show f_pow (((4 : Int32) - (1 : Int32)) - (0 : Int32)) = (1000 : Int32) from by decide]
      rfl
    · rw [show f_pow (((4 : Int32) - (1 : Int32)) - (1 : Int32)) = (100 : Int32) from by decide]
      rfl
    · rw [show f_pow (((4 : Int32) - (1 : Int32)) - (2 : Int32)) = (10 : Int32) from by decide]
      rfl
    · rw [show f_pow (((4 : Int32) - (1 : Int32)) - (3 : Int32)) = (1 : Int32) from by decide]
      rfl
  · obtain rfl | rfl | rfl | rfl | rfl : k = (0 : Int32) ∨ k = (1 : Int32) ∨ k = (2 : Int32) ∨ k = (3 : Int32) ∨ k = (4 : Int32) := by simp only [own_xeq, q0, q1, q2, q3, q4]; omega
    · rw [show f_pow (((5 : Int32) - (1 : Int32)) - (0 : Int32)) = (10000 : Int32) from by decide]
      rfl
    · rw [show f_pow (((5 : Int32) - (1 : Int32)) - (1 : Int32)) = (1000 : Int32) from by decide]
      rfl
    · rw [show f_pow (((5 : Int32) - (1 : Int32)) - (2 : Int32)) = (100 : Int32) from by decide]
      rfl
    · rw [show f_pow (((5 : Int32) - (1 : Int32)) - (3 : Int32)) = (10 : Int32) from by decide]
      rfl
    · rw [show f_pow (((5 : Int32) - (1 : Int32)) - (4 : Int32)) = (1 : Int32) from by decide]
      rfl
  · obtain rfl | rfl | rfl | rfl | rfl | rfl : k = (0 : Int32) ∨ k = (1 : Int32) ∨ k = (2 : Int32) ∨ k = (3 : Int32) ∨ k = (4 : Int32) ∨ k = (5 : Int32) := by simp only [own_xeq, q0, q1, q2, q3, q4, q5]; omega
    · rw [show f_pow (((6 : Int32) - (1 : Int32)) - (0 : Int32)) = (100000 : Int32) from by decide]
      rfl
    · rw [show f_pow (((6 : Int32) - (1 : Int32)) - (1 : Int32)) = (10000 : Int32) from by decide]
      rfl
    · rw [show f_pow (((6 : Int32) - (1 : Int32)) - (2 : Int32)) = (1000 : Int32) from by decide]
      rfl
    · rw [show f_pow (((6 : Int32) - (1 : Int32)) - (3 : Int32)) = (100 : Int32) from by decide]
      rfl
    · rw [show f_pow (((6 : Int32) - (1 : Int32)) - (4 : Int32)) = (10 : Int32) from by decide]
      rfl
    · rw [show f_pow (((6 : Int32) - (1 : Int32)) - (5 : Int32)) = (1 : Int32) from by decide]
      rfl
  · obtain rfl | rfl | rfl | rfl | rfl | rfl | rfl : k = (0 : Int32) ∨ k = (1 : Int32) ∨ k = (2 : Int32) ∨ k = (3 : Int32) ∨ k = (4 : Int32) ∨ k = (5 : Int32) ∨ k = (6 : Int32) := by simp only [own_xeq, q0, q1, q2, q3, q4, q5, q6]; omega
    · rw [show f_pow (((7 : Int32) - (1 : Int32)) - (0 : Int32)) = (1000000 : Int32) from by decide]
      rfl
    · rw [show f_pow (((7 : Int32) - (1 : Int32)) - (1 : Int32)) = (100000 : Int32) from by decide]
      rfl
    · rw [show f_pow (((7 : Int32) - (1 : Int32)) - (2 : Int32)) = (10000 : Int32) from by decide]
      rfl
    · rw [show f_pow (((7 : Int32) - (1 : Int32)) - (3 : Int32)) = (1000 : Int32) from by decide]
      rfl
    · rw [show f_pow (((7 : Int32) - (1 : Int32)) - (4 : Int32)) = (100 : Int32) from by decide]
      rfl
    · rw [show f_pow (((7 : Int32) - (1 : Int32)) - (5 : Int32)) = (10 : Int32) from by decide]
      rfl
    · rw [show f_pow (((7 : Int32) - (1 : Int32)) - (6 : Int32)) = (1 : Int32) from by decide]
      rfl
  · obtain rfl | rfl | rfl | rfl | rfl | rfl | rfl | rfl : k = (0 : Int32) ∨ k = (1 : Int32) ∨ k = (2 : Int32) ∨ k = (3 : Int32) ∨ k = (4 : Int32) ∨ k = (5 : Int32) ∨ k = (6 : Int32) ∨ k = (7 : Int32) := by simp only [own_xeq, q0, q1, q2, q3, q4, q5, q6, q7]; omega
    · rw [show f_pow (((8 : Int32) - (1 : Int32)) - (0 : Int32)) = (10000000 : Int32) from by decide]
      rfl
    · rw [show f_pow (((8 : Int32) - (1 : Int32)) - (1 : Int32)) = (1000000 : Int32) from by decide]
      rfl
    · rw [show f_pow (((8 : Int32) - (1 : Int32)) - (2 : Int32)) = (100000 : Int32) from by decide]
      rfl
    · rw [show f_pow (((8 : Int32) - (1 : Int32)) - (3 : Int32)) = (10000 : Int32) from by decide]
      rfl
    · rw [show f_pow (((8 : Int32) - (1 : Int32)) - (4 : Int32)) = (1000 : Int32) from by decide]
      rfl
    · rw [show f_pow (((8 : Int32) - (1 : Int32)) - (5 : Int32)) = (100 : Int32) from by decide]
      rfl
    · rw [show f_pow (((8 : Int32) - (1 : Int32)) - (6 : Int32)) = (10 : Int32) from by decide]
      rfl
    · rw [show f_pow (((8 : Int32) - (1 : Int32)) - (7 : Int32)) = (1 : Int32) from by decide]
      rfl
  · obtain rfl | rfl | rfl | rfl | rfl | rfl | rfl | rfl | rfl : k = (0 : Int32) ∨ k = (1 : Int32) ∨ k = (2 : Int32) ∨ k = (3 : Int32) ∨ k = (4 : Int32) ∨ k = (5 : Int32) ∨ k = (6 : Int32) ∨ k = (7 : Int32) ∨ k = (8 : Int32) := by simp only [own_xeq, q0, q1, q2, q3, q4, q5, q6, q7, q8]; omega
    · rw [show f_pow (((9 : Int32) - (1 : Int32)) - (0 : Int32)) = (100000000 : Int32) from by decide]
      rfl
    · rw [show f_pow (((9 : Int32) - (1 : Int32)) - (1 : Int32)) = (10000000 : Int32) from by decide]
      rfl
    · rw [show f_pow (((9 : Int32) - (1 : Int32)) - (2 : Int32)) = (1000000 : Int32) from by decide]
      rfl
    · rw [show f_pow (((9 : Int32) - (1 : Int32)) - (3 : Int32)) = (100000 : Int32) from by decide]
      rfl
    · rw [show f_pow (((9 : Int32) - (1 : Int32)) - (4 : Int32)) = (10000 : Int32) from by decide]
      rfl
    · rw [show f_pow (((9 : Int32) - (1 : Int32)) - (5 : Int32)) = (1000 : Int32) from by decide]
      rfl
    · rw [show f_pow (((9 : Int32) - (1 : Int32)) - (6 : Int32)) = (100 : Int32) from by decide]
      rfl
    · rw [show f_pow (((9 : Int32) - (1 : Int32)) - (7 : Int32)) = (10 : Int32) from by decide]
      rfl
    · rw [show f_pow (((9 : Int32) - (1 : Int32)) - (8 : Int32)) = (1 : Int32) from by decide]
      rfl
  · obtain rfl | rfl | rfl | rfl | rfl | rfl | rfl | rfl | rfl | rfl : k = (0 : Int32) ∨ k = (1 : Int32) ∨ k = (2 : Int32) ∨ k = (3 : Int32) ∨ k = (4 : Int32) ∨ k = (5 : Int32) ∨ k = (6 : Int32) ∨ k = (7 : Int32) ∨ k = (8 : Int32) ∨ k = (9 : Int32) := by simp only [own_xeq, q0, q1, q2, q3, q4, q5, q6, q7, q8, q9]; omega
    · rw [show f_pow (((10 : Int32) - (1 : Int32)) - (0 : Int32)) = (1000000000 : Int32) from by decide]
      rfl
    · rw [show f_pow (((10 : Int32) - (1 : Int32)) - (1 : Int32)) = (100000000 : Int32) from by decide]
      rfl
    · rw [show f_pow (((10 : Int32) - (1 : Int32)) - (2 : Int32)) = (10000000 : Int32) from by decide]
      rfl
    · rw [show f_pow (((10 : Int32) - (1 : Int32)) - (3 : Int32)) = (1000000 : Int32) from by decide]
      rfl
    · rw [show f_pow (((10 : Int32) - (1 : Int32)) - (4 : Int32)) = (100000 : Int32) from by decide]
      rfl
    · rw [show f_pow (((10 : Int32) - (1 : Int32)) - (5 : Int32)) = (10000 : Int32) from by decide]
      rfl
    · rw [show f_pow (((10 : Int32) - (1 : Int32)) - (6 : Int32)) = (1000 : Int32) from by decide]
      rfl
    · rw [show f_pow (((10 : Int32) - (1 : Int32)) - (7 : Int32)) = (100 : Int32) from by decide]
      rfl
    · rw [show f_pow (((10 : Int32) - (1 : Int32)) - (8 : Int32)) = (10 : Int32) from by decide]
      rfl
    · rw [show f_pow (((10 : Int32) - (1 : Int32)) - (9 : Int32)) = (1 : Int32) from by decide]
      rfl
theorem own_txA_pre (c0 : Int32) (ds : List Int32) (c1 c2 : Int32) : own_txA c0 ds c1 c2 = ((c0 :: own_L) ++ ds) ++ (own_C ++ [c1, (58 : Int32), (32 : Int32), c2]) := by simp [own_txA]
theorem own_txB_pre (c0 c1 c2 : Int32) : own_txB c0 c1 c2 = [c0] ++ (own_C ++ [c1, (58 : Int32), (32 : Int32), c2]) := rfl
theorem own_preL (c0 : Int32) (ds : List Int32) : ((c0 :: own_L) ++ ds).length = 7 + ds.length := by simp [own_lenL]; omega
def own_tail (c1 c2 : Int32) (j : Nat) : Int32 := (own_C ++ [c1, (58 : Int32), (32 : Int32), c2]).getD j 0
theorem own_xL {c0 c1 c2 i j : Int32} {ds : List Int32} (e : j.toInt = i.toInt - 1) (h0 : 0 ≤ j.toInt) (h1 : j.toInt < 6) : own_L.getD j.toNatClampNeg 0 = (own_txA c0 ds c1 c2).getD i.toNatClampNeg 0 := by
  have l7 : (c0 :: own_L).length = 7 := rfl
  rw [own_txA_pre, own_gl (by rw [own_preL, own_tn]; omega), own_gl (by rw [l7, own_tn]; omega), own_tn, own_tn, show i.toInt.toNat = j.toInt.toNat + 1 by omega]
  rfl
theorem own_xD {c0 c1 c2 i j n p : Int32} {ds : List Int32} (hp : (0 : Int32) < p) (h : own_dl p n ds) (e : j.toInt = i.toInt - 7) (h0 : 0 ≤ j.toInt) (h1 : j.toInt < n.toInt) : ds.getD j.toNatClampNeg 0 = (own_txA c0 ds c1 c2).getD i.toNatClampNeg 0 := by
  have l7 : (c0 :: own_L).length = 7 := rfl
  have hd := own_dll hp h
  rw [own_txA_pre, own_gl (by rw [own_preL, own_tn]; omega), own_gr (by rw [l7, own_tn]; omega), l7, own_tn, own_tn, show i.toInt.toNat - 7 = j.toInt.toNat by omega]
theorem own_xT {c0 c1 c2 i j n p : Int32} {ds : List Int32} (hp : (0 : Int32) < p) (h : own_dl p n ds) (e : j.toInt = i.toInt - 7 - n.toInt) (h0 : 0 ≤ j.toInt) : (own_txA c0 ds c1 c2).getD i.toNatClampNeg 0 = own_tail c1 c2 j.toNatClampNeg := by
  have hd := own_dll hp h
  rw [own_txA_pre, own_gr (by rw [own_preL, own_tn]; omega), own_preL, own_tn, own_tn, show i.toInt.toNat - (7 + ds.length) = j.toInt.toNat by omega]
  rfl
theorem own_xU {c0 c1 c2 i j : Int32} (e : j.toInt = i.toInt - 1) (h0 : 0 ≤ j.toInt) : (own_txB c0 c1 c2).getD i.toNatClampNeg 0 = own_tail c1 c2 j.toNatClampNeg := by
  have l1 : [c0].length = 1 := rfl
  rw [own_txB_pre, own_gr (by rw [l1, own_tn]; omega), l1, own_tn, own_tn, show i.toInt.toNat - 1 = j.toInt.toNat by omega]
  rfl
theorem own_tC {c1 c2 j : Int32} (h0 : 0 ≤ j.toInt) (h1 : j.toInt < 8) : own_C.getD j.toNatClampNeg 0 = own_tail c1 c2 j.toNatClampNeg := (own_gl (by rw [own_lenC, own_tn]; omega)).symm
theorem own_tt {c1 c2 j : Int32} {k : Nat} (h : j.toInt = k) : own_tail c1 c2 j.toNatClampNeg = own_tail c1 c2 k := by rw [own_tn, h]; rfl
theorem d48_0 : decode qc48 0 = .ok (.iload_n 0, 1) := by decide +kernel
theorem d48_1 : decode qc48 1 = .ok (.ifCond .ne 5, 3) := by decide +kernel
theorem d48_4 : decode qc48 4 = .ok (.iload_n 1, 1) := by decide +kernel
theorem d48_5 : decode qc48 5 = .ok (.ireturn, 1) := by decide +kernel
theorem d48_6 : decode qc48 6 = .ok (.iload_n 0, 1) := by decide +kernel
theorem d48_7 : decode qc48 7 = .ok (.iconst 1, 1) := by decide +kernel
theorem d48_8 : decode qc48 8 = .ok (.isub, 1) := by decide +kernel
theorem d48_9 : decode qc48 9 = .ok (.istore 6, 2) := by decide +kernel
theorem d48_11 : decode qc48 11 = .ok (.iload_n 2, 1) := by decide +kernel
theorem d48_12 : decode qc48 12 = .ok (.ifCond .le 45, 3) := by decide +kernel
theorem d48_15 : decode qc48 15 = .ok (.iload 6, 2) := by decide +kernel
theorem d48_17 : decode qc48 17 = .ok (.bipush 6, 2) := by decide +kernel
theorem d48_19 : decode qc48 19 = .ok (.if_icmp .ge 11, 3) := by decide +kernel
theorem d48_22 : decode qc48 22 = .ok (.ldc 55, 2) := by decide +kernel
theorem d48_24 : decode qc48 24 = .ok (.iload 6, 2) := by decide +kernel
theorem d48_26 : decode qc48 26 = .ok (.invokevirtual 47, 3) := by decide +kernel
theorem ww194 (hw : HW Z a0) : Cond.before (Cond.methodLink cn_3 47 ({ cls := cn_2, name := "charAt", desc := "(I)C" } : MethodName)) a0 Z = true := own_w hw 194 rfl
theorem ww197 (hw : HW Z a0) : Cond.before (Cond.selects cn_2 ({ cls := cn_2, name := "charAt", desc := "(I)C" } : MethodName) ({ cls := cn_2, name := "charAt", desc := "(I)C" } : MethodName)) a0 Z = true := own_w hw 197 rfl
theorem ww198 (hw : HW Z a0) : Cond.before (Cond.code ({ cls := cn_2, name := "charAt", desc := "(I)C" } : MethodName) jdk_42_method_56_code 2 (Option.some FieldType.char)) a0 Z = true := own_w hw 198 rfl
theorem pd_30 : parseMethodDescriptor "(I)C" = some ⟨[.int], some .char⟩ := by decide +kernel
theorem ww195 (hw : HW Z a0) : Cond.before (Cond.declares ({ cls := cn_2, name := "charAt", desc := "(I)C" } : MethodName)) a0 Z = true := own_w hw 195 rfl
theorem ww196 (hw : HW Z a0) : Cond.before (Cond.instanceMethod ({ cls := cn_2, name := "charAt", desc := "(I)C" } : MethodName)) a0 Z = true := own_w hw 196 rfl
theorem d48_29 : decode qc48 29 = .ok (.ireturn, 1) := by decide +kernel
theorem d48_30 : decode qc48 30 = .ok (.iload 6, 2) := by decide +kernel
theorem d48_32 : decode qc48 32 = .ok (.bipush 6, 2) := by decide +kernel
theorem d48_34 : decode qc48 34 = .ok (.isub, 1) := by decide +kernel
theorem d48_35 : decode qc48 35 = .ok (.istore 6, 2) := by decide +kernel
theorem d48_37 : decode qc48 37 = .ok (.iload 6, 2) := by decide +kernel
theorem d48_39 : decode qc48 39 = .ok (.iload_n 3, 1) := by decide +kernel
theorem d48_40 : decode qc48 40 = .ok (.if_icmp .ge 11, 3) := by decide +kernel
theorem d48_43 : decode qc48 43 = .ok (.iload_n 2, 1) := by decide +kernel
theorem d48_44 : decode qc48 44 = .ok (.iload_n 3, 1) := by decide +kernel
theorem d48_45 : decode qc48 45 = .ok (.iload 6, 2) := by decide +kernel
theorem d48_47 : decode qc48 47 = .ok (.invokestatic 57, 3) := by decide +kernel
theorem ww260 (hw : HW Z a0) : Cond.before (Cond.methodLink cn_3 57 ({ cls := cn_3, name := "digit", desc := "(III)C" } : MethodName)) a0 Z = true := own_w hw 260 rfl
theorem ww262 (hw : HW Z a0) : Cond.before (Cond.code ({ cls := cn_3, name := "digit", desc := "(III)C" } : MethodName) method_5_code 4 (Option.some FieldType.char)) a0 Z = true := own_w hw 262 rfl
theorem pd_31 : parseMethodDescriptor "(III)C" = some ⟨[.int, .int, .int], some .char⟩ := by decide +kernel
theorem ww261 (hw : HW Z a0) : Cond.before (Cond.static ({ cls := cn_3, name := "digit", desc := "(III)C" } : MethodName)) a0 Z = true := own_w hw 261 rfl
theorem d48_50 : decode qc48 50 = .ok (.ireturn, 1) := by decide +kernel
theorem d48_51 : decode qc48 51 = .ok (.iload 6, 2) := by decide +kernel
theorem d48_53 : decode qc48 53 = .ok (.iload_n 3, 1) := by decide +kernel
theorem d48_54 : decode qc48 54 = .ok (.isub, 1) := by decide +kernel
theorem d48_55 : decode qc48 55 = .ok (.istore 6, 2) := by decide +kernel
theorem d48_57 : decode qc48 57 = .ok (.iload 6, 2) := by decide +kernel
theorem d48_59 : decode qc48 59 = .ok (.bipush 8, 2) := by decide +kernel
theorem d48_61 : decode qc48 61 = .ok (.if_icmp .ge 11, 3) := by decide +kernel
theorem d48_64 : decode qc48 64 = .ok (.ldc 61, 2) := by decide +kernel
theorem d48_66 : decode qc48 66 = .ok (.iload 6, 2) := by decide +kernel
theorem d48_68 : decode qc48 68 = .ok (.invokevirtual 47, 3) := by decide +kernel
theorem d48_71 : decode qc48 71 = .ok (.ireturn, 1) := by decide +kernel
theorem d48_72 : decode qc48 72 = .ok (.iload 6, 2) := by decide +kernel
theorem d48_74 : decode qc48 74 = .ok (.bipush 8, 2) := by decide +kernel
theorem d48_76 : decode qc48 76 = .ok (.isub, 1) := by decide +kernel
theorem d48_77 : decode qc48 77 = .ok (.istore 6, 2) := by decide +kernel
theorem d48_79 : decode qc48 79 = .ok (.iload 6, 2) := by decide +kernel
theorem d48_81 : decode qc48 81 = .ok (.ifCond .ne 6, 3) := by decide +kernel
theorem d48_84 : decode qc48 84 = .ok (.iload 4, 2) := by decide +kernel
theorem d48_86 : decode qc48 86 = .ok (.ireturn, 1) := by decide +kernel
theorem d48_87 : decode qc48 87 = .ok (.iload 6, 2) := by decide +kernel
theorem d48_89 : decode qc48 89 = .ok (.iconst 1, 1) := by decide +kernel
theorem d48_90 : decode qc48 90 = .ok (.if_icmp .ne 6, 3) := by decide +kernel
theorem d48_93 : decode qc48 93 = .ok (.bipush 58, 2) := by decide +kernel
theorem d48_95 : decode qc48 95 = .ok (.ireturn, 1) := by decide +kernel
theorem d48_96 : decode qc48 96 = .ok (.iload 6, 2) := by decide +kernel
theorem d48_98 : decode qc48 98 = .ok (.iconst 2, 1) := by decide +kernel
theorem d48_99 : decode qc48 99 = .ok (.if_icmp .ne 6, 3) := by decide +kernel
theorem d48_102 : decode qc48 102 = .ok (.bipush 32, 2) := by decide +kernel
theorem d48_104 : decode qc48 104 = .ok (.ireturn, 1) := by decide +kernel
theorem d48_105 : decode qc48 105 = .ok (.iload 5, 2) := by decide +kernel
theorem d48_107 : decode qc48 107 = .ok (.ireturn, 1) := by decide +kernel
abbrev rr_xAL : Room := { frames := 4, cells := 2, slots := 36, locals := 53 }
abbrev y_48 : MethodName := ⟨cn_3, "expected", "(ICIICC)C"⟩
theorem ef_xAL (m : MethodId) (p0 p1 p2 p3 p4 p5 : Int32) : entryFrame m #[(.int p0), (.int p1), (.int p2), (.int p3), (.int p4), (.int p5)] 7 = mkF m 0 #[vI p0, vI p1, vI p2, vI p3, vI p4, vI p5, u_] [] := by first | (simp [entryFrame, mkF, argsToLocals, Value.category]; done) | rfl
def Q_xAL (Z : State) (w_0 w_1 : Addr) (w_2 : Int32) (w_3 : Value) (p0 p1 p2 p3 p4 p5 : Int32) (ds : List Int32) (h0 : Heap) (n0 : Nat) (v : Option Value) (h : Heap) (L : List Loc) : Prop := ∃ r : Int32, v = some (.int r) ∧ Fr n0 L ∧ Keep h0 h [] ∧ r = (own_txA p1 ds p4 p5).getD p0.toNatClampNeg 0
theorem rm_xAL (l : Launch) (Z : State) (a0 : Array Value) (hw : HW Z a0) (ws : List Jvm.Cond) (w_0 w_1 : Addr) (w_2 : Int32) (w_3 : Value) (p0 p1 p2 p3 p4 p5 : Int32) (ds : List Int32) (h0 : Heap) (n0 : Nat) (Z0 : n0 ≤ h0.size) (ST : own_St Z w_0 w_1 w_2 w_3) (O0 : Old Z n0 h0) (hp : (0 : Int32) < p2) (hdl : own_dl p2 p3 ds) (hi : 0 ≤ p0.toInt ∧ p0.toInt < 19 + p3.toInt) (hl1 : ¬ p1 < 0 ∧ ¬ (255 : Int32) < p1) (hl4 : ¬ p4 < 0 ∧ ¬ (255 : Int32) < p4) (hl5 : ¬ p5 < 0 ∧ ¬ (255 : Int32) < p5) :
    MetFree l y_48 (head1 (Jvm.Cond.code y_48 method_4_code 7 (some .char) :: ws) rr_xAL) (fun a U => a = #[(.int p0), (.int p1), (.int p2), (.int p3), (.int p4), (.int p5)] ∧ Z.Warmed39 U.vm ∧ U.heap = h0 ∧ CHv Z own_EL U.vm h0) (fun _ _ _ _ _ => True) (fun _ U o U' => ∃ v L, o = .returned v ∧ Q_xAL Z w_0 w_1 w_2 w_3 p0 p1 p2 p3 p4 p5 ds h0 n0 v U'.heap L ∧ CHr Z own_EL U.vm U.heap U'.vm U'.heap ∧ ReturnedEndW U o U' L rr_xAL.cells rr_xAL.slots) := by
  refine MetFree.of_bodySF (plainFor_of_name pn_10) hisR ?_
  intro p e s m args below meth c s₁ Bd hml0 hP hK
  obtain ⟨rfl, hZ, hh, hC⟩ := hP
  have hx := Bd.exec
  have hby := Bd.bytes
  have B := @hb _ _ hby
  have hml : c.maxLocals = 7 := hml0
  have hown : s.vm.findClass cn_3 = some m.cls := findClass_of_methodNamed Bd.named
  have X0 : Stand p l e rr_xAL (s.setVm s.vm) m #[(.int p0), (.int p1), (.int p2), (.int p3), (.int p4), (.int p5)] below meth c s₁ [] 0 0 := Stand.of_body Bd
  have e0 : s₁.heap = h0 := by rw [← hh, Bd.state]; rfl
  have N0 := Fr.nil n0
  replace hZ : Z.Warmed39 (s.setVm s.vm).vm := hZ
  replace hown : (s.setVm s.vm).vm.findClass cn_3 = some m.cls := hown
  have hS : s.Since s.vm h0.size := (State.WarmedH.refl s).since _
  have hk0 : h0.size ≤ h0.size := Nat.le_refl _
  have C0 : CHr Z own_EL s.vm h0 s.vm h0 := CHr.refl hC
  have K0 : Keep h0 h0 [] := Keep.refl _ _
  obtain ⟨G, step, ret, fin⟩ := own_openHX X0 (rr_xAL.cells) (rr_xAL.slots) (Q_xAL Z w_0 w_1 w_2 w_3 p0 p1 p2 p3 p4 p5 ds h0 n0) (own_EW hw) hh Bd.notSynchronized
  refine fin (g := entryFrame m #[(.int p0), (.int p1), (.int p2), (.int p3), (.int p4), (.int p5)] 7) ?_
  rw [ef_xAL m p0 p1 p2 p3 p4 p5]
  obtain ⟨ls0, hls0⟩ := own_sl #[vI p0, vI p1, vI p2, vI p3, vI p4, vI p5, u_]
  suffices hG0 : G s₁ (mkF m 0 ls0 []) by rw [hls0] at hG0; exact hG0
  refine step (fun _ => XS.iloadN X0.here hx rfl (B d48_0) (by rw [hls0]; rfl)) ?_
  by_cases hc1 : p0 = (0 : Int32)
  · skip
    refine step (fun _ => XS.ifNo X0.here hx rfl (B d48_1) rfl ((if0 _ _).trans (teq hc1).2)) ?_
    refine step (fun _ => XS.iloadN X0.here hx rfl (B d48_4) (by rw [hls0]; rfl)) ?_
    have hr2 : p1 = (own_txA p1 ds p4 p5).getD p0.toNatClampNeg 0 := by
      rw [hc1]
      rfl
    exact ret (v := some (.int p1)) X0 hS hk0 C0 hZ (fun h => by rw [Bd.returns] at h; cases h) (fun fs hr => retN X0 hx (t := .char) Bd.returns (by simp) (B d48_5) (by rw [own_narc hl1]; exact hr)) e0 ⟨p1, rfl, N0, K0, hr2⟩ (by decide) (by decide)
  · skip
    refine step (fun _ => XS.ifYes X0.here hx rfl (pc0 := 1) (pc' := 6) rfl (B d48_1) rfl ((if0 _ _).trans (feq hc1).2) (by decide) (by decide)) ?_
    refine step (fun _ => XS.iloadN X0.here hx rfl (B d48_6) (by rw [hls0]; rfl)) ?_
    refine step (fun _ => XS.iconst X0.here hx rfl (B d48_7)) ?_
    show G s₁ (mkF m 8 ls0 [(.int 1), (.int p0)])
    refine step (fun _ => XS.isub X0.here hx rfl (B d48_8) rfl) ?_
    obtain ⟨ls3, hls3⟩ := own_sl #[vI p0, vI p1, vI p2, vI p3, vI p4, vI p5, vI ((p0 - (1 : Int32)))]
    refine step (fun _ => XS.istore X0.here hx rfl (B d48_9) rfl (l' := ls3) (by rw [hls0, hls3]; rfl)) ?_
    have hd := own_dll hp hdl
    have nz : ¬ p0.toInt = 0 := fun z_ => hc1 (own_xeq.mpr (z_.trans (by decide)))
    obtain ⟨x6, hx6⟩ : ∃ z : Int32, z = (p0 - (1 : Int32)) := ⟨_, rfl⟩
    obtain ⟨ls4, hls4⟩ := own_sl #[vI p0, vI p1, vI p2, vI p3, vI p4, vI p5, vI x6]
    rw [show ls3 = ls4 from by rw [hls3, hls4, hx6]]
    have ex6 : x6.toInt = p0.toInt - 1 := by
      have k1 : (1 : Int32).toInt = 1 := by decide
      rw [own_sb hx6 (by omega) (by omega), k1]
    refine step (fun _ => XS.iloadN X0.here hx rfl (B d48_11) (by rw [hls4]; rfl)) ?_
    refine step (fun _ => XS.ifNo X0.here hx rfl (B d48_12) rfl ((if0 _ _).trans (tlt hp).2.2.2)) ?_
    refine step (fun _ => XS.iload X0.here hx rfl (B d48_15) (by rw [hls4]; rfl)) ?_
    refine step (fun _ => XS.bipush X0.here hx rfl (B d48_17)) ?_
    show G s₁ (mkF m 19 ls4 [(.int 6), (.int x6)])
    by_cases hc5 : x6 < (6 : Int32)
    · skip
      refine step (fun _ => XS.icmpNo X0.here hx rfl (B d48_19) rfl (tlt hc5).2.1) ?_
      obtain ⟨b6, T6, h6, k6, t6, kk6, X6, e6, E6, hS, hk6, hZ, hown, Ex6, Fc6, Fv6, Va6, -, -, hC6, -, hne6, st6⟩ := ldcCH (s := s) X0 hx hZ hown (ww259 hw) (own_wS hw) e0 hS hk0 (own_EW hw) (List.mem_of_getElem? (i := 4) rfl) C0.1 own_eL (z := (6 : Int32)) (by decide) rfl (g := (mkF m 22 ls4 [])) rfl (B d48_22) (n := 24) (by decide +kernel) (by decide) (by decide) (by decide)
      have cz6 : CHr Z own_EL s.vm h0 T6.vm h6 := hC6
      have C6 : CHr Z own_EL s.vm h0 T6.vm h6 := C0.trans cz6
      have O6 := O0.ext E6
      have K6 : Keep h0 h6 [] := K0.ext E6
      refine step st6 ?_
      refine step (fun _ => XS.iload X6.here hx rfl (B d48_24) (by rw [hls4]; rfl)) ?_
      have ho8 : ¬ (x6 < (0 : Int32)) := by
        have k0 : (0 : Int32).toInt = 0 := by decide
        have k6 : (6 : Int32).toInt = 6 := by decide
        have g0 := hc1
        have g1 := hc5
        simp only [own_xlt, own_xeq] at g0 g1
        rw [own_xlt]
        omega
      have hK7 := (backOf (R := rr_xAL) (p := p) (e := e) (below := below) (args := #[(.int p0), (.int p1), (.int p2), (.int p3), (.int p4), (.int p5)]) (len := 3) (W := 0) (rm_ch l Z a0 hw [] w_0 w_1 w_2 w_3 b6 x6 t6 kk6 (6 : Int32) own_L h6 n0 (own_old_le O6) ST O6 Ex6 Fv6 Fc6 Va6 own_okL (ho8 : ¬ (x6 < (0 : Int32))) (hc5 : x6 < (6 : Int32))) hZ (ww198 hw) (ww2 hw) (by decide) (by decide))
      obtain ⟨cq7, kq7, q7a, q7b, q7c⟩ := isOf hZ e6 Ex6
      obtain ⟨_, _, ⟨T7, L7, k7, n7⟩, -, X7, ⟨Lc7, hQ7, l7, y7, z7⟩, st7⟩ := X6.virtualBack hx (y := y_10) (z := y_10) hown (mvT hZ (ww194 hw)) (mvT hZ (ww195 hw)) (notFace_of_selects (args := #[]) (mvT hZ (ww197 hw))) (mvT hZ (ww197 hw)) (mvT hZ (ww196 hw)) (by decide) hK7 q7a q7c (g := (mkF m 26 ls4 [(.int x6), (.ref b6)])) rfl (by rw [hml, hls4]; rfl) (Steps.refl _) (argsL := [(.int x6)]) (rest := []) (lenOf pd_30 rfl) rfl (by show 2 * 0 + _ ≤ _; exact Nat.le_of_eq rfl) (B d48_26) (fun _ _ => ⟨rfl, e6, (by decide : 2 + 0 ≤ _), (by decide : 28 + 0 ≤ _)⟩)
      dsimp only [Pt.U, Pt.locs, Pt.cells, Pt.slots] at X7 l7 y7 z7 st7 hQ7
      subst l7 y7 z7
      obtain ⟨rfl, N7q, e7⟩ := hQ7
      have N7 := Fr.app N0 N7q
      obtain ⟨lc7, X7, N7⟩ := own_gen X7 N7
      refine step (fun t k => st7.trans k) ?_
      have r9 : (f_ch w_0 w_1 w_2 w_3 b6 x6 t6 kk6 (6 : Int32) own_L) = (own_L.getD x6.toNatClampNeg 0) := rfl
      rw [r9]
      have hr10 : (own_L.getD x6.toNatClampNeg 0) = (own_txA p1 ds p4 p5).getD p0.toNatClampNeg 0 := by
        have k0 : (0 : Int32).toInt = 0 := by decide
        have k6 : (6 : Int32).toInt = 6 := by decide
        have g0 := hc1
        have g1 := hc5
        simp only [own_xlt, own_xeq] at g0 g1
        exact own_xL (by omega) (by omega) (by omega)
      exact ret (v := some (.int (own_L.getD x6.toNatClampNeg 0))) X7 hS hk6 C6 hZ (fun h => by rw [Bd.returns] at h; cases h) (fun fs hr => retN X7 hx (t := .char) Bd.returns (by simp) (B d48_29) (by rw [own_narc (own_lg own_okL ho8 hc5)]; exact hr)) e7 ⟨(own_L.getD x6.toNatClampNeg 0), rfl, N7, K6, hr10⟩ (by decide) (by decide)
    · skip
      refine step (fun _ => XS.icmpYes X0.here hx rfl (pc0 := 19) (pc' := 30) rfl (B d48_19) rfl (flt hc5).2.1 (by decide) (by decide)) ?_
      refine step (fun _ => XS.iload X0.here hx rfl (B d48_30) (by rw [hls4]; rfl)) ?_
      refine step (fun _ => XS.bipush X0.here hx rfl (B d48_32)) ?_
      refine step (fun _ => XS.isub X0.here hx rfl (B d48_34) rfl) ?_
      obtain ⟨ls11, hls11⟩ := own_sl #[vI p0, vI p1, vI p2, vI p3, vI p4, vI p5, vI ((x6 - (6 : Int32)))]
      refine step (fun _ => XS.istore X0.here hx rfl (B d48_35) rfl (l' := ls11) (by rw [hls4, hls11]; rfl)) ?_
      show G s₁ (mkF m 37 ls11 [])
      obtain ⟨x7, hx7⟩ : ∃ z : Int32, z = (x6 - (6 : Int32)) := ⟨_, rfl⟩
      obtain ⟨ls12, hls12⟩ := own_sl #[vI p0, vI p1, vI p2, vI p3, vI p4, vI p5, vI x7]
      rw [show ls11 = ls12 from by rw [hls11, hls12, hx7]]
      have ex7 : x7.toInt = p0.toInt - 7 := by
        have k6 : (6 : Int32).toInt = 6 := by decide
        rw [own_sb hx7 (by omega) (by omega), k6, ex6]
        omega
      refine step (fun _ => XS.iload X0.here hx rfl (B d48_37) (by rw [hls12]; rfl)) ?_
      refine step (fun _ => XS.iloadN X0.here hx rfl (B d48_39) (by rw [hls12]; rfl)) ?_
      by_cases hc13 : x7 < p3
      · skip
        refine step (fun _ => XS.icmpNo X0.here hx rfl (B d48_40) rfl (tlt hc13).2.1) ?_
        refine step (fun _ => XS.iloadN X0.here hx rfl (B d48_43) (by rw [hls12]; rfl)) ?_
        refine step (fun _ => XS.iloadN X0.here hx rfl (B d48_44) (by rw [hls12]; rfl)) ?_
        refine step (fun _ => XS.iload X0.here hx rfl (B d48_45) (by rw [hls12]; rfl)) ?_
        show G s₁ (mkF m 47 ls12 [(.int x7), (.int p3), (.int p2)])
        have hK14 := (backOf (R := rr_xAL) (p := p) (e := e) (below := below) (args := #[(.int p0), (.int p1), (.int p2), (.int p3), (.int p4), (.int p5)]) (len := 3) (W := 0) (rm_dt l Z a0 hw [] p2 p3 x7 h0 n0 (own_old_le O0) O0 (hp : (0 : Int32) < p2)) hZ (ww262 hw) (ww192 hw) (by decide) (by decide))
        obtain ⟨_, _, ⟨T14, L14, k14, n14⟩, -, X14, ⟨Lc14, hQ14, l14, y14, z14⟩, st14⟩ := Jvm.LawKit.callS X0 hx (y := y_47) hown (mvT hZ (ww260 hw)) (mvT hZ (ww261 hw)) (mvT hZ (ww192 hw)) (mvT hZ (ww262 hw)) (by decide) hK14 (g := (mkF m 47 ls12 [(.int x7), (.int p3), (.int p2)])) rfl (by rw [hml, hls12]; rfl) (argsL := [(.int p2), (.int p3), (.int x7)]) (rest := []) (lenOf pd_31 rfl) rfl (by show 2 * 0 + _ ≤ _; exact Nat.le_of_eq rfl) (B d48_47) (fun _ _ => ⟨rfl, e0, (by decide : 0 + 0 ≤ _), (by decide : 0 + 0 ≤ _)⟩)
        dsimp only [Pt.U, Pt.locs, Pt.cells, Pt.slots] at X14 l14 y14 z14 st14 hQ14
        subst l14 y14 z14
        obtain ⟨rfl, N14q, e14⟩ := hQ14
        have N14 := Fr.app N0 N14q
        obtain ⟨lc14, X14, N14⟩ := own_gen X14 N14
        refine step (fun t k => st14 t k) ?_
        have r15 : (f_dt p2 p3 x7) = ((48 : Int32) + ((p2 / (f_pow ((p3 - (1 : Int32)) - x7))) % (10 : Int32))) := rfl
        rw [r15]
        have hr16 : ((48 : Int32) + ((p2 / (f_pow ((p3 - (1 : Int32)) - x7))) % (10 : Int32))) = (own_txA p1 ds p4 p5).getD p0.toNatClampNeg 0 := by
          have k0 : (0 : Int32).toInt = 0 := by decide
          have k6 : (6 : Int32).toInt = 6 := by decide
          have g0 := hc1
          have g1 := hc5
          have g2 := hc13
          simp only [own_xlt, own_xeq] at g0 g1 g2
          exact (own_dgk (k := x7) hdl (by omega) (by omega)).trans (own_xD (i := p0) (j := x7) hp hdl (by omega) (by omega) (by omega))
        exact ret (v := some (.int ((48 : Int32) + ((p2 / (f_pow ((p3 - (1 : Int32)) - x7))) % (10 : Int32))))) X14 hS hk0 C0 hZ (fun h => by rw [Bd.returns] at h; cases h) (fun fs hr => retN X14 hx (t := .char) Bd.returns (by simp) (B d48_50) (by rw [own_narc (own_dgl hp)]; exact hr)) e14 ⟨((48 : Int32) + ((p2 / (f_pow ((p3 - (1 : Int32)) - x7))) % (10 : Int32))), rfl, N14, K0, hr16⟩ (by decide) (by decide)
      · skip
        refine step (fun _ => XS.icmpYes X0.here hx rfl (pc0 := 40) (pc' := 51) rfl (B d48_40) rfl (flt hc13).2.1 (by decide) (by decide)) ?_
        refine step (fun _ => XS.iload X0.here hx rfl (B d48_51) (by rw [hls12]; rfl)) ?_
        refine step (fun _ => XS.iloadN X0.here hx rfl (B d48_53) (by rw [hls12]; rfl)) ?_
        refine step (fun _ => XS.isub X0.here hx rfl (B d48_54) rfl) ?_
        obtain ⟨ls17, hls17⟩ := own_sl #[vI p0, vI p1, vI p2, vI p3, vI p4, vI p5, vI ((x7 - p3))]
        refine step (fun _ => XS.istore X0.here hx rfl (B d48_55) rfl (l' := ls17) (by rw [hls12, hls17]; rfl)) ?_
        show G s₁ (mkF m 57 ls17 [])
        obtain ⟨x8, hx8⟩ : ∃ z : Int32, z = (x7 - p3) := ⟨_, rfl⟩
        obtain ⟨ls18, hls18⟩ := own_sl #[vI p0, vI p1, vI p2, vI p3, vI p4, vI p5, vI x8]
        rw [show ls17 = ls18 from by rw [hls17, hls18, hx8]]
        have ex8 : x8.toInt = p0.toInt - 7 - p3.toInt := by
          rw [own_sb hx8 (by omega) (by omega), ex7]
        refine step (fun _ => XS.iload X0.here hx rfl (B d48_57) (by rw [hls18]; rfl)) ?_
        refine step (fun _ => XS.bipush X0.here hx rfl (B d48_59)) ?_
        show G s₁ (mkF m 61 ls18 [(.int 8), (.int x8)])
        by_cases hc19 : x8 < (8 : Int32)
        · skip
          refine step (fun _ => XS.icmpNo X0.here hx rfl (B d48_61) rfl (tlt hc19).2.1) ?_
          obtain ⟨b20, T20, h20, k20, t20, kk20, X20, e20, E20, hS, hk20, hZ, hown, Ex20, Fc20, Fv20, Va20, -, -, hC20, -, hne20, st20⟩ := ldcCH (s := s) X0 hx hZ hown (ww218 hw) (own_wS hw) e0 hS hk0 (own_EW hw) (List.mem_of_getElem? (i := 5) rfl) C0.1 own_eC (z := (8 : Int32)) (by decide) rfl (g := (mkF m 64 ls18 [])) rfl (B d48_64) (n := 32) (by decide +kernel) (by decide) (by decide) (by decide)
          have cz20 : CHr Z own_EL s.vm h0 T20.vm h20 := hC20
          have C20 : CHr Z own_EL s.vm h0 T20.vm h20 := C0.trans cz20
          have O20 := O0.ext E20
          have K20 : Keep h0 h20 [] := K0.ext E20
          refine step st20 ?_
          refine step (fun _ => XS.iload X20.here hx rfl (B d48_66) (by rw [hls18]; rfl)) ?_
          have ho22 : ¬ (x8 < (0 : Int32)) := by
            have k0 : (0 : Int32).toInt = 0 := by decide
            have k6 : (6 : Int32).toInt = 6 := by decide
            have k8 : (8 : Int32).toInt = 8 := by decide
            have g0 := hc1
            have g1 := hc5
            have g2 := hc13
            have g3 := hc19
            simp only [own_xlt, own_xeq] at g0 g1 g2 g3
            rw [own_xlt]
            omega
          have hK21 := (backOf (R := rr_xAL) (p := p) (e := e) (below := below) (args := #[(.int p0), (.int p1), (.int p2), (.int p3), (.int p4), (.int p5)]) (len := 3) (W := 0) (rm_ch l Z a0 hw [] w_0 w_1 w_2 w_3 b20 x8 t20 kk20 (8 : Int32) own_C h20 n0 (own_old_le O20) ST O20 Ex20 Fv20 Fc20 Va20 own_okC (ho22 : ¬ (x8 < (0 : Int32))) (hc19 : x8 < (8 : Int32))) hZ (ww198 hw) (ww2 hw) (by decide) (by decide))
          obtain ⟨cq21, kq21, q21a, q21b, q21c⟩ := isOf hZ e20 Ex20
          obtain ⟨_, _, ⟨T21, L21, k21, n21⟩, -, X21, ⟨Lc21, hQ21, l21, y21, z21⟩, st21⟩ := X20.virtualBack hx (y := y_10) (z := y_10) hown (mvT hZ (ww194 hw)) (mvT hZ (ww195 hw)) (notFace_of_selects (args := #[]) (mvT hZ (ww197 hw))) (mvT hZ (ww197 hw)) (mvT hZ (ww196 hw)) (by decide) hK21 q21a q21c (g := (mkF m 68 ls18 [(.int x8), (.ref b20)])) rfl (by rw [hml, hls18]; rfl) (Steps.refl _) (argsL := [(.int x8)]) (rest := []) (lenOf pd_30 rfl) rfl (by show 2 * 0 + _ ≤ _; exact Nat.le_of_eq rfl) (B d48_68) (fun _ _ => ⟨rfl, e20, (by decide : 2 + 0 ≤ _), (by decide : 36 + 0 ≤ _)⟩)
          dsimp only [Pt.U, Pt.locs, Pt.cells, Pt.slots] at X21 l21 y21 z21 st21 hQ21
          subst l21 y21 z21
          obtain ⟨rfl, N21q, e21⟩ := hQ21
          have N21 := Fr.app N0 N21q
          obtain ⟨lc21, X21, N21⟩ := own_gen X21 N21
          refine step (fun t k => st21.trans k) ?_
          have r23 : (f_ch w_0 w_1 w_2 w_3 b20 x8 t20 kk20 (8 : Int32) own_C) = (own_C.getD x8.toNatClampNeg 0) := rfl
          rw [r23]
          have hr24 : (own_C.getD x8.toNatClampNeg 0) = (own_txA p1 ds p4 p5).getD p0.toNatClampNeg 0 := by
            have k0 : (0 : Int32).toInt = 0 := by decide
            have k6 : (6 : Int32).toInt = 6 := by decide
            have k8 : (8 : Int32).toInt = 8 := by decide
            have g0 := hc1
            have g1 := hc5
            have g2 := hc13
            have g3 := hc19
            simp only [own_xlt, own_xeq] at g0 g1 g2 g3
            rw [own_xT (i := p0) hp hdl (j := x8) (by omega) (by omega)]
            exact own_tC (by omega) (by omega)
          exact ret (v := some (.int (own_C.getD x8.toNatClampNeg 0))) X21 hS hk20 C20 hZ (fun h => by rw [Bd.returns] at h; cases h) (fun fs hr => retN X21 hx (t := .char) Bd.returns (by simp) (B d48_71) (by rw [own_narc (own_lg own_okC ho22 hc19)]; exact hr)) e21 ⟨(own_C.getD x8.toNatClampNeg 0), rfl, N21, K20, hr24⟩ (by decide) (by decide)
        · skip
          refine step (fun _ => XS.icmpYes X0.here hx rfl (pc0 := 61) (pc' := 72) rfl (B d48_61) rfl (flt hc19).2.1 (by decide) (by decide)) ?_
          refine step (fun _ => XS.iload X0.here hx rfl (B d48_72) (by rw [hls18]; rfl)) ?_
          refine step (fun _ => XS.bipush X0.here hx rfl (B d48_74)) ?_
          refine step (fun _ => XS.isub X0.here hx rfl (B d48_76) rfl) ?_
          obtain ⟨ls25, hls25⟩ := own_sl #[vI p0, vI p1, vI p2, vI p3, vI p4, vI p5, vI ((x8 - (8 : Int32)))]
          refine step (fun _ => XS.istore X0.here hx rfl (B d48_77) rfl (l' := ls25) (by rw [hls18, hls25]; rfl)) ?_
          show G s₁ (mkF m 79 ls25 [])
          obtain ⟨x9, hx9⟩ : ∃ z : Int32, z = (x8 - (8 : Int32)) := ⟨_, rfl⟩
          obtain ⟨ls26, hls26⟩ := own_sl #[vI p0, vI p1, vI p2, vI p3, vI p4, vI p5, vI x9]
          rw [show ls25 = ls26 from by rw [hls25, hls26, hx9]]
          have ex9 : x9.toInt = x8.toInt - 8 := by
            have k8 : (8 : Int32).toInt = 8 := by decide
            rw [own_sb hx9 (by omega) (by omega), k8]
          refine step (fun _ => XS.iload X0.here hx rfl (B d48_79) (by rw [hls26]; rfl)) ?_
          by_cases hc27 : x9 = (0 : Int32)
          · skip
            refine step (fun _ => XS.ifNo X0.here hx rfl (B d48_81) rfl ((if0 _ _).trans (teq hc27).2)) ?_
            refine step (fun _ => XS.iload X0.here hx rfl (B d48_84) (by rw [hls26]; rfl)) ?_
            have hr28 : p4 = (own_txA p1 ds p4 p5).getD p0.toNatClampNeg 0 := by
              have k0 : (0 : Int32).toInt = 0 := by decide
              have k6 : (6 : Int32).toInt = 6 := by decide
              have k8 : (8 : Int32).toInt = 8 := by decide
              have g0 := hc1
              have g1 := hc5
              have g2 := hc13
              have g3 := hc19
              have g4 := hc27
              simp only [own_xlt, own_xeq] at g0 g1 g2 g3 g4
              rw [own_xT (i := p0) hp hdl (j := x8) (by omega) (by omega), own_tt (j := x8) (k := 8) (by omega)]
              rfl
            exact ret (v := some (.int p4)) X0 hS hk0 C0 hZ (fun h => by rw [Bd.returns] at h; cases h) (fun fs hr => retN X0 hx (t := .char) Bd.returns (by simp) (B d48_86) (by rw [own_narc hl4]; exact hr)) e0 ⟨p4, rfl, N0, K0, hr28⟩ (by decide) (by decide)
          · skip
            refine step (fun _ => XS.ifYes X0.here hx rfl (pc0 := 81) (pc' := 87) rfl (B d48_81) rfl ((if0 _ _).trans (feq hc27).2) (by decide) (by decide)) ?_
            refine step (fun _ => XS.iload X0.here hx rfl (B d48_87) (by rw [hls26]; rfl)) ?_
            refine step (fun _ => XS.iconst X0.here hx rfl (B d48_89)) ?_
            show G s₁ (mkF m 90 ls26 [(.int 1), (.int x9)])
            by_cases hc29 : x9 = (1 : Int32)
            · skip
              refine step (fun _ => XS.icmpNo X0.here hx rfl (B d48_90) rfl (teq hc29).2) ?_
              refine step (fun _ => XS.bipush X0.here hx rfl (B d48_93)) ?_
              show G s₁ (mkF m 95 ls26 [(.int 58)])
              have hr30 : (58 : Int32) = (own_txA p1 ds p4 p5).getD p0.toNatClampNeg 0 := by
                have k0 : (0 : Int32).toInt = 0 := by decide
                have k1 : (1 : Int32).toInt = 1 := by decide
                have k6 : (6 : Int32).toInt = 6 := by decide
                have k8 : (8 : Int32).toInt = 8 := by decide
                have g0 := hc1
                have g1 := hc5
                have g2 := hc13
                have g3 := hc19
                have g4 := hc27
                have g5 := hc29
                simp only [own_xlt, own_xeq] at g0 g1 g2 g3 g4 g5
                rw [own_xT (i := p0) hp hdl (j := x8) (by omega) (by omega), own_tt (j := x8) (k := 9) (by omega)]
                rfl
              exact ret (v := some (.int 58)) X0 hS hk0 C0 hZ (fun h => by rw [Bd.returns] at h; cases h) (fun fs hr => retN X0 hx (t := .char) Bd.returns (by simp) (B d48_95) hr) e0 ⟨(58 : Int32), rfl, N0, K0, hr30⟩ (by decide) (by decide)
            · skip
              refine step (fun _ => XS.icmpYes X0.here hx rfl (pc0 := 90) (pc' := 96) rfl (B d48_90) rfl (feq hc29).2 (by decide) (by decide)) ?_
              refine step (fun _ => XS.iload X0.here hx rfl (B d48_96) (by rw [hls26]; rfl)) ?_
              refine step (fun _ => XS.iconst X0.here hx rfl (B d48_98)) ?_
              by_cases hc31 : x9 = (2 : Int32)
              · skip
                refine step (fun _ => XS.icmpNo X0.here hx rfl (B d48_99) rfl (teq hc31).2) ?_
                refine step (fun _ => XS.bipush X0.here hx rfl (B d48_102)) ?_
                show G s₁ (mkF m 104 ls26 [(.int 32)])
                have hr32 : (32 : Int32) = (own_txA p1 ds p4 p5).getD p0.toNatClampNeg 0 := by
                  have k0 : (0 : Int32).toInt = 0 := by decide
                  have k1 : (1 : Int32).toInt = 1 := by decide
                  have k2 : (2 : Int32).toInt = 2 := by decide
                  have k6 : (6 : Int32).toInt = 6 := by decide
                  have k8 : (8 : Int32).toInt = 8 := by decide
                  have g0 := hc1
                  have g1 := hc5
                  have g2 := hc13
                  have g3 := hc19
                  have g4 := hc27
                  have g5 := hc29
                  have g6 := hc31
                  simp only [own_xlt, own_xeq] at g0 g1 g2 g3 g4 g5 g6
                  rw [own_xT (i := p0) hp hdl (j := x8) (by omega) (by omega), own_tt (j := x8) (k := 10) (by omega)]
                  rfl
                exact ret (v := some (.int 32)) X0 hS hk0 C0 hZ (fun h => by rw [Bd.returns] at h; cases h) (fun fs hr => retN X0 hx (t := .char) Bd.returns (by simp) (B d48_104) hr) e0 ⟨(32 : Int32), rfl, N0, K0, hr32⟩ (by decide) (by decide)
              · skip
                refine step (fun _ => XS.icmpYes X0.here hx rfl (pc0 := 99) (pc' := 105) rfl (B d48_99) rfl (feq hc31).2 (by decide) (by decide)) ?_
                refine step (fun _ => XS.iload X0.here hx rfl (B d48_105) (by rw [hls26]; rfl)) ?_
                have hr33 : p5 = (own_txA p1 ds p4 p5).getD p0.toNatClampNeg 0 := by
                  have k0 : (0 : Int32).toInt = 0 := by decide
                  have k1 : (1 : Int32).toInt = 1 := by decide
                  have k2 : (2 : Int32).toInt = 2 := by decide
                  have k6 : (6 : Int32).toInt = 6 := by decide
                  have k8 : (8 : Int32).toInt = 8 := by decide
                  have g0 := hc1
                  have g1 := hc5
                  have g2 := hc13
                  have g3 := hc19
                  have g4 := hc27
                  have g5 := hc29
                  have g6 := hc31
                  simp only [own_xlt, own_xeq] at g0 g1 g2 g3 g4 g5 g6
                  rw [own_xT (i := p0) hp hdl (j := x8) (by omega) (by omega), own_tt (j := x8) (k := 11) (by omega)]
                  rfl
                exact ret (v := some (.int p5)) X0 hS hk0 C0 hZ (fun h => by rw [Bd.returns] at h; cases h) (fun fs hr => retN X0 hx (t := .char) Bd.returns (by simp) (B d48_107) (by rw [own_narc hl5]; exact hr)) e0 ⟨p5, rfl, N0, K0, hr33⟩ (by decide) (by decide)
abbrev rr_xAN : Room := { frames := 2, cells := 0, slots := 0, locals := 27 }
theorem ef_xAN (m : MethodId) (p0 p1 p2 p3 p4 p5 : Int32) : entryFrame m #[(.int p0), (.int p1), (.int p2), (.int p3), (.int p4), (.int p5)] 7 = mkF m 0 #[vI p0, vI p1, vI p2, vI p3, vI p4, vI p5, u_] [] := by first | (simp [entryFrame, mkF, argsToLocals, Value.category]; done) | rfl
def Q_xAN (Z : State) (w_0 w_1 : Addr) (w_2 : Int32) (w_3 : Value) (p0 p1 p2 p3 p4 p5 : Int32) (ds : List Int32) (h0 : Heap) (n0 : Nat) (v : Option Value) (h : Heap) (L : List Loc) : Prop := ∃ r : Int32, v = some (.int r) ∧ Fr n0 L ∧ Keep h0 h [] ∧ r = (own_txA p1 ds p4 p5).getD p0.toNatClampNeg 0
theorem rm_xAN (l : Launch) (Z : State) (a0 : Array Value) (hw : HW Z a0) (ws : List Jvm.Cond) (w_0 w_1 : Addr) (w_2 : Int32) (w_3 : Value) (p0 p1 p2 p3 p4 p5 : Int32) (ds : List Int32) (h0 : Heap) (n0 : Nat) (Z0 : n0 ≤ h0.size) (ST : own_St Z w_0 w_1 w_2 w_3) (O0 : Old Z n0 h0) (hp : (0 : Int32) < p2) (hdl : own_dl p2 p3 ds) (hi : 0 ≤ p0.toInt ∧ p0.toInt < 19 + p3.toInt) (hl1 : ¬ p1 < 0 ∧ ¬ (255 : Int32) < p1) (hl4 : ¬ p4 < 0 ∧ ¬ (255 : Int32) < p4) (hl5 : ¬ p5 < 0 ∧ ¬ (255 : Int32) < p5) (hN : p0.toInt = 0 ∨ (7 ≤ p0.toInt ∧ (p0.toInt < 7 + p3.toInt ∨ 15 + p3.toInt ≤ p0.toInt))) :
    own_Met l y_48 method_4_code 7 (some .char) ws rr_xAN Z #[(.int p0), (.int p1), (.int p2), (.int p3), (.int p4), (.int p5)] h0 (Q_xAN Z w_0 w_1 w_2 w_3 p0 p1 p2 p3 p4 p5 ds h0 n0) := by
  refine MetFree.of_bodySF (plainFor_of_name pn_10) hisR ?_
  intro p e s m args below meth c s₁ Bd hml0 hP hK
  obtain ⟨rfl, hZ, hh⟩ := hP
  have hx := Bd.exec
  have hby := Bd.bytes
  have B := @hb _ _ hby
  have hml : c.maxLocals = 7 := hml0
  have hown : s.vm.findClass cn_3 = some m.cls := findClass_of_methodNamed Bd.named
  have X0 : Stand p l e rr_xAN s m #[(.int p0), (.int p1), (.int p2), (.int p3), (.int p4), (.int p5)] below meth c s₁ [] 0 0 := Stand.of_body Bd
  have e0 : s₁.heap = h0 := by rw [← hh, Bd.state]; rfl
  have N0 := Fr.nil n0
  have K0 : Keep h0 h0 [] := Keep.refl _ _
  obtain ⟨G, step, ret, fin⟩ := own_openX X0 (rr_xAN.cells) (rr_xAN.slots) (Q_xAN Z w_0 w_1 w_2 w_3 p0 p1 p2 p3 p4 p5 ds h0 n0) Bd.notSynchronized
  refine fin (g := entryFrame m #[(.int p0), (.int p1), (.int p2), (.int p3), (.int p4), (.int p5)] 7) ?_
  rw [ef_xAN m p0 p1 p2 p3 p4 p5]
  obtain ⟨ls0, hls0⟩ := own_sl #[vI p0, vI p1, vI p2, vI p3, vI p4, vI p5, u_]
  suffices hG0 : G s₁ (mkF m 0 ls0 []) by rw [hls0] at hG0; exact hG0
  refine step (fun _ => XS.iloadN X0.here hx rfl (B d48_0) (by rw [hls0]; rfl)) ?_
  by_cases hc1 : p0 = (0 : Int32)
  · skip
    refine step (fun _ => XS.ifNo X0.here hx rfl (B d48_1) rfl ((if0 _ _).trans (teq hc1).2)) ?_
    refine step (fun _ => XS.iloadN X0.here hx rfl (B d48_4) (by rw [hls0]; rfl)) ?_
    have hr2 : p1 = (own_txA p1 ds p4 p5).getD p0.toNatClampNeg 0 := by
      rw [hc1]
      rfl
    exact ret (v := some (.int p1)) X0 (fun h => by rw [Bd.returns] at h; cases h) (fun fs hr => retN X0 hx (t := .char) Bd.returns (by simp) (B d48_5) (by rw [own_narc hl1]; exact hr)) e0 ⟨p1, rfl, N0, K0, hr2⟩ (by decide) (by decide)
  · skip
    refine step (fun _ => XS.ifYes X0.here hx rfl (pc0 := 1) (pc' := 6) rfl (B d48_1) rfl ((if0 _ _).trans (feq hc1).2) (by decide) (by decide)) ?_
    refine step (fun _ => XS.iloadN X0.here hx rfl (B d48_6) (by rw [hls0]; rfl)) ?_
    refine step (fun _ => XS.iconst X0.here hx rfl (B d48_7)) ?_
    show G s₁ (mkF m 8 ls0 [(.int 1), (.int p0)])
    refine step (fun _ => XS.isub X0.here hx rfl (B d48_8) rfl) ?_
    obtain ⟨ls3, hls3⟩ := own_sl #[vI p0, vI p1, vI p2, vI p3, vI p4, vI p5, vI ((p0 - (1 : Int32)))]
    refine step (fun _ => XS.istore X0.here hx rfl (B d48_9) rfl (l' := ls3) (by rw [hls0, hls3]; rfl)) ?_
    have hd := own_dll hp hdl
    have nz : ¬ p0.toInt = 0 := fun z_ => hc1 (own_xeq.mpr (z_.trans (by decide)))
    obtain ⟨x6, hx6⟩ : ∃ z : Int32, z = (p0 - (1 : Int32)) := ⟨_, rfl⟩
    obtain ⟨ls4, hls4⟩ := own_sl #[vI p0, vI p1, vI p2, vI p3, vI p4, vI p5, vI x6]
    rw [show ls3 = ls4 from by rw [hls3, hls4, hx6]]
    have ex6 : x6.toInt = p0.toInt - 1 := by
      have k1 : (1 : Int32).toInt = 1 := by decide
      rw [own_sb hx6 (by omega) (by omega), k1]
    refine step (fun _ => XS.iloadN X0.here hx rfl (B d48_11) (by rw [hls4]; rfl)) ?_
    refine step (fun _ => XS.ifNo X0.here hx rfl (B d48_12) rfl ((if0 _ _).trans (tlt hp).2.2.2)) ?_
    refine step (fun _ => XS.iload X0.here hx rfl (B d48_15) (by rw [hls4]; rfl)) ?_
    refine step (fun _ => XS.bipush X0.here hx rfl (B d48_17)) ?_
    show G s₁ (mkF m 19 ls4 [(.int 6), (.int x6)])
    have ho5 : ¬ (x6 < (6 : Int32)) := by
      have k0 : (0 : Int32).toInt = 0 := by decide
      have k6 : (6 : Int32).toInt = 6 := by decide
      have g0 := hc1
      simp only [own_xlt, own_xeq] at g0
      rw [own_xlt]
      omega
    refine step (fun _ => XS.icmpYes X0.here hx rfl (pc0 := 19) (pc' := 30) rfl (B d48_19) rfl (flt ho5).2.1 (by decide) (by decide)) ?_
    refine step (fun _ => XS.iload X0.here hx rfl (B d48_30) (by rw [hls4]; rfl)) ?_
    refine step (fun _ => XS.bipush X0.here hx rfl (B d48_32)) ?_
    refine step (fun _ => XS.isub X0.here hx rfl (B d48_34) rfl) ?_
    obtain ⟨ls6, hls6⟩ := own_sl #[vI p0, vI p1, vI p2, vI p3, vI p4, vI p5, vI ((x6 - (6 : Int32)))]
    refine step (fun _ => XS.istore X0.here hx rfl (B d48_35) rfl (l' := ls6) (by rw [hls4, hls6]; rfl)) ?_
    obtain ⟨x7, hx7⟩ : ∃ z : Int32, z = (x6 - (6 : Int32)) := ⟨_, rfl⟩
    obtain ⟨ls7, hls7⟩ := own_sl #[vI p0, vI p1, vI p2, vI p3, vI p4, vI p5, vI x7]
    rw [show ls6 = ls7 from by rw [hls6, hls7, hx7]]
    have ex7 : x7.toInt = p0.toInt - 7 := by
      have k6 : (6 : Int32).toInt = 6 := by decide
      rw [own_sb hx7 (by omega) (by omega), k6, ex6]
      omega
    refine step (fun _ => XS.iload X0.here hx rfl (B d48_37) (by rw [hls7]; rfl)) ?_
    show G s₁ (mkF m 39 ls7 [(.int x7)])
    refine step (fun _ => XS.iloadN X0.here hx rfl (B d48_39) (by rw [hls7]; rfl)) ?_
    by_cases hc8 : x7 < p3
    · skip
      refine step (fun _ => XS.icmpNo X0.here hx rfl (B d48_40) rfl (tlt hc8).2.1) ?_
      refine step (fun _ => XS.iloadN X0.here hx rfl (B d48_43) (by rw [hls7]; rfl)) ?_
      refine step (fun _ => XS.iloadN X0.here hx rfl (B d48_44) (by rw [hls7]; rfl)) ?_
      refine step (fun _ => XS.iload X0.here hx rfl (B d48_45) (by rw [hls7]; rfl)) ?_
      have hK9 := (backOf (R := rr_xAN) (p := p) (e := e) (below := below) (s := s) (args := #[(.int p0), (.int p1), (.int p2), (.int p3), (.int p4), (.int p5)]) (len := 3) (W := 0) (rm_dt l Z a0 hw [] p2 p3 x7 h0 n0 (own_old_le O0) O0 (hp : (0 : Int32) < p2)) hZ (ww262 hw) (ww192 hw) (by decide) (by decide))
      obtain ⟨_, _, ⟨T9, L9, k9, n9⟩, -, X9, ⟨Lc9, hQ9, l9, y9, z9⟩, st9⟩ := Jvm.LawKit.callS X0 hx (y := y_47) hown (mvT hZ (ww260 hw)) (mvT hZ (ww261 hw)) (mvT hZ (ww192 hw)) (mvT hZ (ww262 hw)) (by decide) hK9 (g := (mkF m 47 ls7 [(.int x7), (.int p3), (.int p2)])) rfl (by rw [hml, hls7]; rfl) (argsL := [(.int p2), (.int p3), (.int x7)]) (rest := []) (lenOf pd_31 rfl) rfl (by show 2 * 0 + _ ≤ _; exact Nat.le_of_eq rfl) (B d48_47) (fun _ _ => ⟨rfl, e0, (by decide : 0 + 0 ≤ _), (by decide : 0 + 0 ≤ _)⟩)
      dsimp only [Pt.U, Pt.locs, Pt.cells, Pt.slots] at X9 l9 y9 z9 st9 hQ9
      subst l9 y9 z9
      obtain ⟨rfl, N9q, e9⟩ := hQ9
      have N9 := Fr.app N0 N9q
      obtain ⟨lc9, X9, N9⟩ := own_gen X9 N9
      refine step (fun t k => st9 t k) ?_
      have r10 : (f_dt p2 p3 x7) = ((48 : Int32) + ((p2 / (f_pow ((p3 - (1 : Int32)) - x7))) % (10 : Int32))) := rfl
      rw [r10]
      have hr11 : ((48 : Int32) + ((p2 / (f_pow ((p3 - (1 : Int32)) - x7))) % (10 : Int32))) = (own_txA p1 ds p4 p5).getD p0.toNatClampNeg 0 := by
        have k0 : (0 : Int32).toInt = 0 := by decide
        have g0 := hc1
        have g1 := hc8
        simp only [own_xlt, own_xeq] at g0 g1
        exact (own_dgk (k := x7) hdl (by omega) (by omega)).trans (own_xD (i := p0) (j := x7) hp hdl (by omega) (by omega) (by omega))
      exact ret (v := some (.int ((48 : Int32) + ((p2 / (f_pow ((p3 - (1 : Int32)) - x7))) % (10 : Int32))))) X9 (fun h => by rw [Bd.returns] at h; cases h) (fun fs hr => retN X9 hx (t := .char) Bd.returns (by simp) (B d48_50) (by rw [own_narc (own_dgl hp)]; exact hr)) e9 ⟨((48 : Int32) + ((p2 / (f_pow ((p3 - (1 : Int32)) - x7))) % (10 : Int32))), rfl, N9, K0, hr11⟩ (by decide) (by decide)
    · skip
      refine step (fun _ => XS.icmpYes X0.here hx rfl (pc0 := 40) (pc' := 51) rfl (B d48_40) rfl (flt hc8).2.1 (by decide) (by decide)) ?_
      refine step (fun _ => XS.iload X0.here hx rfl (B d48_51) (by rw [hls7]; rfl)) ?_
      refine step (fun _ => XS.iloadN X0.here hx rfl (B d48_53) (by rw [hls7]; rfl)) ?_
      refine step (fun _ => XS.isub X0.here hx rfl (B d48_54) rfl) ?_
      obtain ⟨ls12, hls12⟩ := own_sl #[vI p0, vI p1, vI p2, vI p3, vI p4, vI p5, vI ((x7 - p3))]
      refine step (fun _ => XS.istore X0.here hx rfl (B d48_55) rfl (l' := ls12) (by rw [hls7, hls12]; rfl)) ?_
      show G s₁ (mkF m 57 ls12 [])
      obtain ⟨x8, hx8⟩ : ∃ z : Int32, z = (x7 - p3) := ⟨_, rfl⟩
      obtain ⟨ls13, hls13⟩ := own_sl #[vI p0, vI p1, vI p2, vI p3, vI p4, vI p5, vI x8]
      rw [show ls12 = ls13 from by rw [hls12, hls13, hx8]]
      have ex8 : x8.toInt = p0.toInt - 7 - p3.toInt := by
        rw [own_sb hx8 (by omega) (by omega), ex7]
      refine step (fun _ => XS.iload X0.here hx rfl (B d48_57) (by rw [hls13]; rfl)) ?_
      refine step (fun _ => XS.bipush X0.here hx rfl (B d48_59)) ?_
      show G s₁ (mkF m 61 ls13 [(.int 8), (.int x8)])
      have ho14 : ¬ (x8 < (8 : Int32)) := by
        have k0 : (0 : Int32).toInt = 0 := by decide
        have k8 : (8 : Int32).toInt = 8 := by decide
        have g0 := hc1
        have g1 := hc8
        simp only [own_xlt, own_xeq] at g0 g1
        rw [own_xlt]
        omega
      refine step (fun _ => XS.icmpYes X0.here hx rfl (pc0 := 61) (pc' := 72) rfl (B d48_61) rfl (flt ho14).2.1 (by decide) (by decide)) ?_
      refine step (fun _ => XS.iload X0.here hx rfl (B d48_72) (by rw [hls13]; rfl)) ?_
      refine step (fun _ => XS.bipush X0.here hx rfl (B d48_74)) ?_
      refine step (fun _ => XS.isub X0.here hx rfl (B d48_76) rfl) ?_
      obtain ⟨ls15, hls15⟩ := own_sl #[vI p0, vI p1, vI p2, vI p3, vI p4, vI p5, vI ((x8 - (8 : Int32)))]
      refine step (fun _ => XS.istore X0.here hx rfl (B d48_77) rfl (l' := ls15) (by rw [hls13, hls15]; rfl)) ?_
      obtain ⟨x9, hx9⟩ : ∃ z : Int32, z = (x8 - (8 : Int32)) := ⟨_, rfl⟩
      obtain ⟨ls16, hls16⟩ := own_sl #[vI p0, vI p1, vI p2, vI p3, vI p4, vI p5, vI x9]
      rw [show ls15 = ls16 from by rw [hls15, hls16, hx9]]
      have ex9 : x9.toInt = x8.toInt - 8 := by
        have k8 : (8 : Int32).toInt = 8 := by decide
        rw [own_sb hx9 (by omega) (by omega), k8]
      refine step (fun _ => XS.iload X0.here hx rfl (B d48_79) (by rw [hls16]; rfl)) ?_
      show G s₁ (mkF m 81 ls16 [(.int x9)])
      by_cases hc17 : x9 = (0 : Int32)
      · skip
        refine step (fun _ => XS.ifNo X0.here hx rfl (B d48_81) rfl ((if0 _ _).trans (teq hc17).2)) ?_
        refine step (fun _ => XS.iload X0.here hx rfl (B d48_84) (by rw [hls16]; rfl)) ?_
        have hr18 : p4 = (own_txA p1 ds p4 p5).getD p0.toNatClampNeg 0 := by
          have k0 : (0 : Int32).toInt = 0 := by decide
          have g0 := hc1
          have g1 := hc8
          have g2 := hc17
          simp only [own_xlt, own_xeq] at g0 g1 g2
          rw [own_xT (i := p0) hp hdl (j := x8) (by omega) (by omega), own_tt (j := x8) (k := 8) (by omega)]
          rfl
        exact ret (v := some (.int p4)) X0 (fun h => by rw [Bd.returns] at h; cases h) (fun fs hr => retN X0 hx (t := .char) Bd.returns (by simp) (B d48_86) (by rw [own_narc hl4]; exact hr)) e0 ⟨p4, rfl, N0, K0, hr18⟩ (by decide) (by decide)
      · skip
        refine step (fun _ => XS.ifYes X0.here hx rfl (pc0 := 81) (pc' := 87) rfl (B d48_81) rfl ((if0 _ _).trans (feq hc17).2) (by decide) (by decide)) ?_
        refine step (fun _ => XS.iload X0.here hx rfl (B d48_87) (by rw [hls16]; rfl)) ?_
        refine step (fun _ => XS.iconst X0.here hx rfl (B d48_89)) ?_
        by_cases hc19 : x9 = (1 : Int32)
        · skip
          refine step (fun _ => XS.icmpNo X0.here hx rfl (B d48_90) rfl (teq hc19).2) ?_
          show G s₁ (mkF m 93 ls16 [])
          refine step (fun _ => XS.bipush X0.here hx rfl (B d48_93)) ?_
          show G s₁ (mkF m 95 ls16 [(.int 58)])
          have hr20 : (58 : Int32) = (own_txA p1 ds p4 p5).getD p0.toNatClampNeg 0 := by
            have k0 : (0 : Int32).toInt = 0 := by decide
            have k1 : (1 : Int32).toInt = 1 := by decide
            have g0 := hc1
            have g1 := hc8
            have g2 := hc17
            have g3 := hc19
            simp only [own_xlt, own_xeq] at g0 g1 g2 g3
            rw [own_xT (i := p0) hp hdl (j := x8) (by omega) (by omega), own_tt (j := x8) (k := 9) (by omega)]
            rfl
          exact ret (v := some (.int 58)) X0 (fun h => by rw [Bd.returns] at h; cases h) (fun fs hr => retN X0 hx (t := .char) Bd.returns (by simp) (B d48_95) hr) e0 ⟨(58 : Int32), rfl, N0, K0, hr20⟩ (by decide) (by decide)
        · skip
          refine step (fun _ => XS.icmpYes X0.here hx rfl (pc0 := 90) (pc' := 96) rfl (B d48_90) rfl (feq hc19).2 (by decide) (by decide)) ?_
          refine step (fun _ => XS.iload X0.here hx rfl (B d48_96) (by rw [hls16]; rfl)) ?_
          refine step (fun _ => XS.iconst X0.here hx rfl (B d48_98)) ?_
          by_cases hc21 : x9 = (2 : Int32)
          · skip
            refine step (fun _ => XS.icmpNo X0.here hx rfl (B d48_99) rfl (teq hc21).2) ?_
            refine step (fun _ => XS.bipush X0.here hx rfl (B d48_102)) ?_
            show G s₁ (mkF m 104 ls16 [(.int 32)])
            have hr22 : (32 : Int32) = (own_txA p1 ds p4 p5).getD p0.toNatClampNeg 0 := by
              have k0 : (0 : Int32).toInt = 0 := by decide
              have k1 : (1 : Int32).toInt = 1 := by decide
              have k2 : (2 : Int32).toInt = 2 := by decide
              have g0 := hc1
              have g1 := hc8
              have g2 := hc17
              have g3 := hc19
              have g4 := hc21
              simp only [own_xlt, own_xeq] at g0 g1 g2 g3 g4
              rw [own_xT (i := p0) hp hdl (j := x8) (by omega) (by omega), own_tt (j := x8) (k := 10) (by omega)]
              rfl
            exact ret (v := some (.int 32)) X0 (fun h => by rw [Bd.returns] at h; cases h) (fun fs hr => retN X0 hx (t := .char) Bd.returns (by simp) (B d48_104) hr) e0 ⟨(32 : Int32), rfl, N0, K0, hr22⟩ (by decide) (by decide)
          · skip
            refine step (fun _ => XS.icmpYes X0.here hx rfl (pc0 := 99) (pc' := 105) rfl (B d48_99) rfl (feq hc21).2 (by decide) (by decide)) ?_
            refine step (fun _ => XS.iload X0.here hx rfl (B d48_105) (by rw [hls16]; rfl)) ?_
            have hr23 : p5 = (own_txA p1 ds p4 p5).getD p0.toNatClampNeg 0 := by
              have k0 : (0 : Int32).toInt = 0 := by decide
              have k1 : (1 : Int32).toInt = 1 := by decide
              have k2 : (2 : Int32).toInt = 2 := by decide
              have g0 := hc1
              have g1 := hc8
              have g2 := hc17
              have g3 := hc19
              have g4 := hc21
              simp only [own_xlt, own_xeq] at g0 g1 g2 g3 g4
              rw [own_xT (i := p0) hp hdl (j := x8) (by omega) (by omega), own_tt (j := x8) (k := 11) (by omega)]
              rfl
            exact ret (v := some (.int p5)) X0 (fun h => by rw [Bd.returns] at h; cases h) (fun fs hr => retN X0 hx (t := .char) Bd.returns (by simp) (B d48_107) (by rw [own_narc hl5]; exact hr)) e0 ⟨p5, rfl, N0, K0, hr23⟩ (by decide) (by decide)
abbrev rr_xBL : Room := { frames := 4, cells := 2, slots := 36, locals := 53 }
theorem ef_xBL (m : MethodId) (p0 p1 p2 p3 p4 p5 : Int32) : entryFrame m #[(.int p0), (.int p1), (.int p2), (.int p3), (.int p4), (.int p5)] 7 = mkF m 0 #[vI p0, vI p1, vI p2, vI p3, vI p4, vI p5, u_] [] := by first | (simp [entryFrame, mkF, argsToLocals, Value.category]; done) | rfl
def Q_xBL (Z : State) (w_0 w_1 : Addr) (w_2 : Int32) (w_3 : Value) (p0 p1 p2 p3 p4 p5 : Int32) (h0 : Heap) (n0 : Nat) (v : Option Value) (h : Heap) (L : List Loc) : Prop := ∃ r : Int32, v = some (.int r) ∧ Fr n0 L ∧ Keep h0 h [] ∧ r = (own_txB p1 p4 p5).getD p0.toNatClampNeg 0
theorem rm_xBL (l : Launch) (Z : State) (a0 : Array Value) (hw : HW Z a0) (ws : List Jvm.Cond) (w_0 w_1 : Addr) (w_2 : Int32) (w_3 : Value) (p0 p1 p2 p3 p4 p5 : Int32) (h0 : Heap) (n0 : Nat) (Z0 : n0 ≤ h0.size) (ST : own_St Z w_0 w_1 w_2 w_3) (O0 : Old Z n0 h0) (hp : ¬ ((0 : Int32) < p2)) (hi : 0 ≤ p0.toInt ∧ p0.toInt < 13) (hl1 : ¬ p1 < 0 ∧ ¬ (255 : Int32) < p1) (hl4 : ¬ p4 < 0 ∧ ¬ (255 : Int32) < p4) (hl5 : ¬ p5 < 0 ∧ ¬ (255 : Int32) < p5) :
    MetFree l y_48 (head1 (Jvm.Cond.code y_48 method_4_code 7 (some .char) :: ws) rr_xBL) (fun a U => a = #[(.int p0), (.int p1), (.int p2), (.int p3), (.int p4), (.int p5)] ∧ Z.Warmed39 U.vm ∧ U.heap = h0 ∧ CHv Z own_EL U.vm h0) (fun _ _ _ _ _ => True) (fun _ U o U' => ∃ v L, o = .returned v ∧ Q_xBL Z w_0 w_1 w_2 w_3 p0 p1 p2 p3 p4 p5 h0 n0 v U'.heap L ∧ CHr Z own_EL U.vm U.heap U'.vm U'.heap ∧ ReturnedEndW U o U' L rr_xBL.cells rr_xBL.slots) := by
  refine MetFree.of_bodySF (plainFor_of_name pn_10) hisR ?_
  intro p e s m args below meth c s₁ Bd hml0 hP hK
  obtain ⟨rfl, hZ, hh, hC⟩ := hP
  have hx := Bd.exec
  have hby := Bd.bytes
  have B := @hb _ _ hby
  have hml : c.maxLocals = 7 := hml0
  have hown : s.vm.findClass cn_3 = some m.cls := findClass_of_methodNamed Bd.named
  have X0 : Stand p l e rr_xBL (s.setVm s.vm) m #[(.int p0), (.int p1), (.int p2), (.int p3), (.int p4), (.int p5)] below meth c s₁ [] 0 0 := Stand.of_body Bd
  have e0 : s₁.heap = h0 := by rw [← hh, Bd.state]; rfl
  have N0 := Fr.nil n0
  replace hZ : Z.Warmed39 (s.setVm s.vm).vm := hZ
  replace hown : (s.setVm s.vm).vm.findClass cn_3 = some m.cls := hown
  have hS : s.Since s.vm h0.size := (State.WarmedH.refl s).since _
  have hk0 : h0.size ≤ h0.size := Nat.le_refl _
  have C0 : CHr Z own_EL s.vm h0 s.vm h0 := CHr.refl hC
  have K0 : Keep h0 h0 [] := Keep.refl _ _
  obtain ⟨G, step, ret, fin⟩ := own_openHX X0 (rr_xBL.cells) (rr_xBL.slots) (Q_xBL Z w_0 w_1 w_2 w_3 p0 p1 p2 p3 p4 p5 h0 n0) (own_EW hw) hh Bd.notSynchronized
  refine fin (g := entryFrame m #[(.int p0), (.int p1), (.int p2), (.int p3), (.int p4), (.int p5)] 7) ?_
  rw [ef_xBL m p0 p1 p2 p3 p4 p5]
  obtain ⟨ls0, hls0⟩ := own_sl #[vI p0, vI p1, vI p2, vI p3, vI p4, vI p5, u_]
  suffices hG0 : G s₁ (mkF m 0 ls0 []) by rw [hls0] at hG0; exact hG0
  refine step (fun _ => XS.iloadN X0.here hx rfl (B d48_0) (by rw [hls0]; rfl)) ?_
  by_cases hc1 : p0 = (0 : Int32)
  · skip
    refine step (fun _ => XS.ifNo X0.here hx rfl (B d48_1) rfl ((if0 _ _).trans (teq hc1).2)) ?_
    refine step (fun _ => XS.iloadN X0.here hx rfl (B d48_4) (by rw [hls0]; rfl)) ?_
    have hr2 : p1 = (own_txB p1 p4 p5).getD p0.toNatClampNeg 0 := by
      rw [hc1]
      rfl
    exact ret (v := some (.int p1)) X0 hS hk0 C0 hZ (fun h => by rw [Bd.returns] at h; cases h) (fun fs hr => retN X0 hx (t := .char) Bd.returns (by simp) (B d48_5) (by rw [own_narc hl1]; exact hr)) e0 ⟨p1, rfl, N0, K0, hr2⟩ (by decide) (by decide)
  · skip
    refine step (fun _ => XS.ifYes X0.here hx rfl (pc0 := 1) (pc' := 6) rfl (B d48_1) rfl ((if0 _ _).trans (feq hc1).2) (by decide) (by decide)) ?_
    refine step (fun _ => XS.iloadN X0.here hx rfl (B d48_6) (by rw [hls0]; rfl)) ?_
    refine step (fun _ => XS.iconst X0.here hx rfl (B d48_7)) ?_
    show G s₁ (mkF m 8 ls0 [(.int 1), (.int p0)])
    refine step (fun _ => XS.isub X0.here hx rfl (B d48_8) rfl) ?_
    obtain ⟨ls3, hls3⟩ := own_sl #[vI p0, vI p1, vI p2, vI p3, vI p4, vI p5, vI ((p0 - (1 : Int32)))]
    refine step (fun _ => XS.istore X0.here hx rfl (B d48_9) rfl (l' := ls3) (by rw [hls0, hls3]; rfl)) ?_
    have nz : ¬ p0.toInt = 0 := fun z_ => hc1 (own_xeq.mpr (z_.trans (by decide)))
    obtain ⟨x6, hx6⟩ : ∃ z : Int32, z = (p0 - (1 : Int32)) := ⟨_, rfl⟩
    obtain ⟨ls4, hls4⟩ := own_sl #[vI p0, vI p1, vI p2, vI p3, vI p4, vI p5, vI x6]
    rw [show ls3 = ls4 from by rw [hls3, hls4, hx6]]
    have ex6 : x6.toInt = p0.toInt - 1 := by
      have k1 : (1 : Int32).toInt = 1 := by decide
      rw [own_sb hx6 (by omega) (by omega), k1]
    refine step (fun _ => XS.iloadN X0.here hx rfl (B d48_11) (by rw [hls4]; rfl)) ?_
    refine step (fun _ => XS.ifYes X0.here hx rfl (pc0 := 12) (pc' := 57) rfl (B d48_12) rfl ((if0 _ _).trans (flt hp).2.2.2) (by decide) (by decide)) ?_
    refine step (fun _ => XS.iload X0.here hx rfl (B d48_57) (by rw [hls4]; rfl)) ?_
    refine step (fun _ => XS.bipush X0.here hx rfl (B d48_59)) ?_
    show G s₁ (mkF m 61 ls4 [(.int 8), (.int x6)])
    by_cases hc5 : x6 < (8 : Int32)
    · skip
      refine step (fun _ => XS.icmpNo X0.here hx rfl (B d48_61) rfl (tlt hc5).2.1) ?_
      obtain ⟨b6, T6, h6, k6, t6, kk6, X6, e6, E6, hS, hk6, hZ, hown, Ex6, Fc6, Fv6, Va6, -, -, hC6, -, hne6, st6⟩ := ldcCH (s := s) X0 hx hZ hown (ww218 hw) (own_wS hw) e0 hS hk0 (own_EW hw) (List.mem_of_getElem? (i := 5) rfl) C0.1 own_eC (z := (8 : Int32)) (by decide) rfl (g := (mkF m 64 ls4 [])) rfl (B d48_64) (n := 32) (by decide +kernel) (by decide) (by decide) (by decide)
      have cz6 : CHr Z own_EL s.vm h0 T6.vm h6 := hC6
      have C6 : CHr Z own_EL s.vm h0 T6.vm h6 := C0.trans cz6
      have O6 := O0.ext E6
      have K6 : Keep h0 h6 [] := K0.ext E6
      refine step st6 ?_
      refine step (fun _ => XS.iload X6.here hx rfl (B d48_66) (by rw [hls4]; rfl)) ?_
      have ho8 : ¬ (x6 < (0 : Int32)) := by
        have k0 : (0 : Int32).toInt = 0 := by decide
        have k8 : (8 : Int32).toInt = 8 := by decide
        have g0 := hc1
        have g1 := hc5
        simp only [own_xlt, own_xeq] at g0 g1
        rw [own_xlt]
        omega
      have hK7 := (backOf (R := rr_xBL) (p := p) (e := e) (below := below) (args := #[(.int p0), (.int p1), (.int p2), (.int p3), (.int p4), (.int p5)]) (len := 3) (W := 0) (rm_ch l Z a0 hw [] w_0 w_1 w_2 w_3 b6 x6 t6 kk6 (8 : Int32) own_C h6 n0 (own_old_le O6) ST O6 Ex6 Fv6 Fc6 Va6 own_okC (ho8 : ¬ (x6 < (0 : Int32))) (hc5 : x6 < (8 : Int32))) hZ (ww198 hw) (ww2 hw) (by decide) (by decide))
      obtain ⟨cq7, kq7, q7a, q7b, q7c⟩ := isOf hZ e6 Ex6
      obtain ⟨_, _, ⟨T7, L7, k7, n7⟩, -, X7, ⟨Lc7, hQ7, l7, y7, z7⟩, st7⟩ := X6.virtualBack hx (y := y_10) (z := y_10) hown (mvT hZ (ww194 hw)) (mvT hZ (ww195 hw)) (notFace_of_selects (args := #[]) (mvT hZ (ww197 hw))) (mvT hZ (ww197 hw)) (mvT hZ (ww196 hw)) (by decide) hK7 q7a q7c (g := (mkF m 68 ls4 [(.int x6), (.ref b6)])) rfl (by rw [hml, hls4]; rfl) (Steps.refl _) (argsL := [(.int x6)]) (rest := []) (lenOf pd_30 rfl) rfl (by show 2 * 0 + _ ≤ _; exact Nat.le_of_eq rfl) (B d48_68) (fun _ _ => ⟨rfl, e6, (by decide : 2 + 0 ≤ _), (by decide : 36 + 0 ≤ _)⟩)
      dsimp only [Pt.U, Pt.locs, Pt.cells, Pt.slots] at X7 l7 y7 z7 st7 hQ7
      subst l7 y7 z7
      obtain ⟨rfl, N7q, e7⟩ := hQ7
      have N7 := Fr.app N0 N7q
      obtain ⟨lc7, X7, N7⟩ := own_gen X7 N7
      refine step (fun t k => st7.trans k) ?_
      have r9 : (f_ch w_0 w_1 w_2 w_3 b6 x6 t6 kk6 (8 : Int32) own_C) = (own_C.getD x6.toNatClampNeg 0) := rfl
      rw [r9]
      have hr10 : (own_C.getD x6.toNatClampNeg 0) = (own_txB p1 p4 p5).getD p0.toNatClampNeg 0 := by
        have k0 : (0 : Int32).toInt = 0 := by decide
        have k8 : (8 : Int32).toInt = 8 := by decide
        have g0 := hc1
        have g1 := hc5
        simp only [own_xlt, own_xeq] at g0 g1
        rw [own_xU (j := x6) (by omega) (by omega)]
        exact own_tC (by omega) (by omega)
      exact ret (v := some (.int (own_C.getD x6.toNatClampNeg 0))) X7 hS hk6 C6 hZ (fun h => by rw [Bd.returns] at h; cases h) (fun fs hr => retN X7 hx (t := .char) Bd.returns (by simp) (B d48_71) (by rw [own_narc (own_lg own_okC ho8 hc5)]; exact hr)) e7 ⟨(own_C.getD x6.toNatClampNeg 0), rfl, N7, K6, hr10⟩ (by decide) (by decide)
    · skip
      refine step (fun _ => XS.icmpYes X0.here hx rfl (pc0 := 61) (pc' := 72) rfl (B d48_61) rfl (flt hc5).2.1 (by decide) (by decide)) ?_
      refine step (fun _ => XS.iload X0.here hx rfl (B d48_72) (by rw [hls4]; rfl)) ?_
      refine step (fun _ => XS.bipush X0.here hx rfl (B d48_74)) ?_
      refine step (fun _ => XS.isub X0.here hx rfl (B d48_76) rfl) ?_
      obtain ⟨ls11, hls11⟩ := own_sl #[vI p0, vI p1, vI p2, vI p3, vI p4, vI p5, vI ((x6 - (8 : Int32)))]
      refine step (fun _ => XS.istore X0.here hx rfl (B d48_77) rfl (l' := ls11) (by rw [hls4, hls11]; rfl)) ?_
      show G s₁ (mkF m 79 ls11 [])
      obtain ⟨x9, hx9⟩ : ∃ z : Int32, z = (x6 - (8 : Int32)) := ⟨_, rfl⟩
      obtain ⟨ls12, hls12⟩ := own_sl #[vI p0, vI p1, vI p2, vI p3, vI p4, vI p5, vI x9]
      rw [show ls11 = ls12 from by rw [hls11, hls12, hx9]]
      have ex9 : x9.toInt = x6.toInt - 8 := by
        have k8 : (8 : Int32).toInt = 8 := by decide
        rw [own_sb hx9 (by omega) (by omega), k8]
      refine step (fun _ => XS.iload X0.here hx rfl (B d48_79) (by rw [hls12]; rfl)) ?_
      by_cases hc13 : x9 = (0 : Int32)
      · skip
        refine step (fun _ => XS.ifNo X0.here hx rfl (B d48_81) rfl ((if0 _ _).trans (teq hc13).2)) ?_
        refine step (fun _ => XS.iload X0.here hx rfl (B d48_84) (by rw [hls12]; rfl)) ?_
        have hr14 : p4 = (own_txB p1 p4 p5).getD p0.toNatClampNeg 0 := by
          have k0 : (0 : Int32).toInt = 0 := by decide
          have k8 : (8 : Int32).toInt = 8 := by decide
          have g0 := hc1
          have g1 := hc5
          have g2 := hc13
          simp only [own_xlt, own_xeq] at g0 g1 g2
          rw [own_xU (j := x6) (by omega) (by omega), own_tt (j := x6) (k := 8) (by omega)]
          rfl
        exact ret (v := some (.int p4)) X0 hS hk0 C0 hZ (fun h => by rw [Bd.returns] at h; cases h) (fun fs hr => retN X0 hx (t := .char) Bd.returns (by simp) (B d48_86) (by rw [own_narc hl4]; exact hr)) e0 ⟨p4, rfl, N0, K0, hr14⟩ (by decide) (by decide)
      · skip
        refine step (fun _ => XS.ifYes X0.here hx rfl (pc0 := 81) (pc' := 87) rfl (B d48_81) rfl ((if0 _ _).trans (feq hc13).2) (by decide) (by decide)) ?_
        refine step (fun _ => XS.iload X0.here hx rfl (B d48_87) (by rw [hls12]; rfl)) ?_
        refine step (fun _ => XS.iconst X0.here hx rfl (B d48_89)) ?_
        show G s₁ (mkF m 90 ls12 [(.int 1), (.int x9)])
        by_cases hc15 : x9 = (1 : Int32)
        · skip
          refine step (fun _ => XS.icmpNo X0.here hx rfl (B d48_90) rfl (teq hc15).2) ?_
          refine step (fun _ => XS.bipush X0.here hx rfl (B d48_93)) ?_
          show G s₁ (mkF m 95 ls12 [(.int 58)])
          have hr16 : (58 : Int32) = (own_txB p1 p4 p5).getD p0.toNatClampNeg 0 := by
            have k0 : (0 : Int32).toInt = 0 := by decide
            have k1 : (1 : Int32).toInt = 1 := by decide
            have k8 : (8 : Int32).toInt = 8 := by decide
            have g0 := hc1
            have g1 := hc5
            have g2 := hc13
            have g3 := hc15
            simp only [own_xlt, own_xeq] at g0 g1 g2 g3
            rw [own_xU (j := x6) (by omega) (by omega), own_tt (j := x6) (k := 9) (by omega)]
            rfl
          exact ret (v := some (.int 58)) X0 hS hk0 C0 hZ (fun h => by rw [Bd.returns] at h; cases h) (fun fs hr => retN X0 hx (t := .char) Bd.returns (by simp) (B d48_95) hr) e0 ⟨(58 : Int32), rfl, N0, K0, hr16⟩ (by decide) (by decide)
        · skip
          refine step (fun _ => XS.icmpYes X0.here hx rfl (pc0 := 90) (pc' := 96) rfl (B d48_90) rfl (feq hc15).2 (by decide) (by decide)) ?_
          refine step (fun _ => XS.iload X0.here hx rfl (B d48_96) (by rw [hls12]; rfl)) ?_
          refine step (fun _ => XS.iconst X0.here hx rfl (B d48_98)) ?_
          by_cases hc17 : x9 = (2 : Int32)
          · skip
            refine step (fun _ => XS.icmpNo X0.here hx rfl (B d48_99) rfl (teq hc17).2) ?_
            refine step (fun _ => XS.bipush X0.here hx rfl (B d48_102)) ?_
            show G s₁ (mkF m 104 ls12 [(.int 32)])
            have hr18 : (32 : Int32) = (own_txB p1 p4 p5).getD p0.toNatClampNeg 0 := by
              have k0 : (0 : Int32).toInt = 0 := by decide
              have k1 : (1 : Int32).toInt = 1 := by decide
              have k2 : (2 : Int32).toInt = 2 := by decide
              have k8 : (8 : Int32).toInt = 8 := by decide
              have g0 := hc1
              have g1 := hc5
              have g2 := hc13
              have g3 := hc15
              have g4 := hc17
              simp only [own_xlt, own_xeq] at g0 g1 g2 g3 g4
              rw [own_xU (j := x6) (by omega) (by omega), own_tt (j := x6) (k := 10) (by omega)]
              rfl
            exact ret (v := some (.int 32)) X0 hS hk0 C0 hZ (fun h => by rw [Bd.returns] at h; cases h) (fun fs hr => retN X0 hx (t := .char) Bd.returns (by simp) (B d48_104) hr) e0 ⟨(32 : Int32), rfl, N0, K0, hr18⟩ (by decide) (by decide)
          · skip
            refine step (fun _ => XS.icmpYes X0.here hx rfl (pc0 := 99) (pc' := 105) rfl (B d48_99) rfl (feq hc17).2 (by decide) (by decide)) ?_
            refine step (fun _ => XS.iload X0.here hx rfl (B d48_105) (by rw [hls12]; rfl)) ?_
            have hr19 : p5 = (own_txB p1 p4 p5).getD p0.toNatClampNeg 0 := by
              have k0 : (0 : Int32).toInt = 0 := by decide
              have k1 : (1 : Int32).toInt = 1 := by decide
              have k2 : (2 : Int32).toInt = 2 := by decide
              have k8 : (8 : Int32).toInt = 8 := by decide
              have g0 := hc1
              have g1 := hc5
              have g2 := hc13
              have g3 := hc15
              have g4 := hc17
              simp only [own_xlt, own_xeq] at g0 g1 g2 g3 g4
              rw [own_xU (j := x6) (by omega) (by omega), own_tt (j := x6) (k := 11) (by omega)]
              rfl
            exact ret (v := some (.int p5)) X0 hS hk0 C0 hZ (fun h => by rw [Bd.returns] at h; cases h) (fun fs hr => retN X0 hx (t := .char) Bd.returns (by simp) (B d48_107) (by rw [own_narc hl5]; exact hr)) e0 ⟨p5, rfl, N0, K0, hr19⟩ (by decide) (by decide)
abbrev rr_xBN : Room := { frames := 0, cells := 0, slots := 0, locals := 0 }
theorem ef_xBN (m : MethodId) (p0 p1 p2 p3 p4 p5 : Int32) : entryFrame m #[(.int p0), (.int p1), (.int p2), (.int p3), (.int p4), (.int p5)] 7 = mkF m 0 #[vI p0, vI p1, vI p2, vI p3, vI p4, vI p5, u_] [] := by first | (simp [entryFrame, mkF, argsToLocals, Value.category]; done) | rfl
def Q_xBN (Z : State) (w_0 w_1 : Addr) (w_2 : Int32) (w_3 : Value) (p0 p1 p2 p3 p4 p5 : Int32) (h0 : Heap) (n0 : Nat) (v : Option Value) (h : Heap) (L : List Loc) : Prop := ∃ r : Int32, v = some (.int r) ∧ Fr n0 L ∧ Keep h0 h [] ∧ r = (own_txB p1 p4 p5).getD p0.toNatClampNeg 0
theorem rm_xBN (l : Launch) (Z : State) (a0 : Array Value) (hw : HW Z a0) (ws : List Jvm.Cond) (w_0 w_1 : Addr) (w_2 : Int32) (w_3 : Value) (p0 p1 p2 p3 p4 p5 : Int32) (h0 : Heap) (n0 : Nat) (Z0 : n0 ≤ h0.size) (ST : own_St Z w_0 w_1 w_2 w_3) (O0 : Old Z n0 h0) (hp : ¬ ((0 : Int32) < p2)) (hi : 0 ≤ p0.toInt ∧ p0.toInt < 13) (hl1 : ¬ p1 < 0 ∧ ¬ (255 : Int32) < p1) (hl4 : ¬ p4 < 0 ∧ ¬ (255 : Int32) < p4) (hl5 : ¬ p5 < 0 ∧ ¬ (255 : Int32) < p5) (hN : p0.toInt = 0 ∨ 9 ≤ p0.toInt) :
    own_Met l y_48 method_4_code 7 (some .char) ws rr_xBN Z #[(.int p0), (.int p1), (.int p2), (.int p3), (.int p4), (.int p5)] h0 (Q_xBN Z w_0 w_1 w_2 w_3 p0 p1 p2 p3 p4 p5 h0 n0) := by
  refine MetFree.of_bodySF (plainFor_of_name pn_10) hisR ?_
  intro p e s m args below meth c s₁ Bd hml0 hP hK
  obtain ⟨rfl, hZ, hh⟩ := hP
  have hx := Bd.exec
  have hby := Bd.bytes
  have B := @hb _ _ hby
  have hml : c.maxLocals = 7 := hml0
  have hown : s.vm.findClass cn_3 = some m.cls := findClass_of_methodNamed Bd.named
  have X0 : Stand p l e rr_xBN s m #[(.int p0), (.int p1), (.int p2), (.int p3), (.int p4), (.int p5)] below meth c s₁ [] 0 0 := Stand.of_body Bd
  have e0 : s₁.heap = h0 := by rw [← hh, Bd.state]; rfl
  have N0 := Fr.nil n0
  have K0 : Keep h0 h0 [] := Keep.refl _ _
  obtain ⟨G, step, ret, fin⟩ := own_openX X0 (rr_xBN.cells) (rr_xBN.slots) (Q_xBN Z w_0 w_1 w_2 w_3 p0 p1 p2 p3 p4 p5 h0 n0) Bd.notSynchronized
  refine fin (g := entryFrame m #[(.int p0), (.int p1), (.int p2), (.int p3), (.int p4), (.int p5)] 7) ?_
  rw [ef_xBN m p0 p1 p2 p3 p4 p5]
  obtain ⟨ls0, hls0⟩ := own_sl #[vI p0, vI p1, vI p2, vI p3, vI p4, vI p5, u_]
  suffices hG0 : G s₁ (mkF m 0 ls0 []) by rw [hls0] at hG0; exact hG0
  refine step (fun _ => XS.iloadN X0.here hx rfl (B d48_0) (by rw [hls0]; rfl)) ?_
  by_cases hc1 : p0 = (0 : Int32)
  · skip
    refine step (fun _ => XS.ifNo X0.here hx rfl (B d48_1) rfl ((if0 _ _).trans (teq hc1).2)) ?_
    refine step (fun _ => XS.iloadN X0.here hx rfl (B d48_4) (by rw [hls0]; rfl)) ?_
    have hr2 : p1 = (own_txB p1 p4 p5).getD p0.toNatClampNeg 0 := by
      rw [hc1]
      rfl
    exact ret (v := some (.int p1)) X0 (fun h => by rw [Bd.returns] at h; cases h) (fun fs hr => retN X0 hx (t := .char) Bd.returns (by simp) (B d48_5) (by rw [own_narc hl1]; exact hr)) e0 ⟨p1, rfl, N0, K0, hr2⟩ (by decide) (by decide)
  · skip
    refine step (fun _ => XS.ifYes X0.here hx rfl (pc0 := 1) (pc' := 6) rfl (B d48_1) rfl ((if0 _ _).trans (feq hc1).2) (by decide) (by decide)) ?_
    refine step (fun _ => XS.iloadN X0.here hx rfl (B d48_6) (by rw [hls0]; rfl)) ?_
    refine step (fun _ => XS.iconst X0.here hx rfl (B d48_7)) ?_
    show G s₁ (mkF m 8 ls0 [(.int 1), (.int p0)])
    refine step (fun _ => XS.isub X0.here hx rfl (B d48_8) rfl) ?_
    obtain ⟨ls3, hls3⟩ := own_sl #[vI p0, vI p1, vI p2, vI p3, vI p4, vI p5, vI ((p0 - (1 : Int32)))]
    refine step (fun _ => XS.istore X0.here hx rfl (B d48_9) rfl (l' := ls3) (by rw [hls0, hls3]; rfl)) ?_
    have nz : ¬ p0.toInt = 0 := fun z_ => hc1 (own_xeq.mpr (z_.trans (by decide)))
    obtain ⟨x6, hx6⟩ : ∃ z : Int32, z = (p0 - (1 : Int32)) := ⟨_, rfl⟩
    obtain ⟨ls4, hls4⟩ := own_sl #[vI p0, vI p1, vI p2, vI p3, vI p4, vI p5, vI x6]
    rw [show ls3 = ls4 from by rw [hls3, hls4, hx6]]
    have ex6 : x6.toInt = p0.toInt - 1 := by
      have k1 : (1 : Int32).toInt = 1 := by decide
      rw [own_sb hx6 (by omega) (by omega), k1]
    refine step (fun _ => XS.iloadN X0.here hx rfl (B d48_11) (by rw [hls4]; rfl)) ?_
    refine step (fun _ => XS.ifYes X0.here hx rfl (pc0 := 12) (pc' := 57) rfl (B d48_12) rfl ((if0 _ _).trans (flt hp).2.2.2) (by decide) (by decide)) ?_
    refine step (fun _ => XS.iload X0.here hx rfl (B d48_57) (by rw [hls4]; rfl)) ?_
    refine step (fun _ => XS.bipush X0.here hx rfl (B d48_59)) ?_
    show G s₁ (mkF m 61 ls4 [(.int 8), (.int x6)])
    have ho5 : ¬ (x6 < (8 : Int32)) := by
      have k0 : (0 : Int32).toInt = 0 := by decide
      have k8 : (8 : Int32).toInt = 8 := by decide
      have g0 := hc1
      simp only [own_xlt, own_xeq] at g0
      rw [own_xlt]
      omega
    refine step (fun _ => XS.icmpYes X0.here hx rfl (pc0 := 61) (pc' := 72) rfl (B d48_61) rfl (flt ho5).2.1 (by decide) (by decide)) ?_
    refine step (fun _ => XS.iload X0.here hx rfl (B d48_72) (by rw [hls4]; rfl)) ?_
    refine step (fun _ => XS.bipush X0.here hx rfl (B d48_74)) ?_
    refine step (fun _ => XS.isub X0.here hx rfl (B d48_76) rfl) ?_
    obtain ⟨ls6, hls6⟩ := own_sl #[vI p0, vI p1, vI p2, vI p3, vI p4, vI p5, vI ((x6 - (8 : Int32)))]
    refine step (fun _ => XS.istore X0.here hx rfl (B d48_77) rfl (l' := ls6) (by rw [hls4, hls6]; rfl)) ?_
    obtain ⟨x9, hx9⟩ : ∃ z : Int32, z = (x6 - (8 : Int32)) := ⟨_, rfl⟩
    obtain ⟨ls7, hls7⟩ := own_sl #[vI p0, vI p1, vI p2, vI p3, vI p4, vI p5, vI x9]
    rw [show ls6 = ls7 from by rw [hls6, hls7, hx9]]
    have ex9 : x9.toInt = x6.toInt - 8 := by
      have k8 : (8 : Int32).toInt = 8 := by decide
      rw [own_sb hx9 (by omega) (by omega), k8]
    refine step (fun _ => XS.iload X0.here hx rfl (B d48_79) (by rw [hls7]; rfl)) ?_
    show G s₁ (mkF m 81 ls7 [(.int x9)])
    by_cases hc8 : x9 = (0 : Int32)
    · skip
      refine step (fun _ => XS.ifNo X0.here hx rfl (B d48_81) rfl ((if0 _ _).trans (teq hc8).2)) ?_
      refine step (fun _ => XS.iload X0.here hx rfl (B d48_84) (by rw [hls7]; rfl)) ?_
      have hr9 : p4 = (own_txB p1 p4 p5).getD p0.toNatClampNeg 0 := by
        have k0 : (0 : Int32).toInt = 0 := by decide
        have g0 := hc1
        have g1 := hc8
        simp only [own_xlt, own_xeq] at g0 g1
        rw [own_xU (j := x6) (by omega) (by omega), own_tt (j := x6) (k := 8) (by omega)]
        rfl
      exact ret (v := some (.int p4)) X0 (fun h => by rw [Bd.returns] at h; cases h) (fun fs hr => retN X0 hx (t := .char) Bd.returns (by simp) (B d48_86) (by rw [own_narc hl4]; exact hr)) e0 ⟨p4, rfl, N0, K0, hr9⟩ (by decide) (by decide)
    · skip
      refine step (fun _ => XS.ifYes X0.here hx rfl (pc0 := 81) (pc' := 87) rfl (B d48_81) rfl ((if0 _ _).trans (feq hc8).2) (by decide) (by decide)) ?_
      refine step (fun _ => XS.iload X0.here hx rfl (B d48_87) (by rw [hls7]; rfl)) ?_
      refine step (fun _ => XS.iconst X0.here hx rfl (B d48_89)) ?_
      by_cases hc10 : x9 = (1 : Int32)
      · skip
        refine step (fun _ => XS.icmpNo X0.here hx rfl (B d48_90) rfl (teq hc10).2) ?_
        show G s₁ (mkF m 93 ls7 [])
        refine step (fun _ => XS.bipush X0.here hx rfl (B d48_93)) ?_
        show G s₁ (mkF m 95 ls7 [(.int 58)])
        have hr11 : (58 : Int32) = (own_txB p1 p4 p5).getD p0.toNatClampNeg 0 := by
          have k0 : (0 : Int32).toInt = 0 := by decide
          have k1 : (1 : Int32).toInt = 1 := by decide
          have g0 := hc1
          have g1 := hc8
          have g2 := hc10
          simp only [own_xlt, own_xeq] at g0 g1 g2
          rw [own_xU (j := x6) (by omega) (by omega), own_tt (j := x6) (k := 9) (by omega)]
          rfl
        exact ret (v := some (.int 58)) X0 (fun h => by rw [Bd.returns] at h; cases h) (fun fs hr => retN X0 hx (t := .char) Bd.returns (by simp) (B d48_95) hr) e0 ⟨(58 : Int32), rfl, N0, K0, hr11⟩ (by decide) (by decide)
      · skip
        refine step (fun _ => XS.icmpYes X0.here hx rfl (pc0 := 90) (pc' := 96) rfl (B d48_90) rfl (feq hc10).2 (by decide) (by decide)) ?_
        refine step (fun _ => XS.iload X0.here hx rfl (B d48_96) (by rw [hls7]; rfl)) ?_
        refine step (fun _ => XS.iconst X0.here hx rfl (B d48_98)) ?_
        by_cases hc12 : x9 = (2 : Int32)
        · skip
          refine step (fun _ => XS.icmpNo X0.here hx rfl (B d48_99) rfl (teq hc12).2) ?_
          refine step (fun _ => XS.bipush X0.here hx rfl (B d48_102)) ?_
          show G s₁ (mkF m 104 ls7 [(.int 32)])
          have hr13 : (32 : Int32) = (own_txB p1 p4 p5).getD p0.toNatClampNeg 0 := by
            have k0 : (0 : Int32).toInt = 0 := by decide
            have k1 : (1 : Int32).toInt = 1 := by decide
            have k2 : (2 : Int32).toInt = 2 := by decide
            have g0 := hc1
            have g1 := hc8
            have g2 := hc10
            have g3 := hc12
            simp only [own_xlt, own_xeq] at g0 g1 g2 g3
            rw [own_xU (j := x6) (by omega) (by omega), own_tt (j := x6) (k := 10) (by omega)]
            rfl
          exact ret (v := some (.int 32)) X0 (fun h => by rw [Bd.returns] at h; cases h) (fun fs hr => retN X0 hx (t := .char) Bd.returns (by simp) (B d48_104) hr) e0 ⟨(32 : Int32), rfl, N0, K0, hr13⟩ (by decide) (by decide)
        · skip
          refine step (fun _ => XS.icmpYes X0.here hx rfl (pc0 := 99) (pc' := 105) rfl (B d48_99) rfl (feq hc12).2 (by decide) (by decide)) ?_
          refine step (fun _ => XS.iload X0.here hx rfl (B d48_105) (by rw [hls7]; rfl)) ?_
          have hr14 : p5 = (own_txB p1 p4 p5).getD p0.toNatClampNeg 0 := by
            have k0 : (0 : Int32).toInt = 0 := by decide
            have k1 : (1 : Int32).toInt = 1 := by decide
            have k2 : (2 : Int32).toInt = 2 := by decide
            have g0 := hc1
            have g1 := hc8
            have g2 := hc10
            have g3 := hc12
            simp only [own_xlt, own_xeq] at g0 g1 g2 g3
            rw [own_xU (j := x6) (by omega) (by omega), own_tt (j := x6) (k := 11) (by omega)]
            rfl
          exact ret (v := some (.int p5)) X0 (fun h => by rw [Bd.returns] at h; cases h) (fun fs hr => retN X0 hx (t := .char) Bd.returns (by simp) (B d48_107) (by rw [own_narc hl5]; exact hr)) e0 ⟨p5, rfl, N0, K0, hr14⟩ (by decide) (by decide)
theorem own_lenA {c0 c1 c2 p n : Int32} {ds : List Int32} (hp : (0 : Int32) < p) (h : own_dl p n ds) : ((own_txA c0 ds c1 c2).length : Int) = 12 + 7 + n.toInt := by
  have hd := own_dll hp h
  have e : (own_txA c0 ds c1 c2).length = 19 + ds.length := by
    rw [own_txA_pre, List.length_append, own_preL]
    show 7 + ds.length + 12 = _
    omega
  omega
theorem own_lenB {c0 c1 c2 : Int32} : (own_txB c0 c1 c2).length = 13 := rfl
theorem own_l19 {c0 c1 c2 p n m : Int32} {ds cs : List Int32} (hp : (0 : Int32) < p) (h : own_dl p n ds) (hok : own_ok m cs) (he : cs = own_txA c0 ds c1 c2) : m = ((19 : Int32) + n) := by
  have e1 := own_ni hok
  have e2 := own_lenA (c0 := c0) (c1 := c1) (c2 := c2) hp h
  have hd := own_dll hp h
  have c1 := c_iadd (19 : Int32) n
  have k : (19 : Int32).toInt = 19 := by decide
  have r1 := rng32 ((19 : Int32) + n)
  rw [← he] at e2
  rw [own_xeq]
  omega
theorem own_l13 {c0 c1 c2 m : Int32} {cs : List Int32} (hok : own_ok m cs) (he : cs = own_txB c0 c1 c2) : m = (13 : Int32) := by
  rw [hok.1, he]
  rfl
theorem own_hiA {c0 c1 c2 p n m i : Int32} {ds cs : List Int32} (hp : (0 : Int32) < p) (h : own_dl p n ds) (hok : own_ok m cs) (he : cs = own_txA c0 ds c1 c2) (h1 : ¬ i < 0) (h2 : i < m) : 0 ≤ i.toInt ∧ i.toInt < 19 + n.toInt := by
  have e1 := own_ni hok
  have e2 := own_lenA (c0 := c0) (c1 := c1) (c2 := c2) hp h
  have k : (0 : Int32).toInt = 0 := by decide
  rw [← he] at e2
  rw [own_xlt] at h1 h2
  omega
theorem own_hiB {c0 c1 c2 m i : Int32} {cs : List Int32} (hok : own_ok m cs) (he : cs = own_txB c0 c1 c2) (h1 : ¬ i < 0) (h2 : i < m) : 0 ≤ i.toInt ∧ i.toInt < 13 := by
  have e1 := own_l13 hok he
  have k : (0 : Int32).toInt = 0 := by decide
  have k3 : (13 : Int32).toInt = 13 := by decide
  rw [own_xlt] at h1 h2
  rw [e1] at h2
  omega
theorem d49_0 : decode qc49 0 = .ok (.iload_n 1, 1) := by decide +kernel
theorem d49_1 : decode qc49 1 = .ok (.iload_n 2, 1) := by decide +kernel
theorem d49_2 : decode qc49 2 = .ok (.if_icmp .lt 5, 3) := by decide +kernel
theorem d49_7 : decode qc49 7 = .ok (.aload_n 0, 1) := by decide +kernel
theorem d49_8 : decode qc49 8 = .ok (.iload_n 1, 1) := by decide +kernel
theorem d49_9 : decode qc49 9 = .ok (.invokevirtual 47, 3) := by decide +kernel
theorem d49_12 : decode qc49 12 = .ok (.iload_n 1, 1) := by decide +kernel
theorem d49_13 : decode qc49 13 = .ok (.iload_n 3, 1) := by decide +kernel
theorem d49_14 : decode qc49 14 = .ok (.iload 4, 2) := by decide +kernel
theorem d49_16 : decode qc49 16 = .ok (.iload 5, 2) := by decide +kernel
theorem d49_18 : decode qc49 18 = .ok (.iload 6, 2) := by decide +kernel
theorem d49_20 : decode qc49 20 = .ok (.iload 7, 2) := by decide +kernel
theorem d49_22 : decode qc49 22 = .ok (.invokestatic 51, 3) := by decide +kernel
theorem ww215 (hw : HW Z a0) : Cond.before (Cond.methodLink cn_3 51 ({ cls := cn_3, name := "expected", desc := "(ICIICC)C" } : MethodName)) a0 Z = true := own_w hw 215 rfl
theorem ww217 (hw : HW Z a0) : Cond.before (Cond.code ({ cls := cn_3, name := "expected", desc := "(ICIICC)C" } : MethodName) method_4_code 7 (Option.some FieldType.char)) a0 Z = true := own_w hw 217 rfl
theorem pd_32 : parseMethodDescriptor "(ICIICC)C" = some ⟨[.int, .char, .int, .int, .char, .char], some .char⟩ := by decide +kernel
theorem ww216 (hw : HW Z a0) : Cond.before (Cond.static ({ cls := cn_3, name := "expected", desc := "(ICIICC)C" } : MethodName)) a0 Z = true := own_w hw 216 rfl
theorem d49_25 : decode qc49 25 = .ok (.if_icmp .ne 7, 3) := by decide +kernel
theorem d49_28 : decode qc49 28 = .ok (.iconst 1, 1) := by decide +kernel
theorem d49_29 : decode qc49 29 = .ok (.goto 4, 3) := by decide +kernel
theorem d49_33 : decode qc49 33 = .ok (.ireturn, 1) := by decide +kernel
theorem d49_5 : decode qc49 5 = .ok (.iconst 1, 1) := by decide +kernel
theorem d49_6 : decode qc49 6 = .ok (.ireturn, 1) := by decide +kernel
abbrev rr_kAL : Room := { frames := 5, cells := 2, slots := 36, locals := 72 }
abbrev y_49 : MethodName := ⟨cn_3, "chk", cn_28⟩
theorem ef_kAL (m : MethodId) (o0 : Addr) (p1 p2 p3 p4 p5 p6 p7 : Int32) : entryFrame m #[(.ref o0), (.int p1), (.int p2), (.int p3), (.int p4), (.int p5), (.int p6), (.int p7)] 8 = mkF m 0 #[vR o0, vI p1, vI p2, vI p3, vI p4, vI p5, vI p6, vI p7] [] := by first | (simp [entryFrame, mkF, argsToLocals, Value.category]; done) | rfl
def Q_kAL (Z : State) (w_0 w_1 : Addr) (w_2 : Int32) (w_3 : Value) (o0 : Addr) (p1 p2 p3 p4 p5 p6 p7 : Int32) (t : Addr) (kk : ClassId) (n : Int32) (es : List Int32) (ds : List Int32) (h0 : Heap) (n0 : Nat) (v : Option Value) (h : Heap) (L : List Loc) : Prop := v = some (.int 1) ∧ Fr n0 L ∧ Keep h0 h []
theorem rm_kAL (l : Launch) (Z : State) (a0 : Array Value) (hw : HW Z a0) (ws : List Jvm.Cond) (w_0 w_1 : Addr) (w_2 : Int32) (w_3 : Value) (o0 : Addr) (p1 p2 p3 p4 p5 p6 p7 : Int32) (t : Addr) (kk : ClassId) (n : Int32) (es : List Int32) (ds : List Int32) (h0 : Heap) (n0 : Nat) (Z0 : n0 ≤ h0.size) (ST : own_St Z w_0 w_1 w_2 w_3) (O0 : Old Z n0 h0) (Es : Exa Z h0 o0 cn_2) (Fv : Fld Z h0 o0 cn_2 "value" "[B" (.ref t)) (Fc : Fld Z h0 o0 cn_2 "coder" "B" (.int 0)) (Va : Arv Z h0 t kk .byte n (own_by es) (.int 0)) (hok : own_ok n es) (h1 : ¬ (p1 < (0 : Int32))) (hp : (0 : Int32) < p4) (hdl : own_dl p4 p5 ds) (hL : p2 = n) (he : es = own_txA p3 ds p6 p7) (hl3 : ¬ p3 < 0 ∧ ¬ (255 : Int32) < p3) (hl6 : ¬ p6 < 0 ∧ ¬ (255 : Int32) < p6) (hl7 : ¬ p7 < 0 ∧ ¬ (255 : Int32) < p7) :
    MetFree l y_49 (head1 (Jvm.Cond.code y_49 method_3_code 8 (some .boolean) :: ws) rr_kAL) (fun a U => a = #[(.ref o0), (.int p1), (.int p2), (.int p3), (.int p4), (.int p5), (.int p6), (.int p7)] ∧ Z.Warmed39 U.vm ∧ U.heap = h0 ∧ CHv Z own_EL U.vm h0) (fun _ _ _ _ _ => True) (fun _ U o U' => ∃ v L, o = .returned v ∧ Q_kAL Z w_0 w_1 w_2 w_3 o0 p1 p2 p3 p4 p5 p6 p7 t kk n es ds h0 n0 v U'.heap L ∧ CHr Z own_EL U.vm U.heap U'.vm U'.heap ∧ ReturnedEndW U o U' L rr_kAL.cells rr_kAL.slots) := by
  refine MetFree.of_bodySF (plainFor_of_name pn_10) hisR ?_
  intro p e s m args below meth c s₁ Bd hml0 hP hK
  obtain ⟨rfl, hZ, hh, hC⟩ := hP
  have hx := Bd.exec
  have hby := Bd.bytes
  have B := @hb _ _ hby
  have hml : c.maxLocals = 8 := hml0
  have hown : s.vm.findClass cn_3 = some m.cls := findClass_of_methodNamed Bd.named
  have X0 : Stand p l e rr_kAL (s.setVm s.vm) m #[(.ref o0), (.int p1), (.int p2), (.int p3), (.int p4), (.int p5), (.int p6), (.int p7)] below meth c s₁ [] 0 0 := Stand.of_body Bd
  have e0 : s₁.heap = h0 := by rw [← hh, Bd.state]; rfl
  have N0 := Fr.nil n0
  replace hZ : Z.Warmed39 (s.setVm s.vm).vm := hZ
  replace hown : (s.setVm s.vm).vm.findClass cn_3 = some m.cls := hown
  have hS : s.Since s.vm h0.size := (State.WarmedH.refl s).since _
  have hk0 : h0.size ≤ h0.size := Nat.le_refl _
  have C0 : CHr Z own_EL s.vm h0 s.vm h0 := CHr.refl hC
  have K0 : Keep h0 h0 [] := Keep.refl _ _
  obtain ⟨G, step, ret, fin⟩ := own_openHX X0 (rr_kAL.cells) (rr_kAL.slots) (Q_kAL Z w_0 w_1 w_2 w_3 o0 p1 p2 p3 p4 p5 p6 p7 t kk n es ds h0 n0) (own_EW hw) hh Bd.notSynchronized
  refine fin (g := entryFrame m #[(.ref o0), (.int p1), (.int p2), (.int p3), (.int p4), (.int p5), (.int p6), (.int p7)] 8) ?_
  rw [ef_kAL m o0 p1 p2 p3 p4 p5 p6 p7]
  obtain ⟨ls0, hls0⟩ := own_sl #[vR o0, vI p1, vI p2, vI p3, vI p4, vI p5, vI p6, vI p7]
  suffices hG0 : G s₁ (mkF m 0 ls0 []) by rw [hls0] at hG0; exact hG0
  refine step (fun _ => XS.iloadN X0.here hx rfl (B d49_0) (by rw [hls0]; rfl)) ?_
  refine step (fun _ => XS.iloadN X0.here hx rfl (B d49_1) (by rw [hls0]; rfl)) ?_
  by_cases hc1 : p1 < p2
  · skip
    refine step (fun _ => XS.icmpYes X0.here hx rfl (pc0 := 2) (pc' := 7) rfl (B d49_2) rfl (tlt hc1).1 (by decide) (by decide)) ?_
    refine step (fun _ => XS.aloadN X0.here hx rfl (B d49_7) (by rw [hls0]; rfl) rfl) ?_
    refine step (fun _ => XS.iloadN X0.here hx rfl (B d49_8) (by rw [hls0]; rfl)) ?_
    have hK2 := (backOf (R := rr_kAL) (p := p) (e := e) (below := below) (args := #[(.ref o0), (.int p1), (.int p2), (.int p3), (.int p4), (.int p5), (.int p6), (.int p7)]) (len := 3) (W := 0) (rm_ch l Z a0 hw [] w_0 w_1 w_2 w_3 o0 p1 t kk n es h0 n0 (own_old_le O0) ST O0 Es Fv Fc Va hok (h1 : ¬ (p1 < (0 : Int32))) ((hL ▸ hc1) : p1 < n)) hZ (ww198 hw) (ww2 hw) (by decide) (by decide))
    obtain ⟨cq2, kq2, q2a, q2b, q2c⟩ := isOf hZ e0 Es
    obtain ⟨_, _, ⟨T2, L2, k2, n2⟩, -, X2, ⟨Lc2, hQ2, l2, y2, z2⟩, st2⟩ := X0.virtualBack hx (y := y_10) (z := y_10) hown (mvT hZ (ww194 hw)) (mvT hZ (ww195 hw)) (notFace_of_selects (args := #[]) (mvT hZ (ww197 hw))) (mvT hZ (ww197 hw)) (mvT hZ (ww196 hw)) (by decide) hK2 q2a q2c (g := (mkF m 9 ls0 [(.int p1), (.ref o0)])) rfl (by rw [hml, hls0]; rfl) (Steps.refl _) (argsL := [(.int p1)]) (rest := []) (lenOf pd_30 rfl) rfl (by show 2 * 0 + _ ≤ _; exact Nat.le_of_eq rfl) (B d49_9) (fun _ _ => ⟨rfl, e0, (by decide : 0 + 0 ≤ _), (by decide : 0 + 0 ≤ _)⟩)
    dsimp only [Pt.U, Pt.locs, Pt.cells, Pt.slots] at X2 l2 y2 z2 st2 hQ2
    subst l2 y2 z2
    obtain ⟨rfl, N2q, e2⟩ := hQ2
    have N2 := Fr.app N0 N2q
    obtain ⟨lc2, X2, N2⟩ := own_gen X2 N2
    refine step (fun t k => st2.trans k) ?_
    have r3 : (f_ch w_0 w_1 w_2 w_3 o0 p1 t kk n es) = (es.getD p1.toNatClampNeg 0) := rfl
    rw [r3]
    refine step (fun _ => XS.iloadN X2.here hx rfl (B d49_12) (by rw [hls0]; rfl)) ?_
    refine step (fun _ => XS.iloadN X2.here hx rfl (B d49_13) (by rw [hls0]; rfl)) ?_
    refine step (fun _ => XS.iload X2.here hx rfl (B d49_14) (by rw [hls0]; rfl)) ?_
    refine step (fun _ => XS.iload X2.here hx rfl (B d49_16) (by rw [hls0]; rfl)) ?_
    refine step (fun _ => XS.iload X2.here hx rfl (B d49_18) (by rw [hls0]; rfl)) ?_
    show G T2 (mkF m 20 ls0 [(.int p6), (.int p5), (.int p4), (.int p3), (.int p1), (.int (es.getD p1.toNatClampNeg 0))])
    refine step (fun _ => XS.iload X2.here hx rfl (B d49_20) (by rw [hls0]; rfl)) ?_
    have hK4 := (backOfSH (s := s) (vm0 := s.vm) (R := rr_kAL) (p := p) (e := e) (below := below) (args := #[(.ref o0), (.int p1), (.int p2), (.int p3), (.int p4), (.int p5), (.int p6), (.int p7)]) (len := 3) (W := 1) (rm_xAL l Z a0 hw [] w_0 w_1 w_2 w_3 p1 p3 p4 p5 p6 p7 ds h0 n0 (own_old_le O0) ST O0 (hp : (0 : Int32) < p4) hdl (own_hiA hp hdl hok he h1 (hL ▸ hc1)) hl3 hl6 hl7) hZ (ww217 hw) (ww192 hw) (by decide) (by decide) (own_EW hw) C0.1)
    obtain ⟨_, _, ⟨T4, L4, k4, n4⟩, -, X4, hS4, hg4, ⟨Lc4, hQ4, l4, y4, z4, hC4⟩, st4⟩ := callSS X2 hx (y := y_48) hown (mvT hZ (ww215 hw)) (mvT hZ (ww216 hw)) (mvT hZ (ww192 hw)) (mvT hZ (ww217 hw)) (by decide) hK4 (g := (mkF m 22 ls0 [(.int p7), (.int p6), (.int p5), (.int p4), (.int p3), (.int p1), (.int (es.getD p1.toNatClampNeg 0))])) rfl (by rw [hml, hls0]; rfl) (argsL := [(.int p1), (.int p3), (.int p4), (.int p5), (.int p6), (.int p7)]) (rest := [(.int (es.getD p1.toNatClampNeg 0))]) (lenOf pd_32 rfl) rfl (by show 2 * 0 + _ ≤ _; exact Nat.le_of_eq rfl) (B d49_22) (fun _ _ => ⟨rfl, e2, (by decide : 0 + 2 ≤ _), (by decide : 0 + 36 ≤ _)⟩)
    dsimp only [Pt.U, Pt.locs, Pt.cells, Pt.slots] at X4 l4 y4 z4 st4 hQ4 hS4 hg4 hC4
    subst l4 y4 z4
    obtain ⟨X4, hS, hZ, hown⟩ := rebS (s := s) hS (by rw [e2]; exact hk0) X4 hS4 hg4 hZ hown
    obtain ⟨r_4, rfl, N4q, K4q, Y4_0⟩ := hQ4
    have N4 := Fr.app N2 N4q
    obtain ⟨lc4, X4, N4⟩ := own_gen X4 N4
    have cz4 : CHr Z own_EL s.vm h0 T4.vm T4.heap := hC4
    have C4 : CHr Z own_EL s.vm h0 T4.vm T4.heap := C0.trans cz4
    have K4 : Keep h0 T4.heap [] := K0.trans K4q all0
    have hk4 : _ ≤ T4.heap.size := Nat.le_refl _
    refine step (fun t k => st4.trans k) ?_
    refine step (fun _ => XS.icmpNo X4.here hx rfl (B d49_25) rfl (teq (by rw [he]; exact Y4_0.symm)).2) ?_
    refine step (fun _ => XS.iconst X4.here hx rfl (B d49_28)) ?_
    refine step (fun _ => XS.goto X4.here hx rfl (pc0 := 29) (pc' := 33) rfl (B d49_29) (by decide) (by decide)) ?_
    exact ret (v := some (.int 1)) X4 hS hk4 C4 hZ (fun h => by rw [Bd.returns] at h; cases h) (fun fs hr => retN X4 hx (t := .boolean) Bd.returns (by simp) (B d49_33) hr) rfl ⟨rfl, N4, K4⟩ (by decide) (by decide)
  · skip
    refine step (fun _ => XS.icmpNo X0.here hx rfl (B d49_2) rfl (flt hc1).1) ?_
    refine step (fun _ => XS.iconst X0.here hx rfl (B d49_5)) ?_
    show G s₁ (mkF m 6 ls0 [(.int 1)])
    exact ret (v := some (.int 1)) X0 hS hk0 C0 hZ (fun h => by rw [Bd.returns] at h; cases h) (fun fs hr => retN X0 hx (t := .boolean) Bd.returns (by simp) (B d49_6) hr) e0 ⟨rfl, N0, K0⟩ (by decide) (by decide)
abbrev rr_kAN : Room := { frames := 4, cells := 0, slots := 0, locals := 53 }
theorem ef_kAN (m : MethodId) (o0 : Addr) (p1 p2 p3 p4 p5 p6 p7 : Int32) : entryFrame m #[(.ref o0), (.int p1), (.int p2), (.int p3), (.int p4), (.int p5), (.int p6), (.int p7)] 8 = mkF m 0 #[vR o0, vI p1, vI p2, vI p3, vI p4, vI p5, vI p6, vI p7] [] := by first | (simp [entryFrame, mkF, argsToLocals, Value.category]; done) | rfl
def Q_kAN (Z : State) (w_0 w_1 : Addr) (w_2 : Int32) (w_3 : Value) (o0 : Addr) (p1 p2 p3 p4 p5 p6 p7 : Int32) (t : Addr) (kk : ClassId) (n : Int32) (es : List Int32) (ds : List Int32) (h0 : Heap) (n0 : Nat) (v : Option Value) (h : Heap) (L : List Loc) : Prop := v = some (.int 1) ∧ Fr n0 L ∧ Keep h0 h []
theorem rm_kAN (l : Launch) (Z : State) (a0 : Array Value) (hw : HW Z a0) (ws : List Jvm.Cond) (w_0 w_1 : Addr) (w_2 : Int32) (w_3 : Value) (o0 : Addr) (p1 p2 p3 p4 p5 p6 p7 : Int32) (t : Addr) (kk : ClassId) (n : Int32) (es : List Int32) (ds : List Int32) (h0 : Heap) (n0 : Nat) (Z0 : n0 ≤ h0.size) (ST : own_St Z w_0 w_1 w_2 w_3) (O0 : Old Z n0 h0) (Es : Exa Z h0 o0 cn_2) (Fv : Fld Z h0 o0 cn_2 "value" "[B" (.ref t)) (Fc : Fld Z h0 o0 cn_2 "coder" "B" (.int 0)) (Va : Arv Z h0 t kk .byte n (own_by es) (.int 0)) (hok : own_ok n es) (h1 : ¬ (p1 < (0 : Int32))) (hp : (0 : Int32) < p4) (hdl : own_dl p4 p5 ds) (hL : p2 = n) (he : es = own_txA p3 ds p6 p7) (hl3 : ¬ p3 < 0 ∧ ¬ (255 : Int32) < p3) (hl6 : ¬ p6 < 0 ∧ ¬ (255 : Int32) < p6) (hl7 : ¬ p7 < 0 ∧ ¬ (255 : Int32) < p7) (hN : p1.toInt = 0 ∨ (7 ≤ p1.toInt ∧ (p1.toInt < 7 + p5.toInt ∨ 15 + p5.toInt ≤ p1.toInt))) :
    own_Met l y_49 method_3_code 8 (some .boolean) ws rr_kAN Z #[(.ref o0), (.int p1), (.int p2), (.int p3), (.int p4), (.int p5), (.int p6), (.int p7)] h0 (Q_kAN Z w_0 w_1 w_2 w_3 o0 p1 p2 p3 p4 p5 p6 p7 t kk n es ds h0 n0) := by
  refine MetFree.of_bodySF (plainFor_of_name pn_10) hisR ?_
  intro p e s m args below meth c s₁ Bd hml0 hP hK
  obtain ⟨rfl, hZ, hh⟩ := hP
  have hx := Bd.exec
  have hby := Bd.bytes
  have B := @hb _ _ hby
  have hml : c.maxLocals = 8 := hml0
  have hown : s.vm.findClass cn_3 = some m.cls := findClass_of_methodNamed Bd.named
  have X0 : Stand p l e rr_kAN s m #[(.ref o0), (.int p1), (.int p2), (.int p3), (.int p4), (.int p5), (.int p6), (.int p7)] below meth c s₁ [] 0 0 := Stand.of_body Bd
  have e0 : s₁.heap = h0 := by rw [← hh, Bd.state]; rfl
  have N0 := Fr.nil n0
  have K0 : Keep h0 h0 [] := Keep.refl _ _
  obtain ⟨G, step, ret, fin⟩ := own_openX X0 (rr_kAN.cells) (rr_kAN.slots) (Q_kAN Z w_0 w_1 w_2 w_3 o0 p1 p2 p3 p4 p5 p6 p7 t kk n es ds h0 n0) Bd.notSynchronized
  refine fin (g := entryFrame m #[(.ref o0), (.int p1), (.int p2), (.int p3), (.int p4), (.int p5), (.int p6), (.int p7)] 8) ?_
  rw [ef_kAN m o0 p1 p2 p3 p4 p5 p6 p7]
  obtain ⟨ls0, hls0⟩ := own_sl #[vR o0, vI p1, vI p2, vI p3, vI p4, vI p5, vI p6, vI p7]
  suffices hG0 : G s₁ (mkF m 0 ls0 []) by rw [hls0] at hG0; exact hG0
  refine step (fun _ => XS.iloadN X0.here hx rfl (B d49_0) (by rw [hls0]; rfl)) ?_
  refine step (fun _ => XS.iloadN X0.here hx rfl (B d49_1) (by rw [hls0]; rfl)) ?_
  by_cases hc1 : p1 < p2
  · skip
    refine step (fun _ => XS.icmpYes X0.here hx rfl (pc0 := 2) (pc' := 7) rfl (B d49_2) rfl (tlt hc1).1 (by decide) (by decide)) ?_
    refine step (fun _ => XS.aloadN X0.here hx rfl (B d49_7) (by rw [hls0]; rfl) rfl) ?_
    refine step (fun _ => XS.iloadN X0.here hx rfl (B d49_8) (by rw [hls0]; rfl)) ?_
    have hK2 := (backOf (R := rr_kAN) (p := p) (e := e) (below := below) (s := s) (args := #[(.ref o0), (.int p1), (.int p2), (.int p3), (.int p4), (.int p5), (.int p6), (.int p7)]) (len := 3) (W := 0) (rm_ch l Z a0 hw [] w_0 w_1 w_2 w_3 o0 p1 t kk n es h0 n0 (own_old_le O0) ST O0 Es Fv Fc Va hok (h1 : ¬ (p1 < (0 : Int32))) ((hL ▸ hc1) : p1 < n)) hZ (ww198 hw) (ww2 hw) (by decide) (by decide))
    obtain ⟨cq2, kq2, q2a, q2b, q2c⟩ := isOf hZ e0 Es
    obtain ⟨_, _, ⟨T2, L2, k2, n2⟩, -, X2, ⟨Lc2, hQ2, l2, y2, z2⟩, st2⟩ := X0.virtualBack hx (y := y_10) (z := y_10) hown (mvT hZ (ww194 hw)) (mvT hZ (ww195 hw)) (notFace_of_selects (args := #[]) (mvT hZ (ww197 hw))) (mvT hZ (ww197 hw)) (mvT hZ (ww196 hw)) (by decide) hK2 q2a q2c (g := (mkF m 9 ls0 [(.int p1), (.ref o0)])) rfl (by rw [hml, hls0]; rfl) (Steps.refl _) (argsL := [(.int p1)]) (rest := []) (lenOf pd_30 rfl) rfl (by show 2 * 0 + _ ≤ _; exact Nat.le_of_eq rfl) (B d49_9) (fun _ _ => ⟨rfl, e0, (by decide : 0 + 0 ≤ _), (by decide : 0 + 0 ≤ _)⟩)
    dsimp only [Pt.U, Pt.locs, Pt.cells, Pt.slots] at X2 l2 y2 z2 st2 hQ2
    subst l2 y2 z2
    obtain ⟨rfl, N2q, e2⟩ := hQ2
    have N2 := Fr.app N0 N2q
    obtain ⟨lc2, X2, N2⟩ := own_gen X2 N2
    refine step (fun t k => st2.trans k) ?_
    have r3 : (f_ch w_0 w_1 w_2 w_3 o0 p1 t kk n es) = (es.getD p1.toNatClampNeg 0) := rfl
    rw [r3]
    refine step (fun _ => XS.iloadN X2.here hx rfl (B d49_12) (by rw [hls0]; rfl)) ?_
    refine step (fun _ => XS.iloadN X2.here hx rfl (B d49_13) (by rw [hls0]; rfl)) ?_
    refine step (fun _ => XS.iload X2.here hx rfl (B d49_14) (by rw [hls0]; rfl)) ?_
    refine step (fun _ => XS.iload X2.here hx rfl (B d49_16) (by rw [hls0]; rfl)) ?_
    refine step (fun _ => XS.iload X2.here hx rfl (B d49_18) (by rw [hls0]; rfl)) ?_
    show G T2 (mkF m 20 ls0 [(.int p6), (.int p5), (.int p4), (.int p3), (.int p1), (.int (es.getD p1.toNatClampNeg 0))])
    refine step (fun _ => XS.iload X2.here hx rfl (B d49_20) (by rw [hls0]; rfl)) ?_
    have hK4 := (backOf (R := rr_kAN) (p := p) (e := e) (below := below) (s := s) (args := #[(.ref o0), (.int p1), (.int p2), (.int p3), (.int p4), (.int p5), (.int p6), (.int p7)]) (len := 3) (W := 1) (rm_xAN l Z a0 hw [] w_0 w_1 w_2 w_3 p1 p3 p4 p5 p6 p7 ds h0 n0 (own_old_le O0) ST O0 (hp : (0 : Int32) < p4) hdl (own_hiA hp hdl hok he h1 (hL ▸ hc1)) hl3 hl6 hl7 hN) hZ (ww217 hw) (ww192 hw) (by decide) (by decide))
    obtain ⟨_, _, ⟨T4, L4, k4, n4⟩, -, X4, ⟨Lc4, hQ4, l4, y4, z4⟩, st4⟩ := Jvm.LawKit.callS X2 hx (y := y_48) hown (mvT hZ (ww215 hw)) (mvT hZ (ww216 hw)) (mvT hZ (ww192 hw)) (mvT hZ (ww217 hw)) (by decide) hK4 (g := (mkF m 22 ls0 [(.int p7), (.int p6), (.int p5), (.int p4), (.int p3), (.int p1), (.int (es.getD p1.toNatClampNeg 0))])) rfl (by rw [hml, hls0]; rfl) (argsL := [(.int p1), (.int p3), (.int p4), (.int p5), (.int p6), (.int p7)]) (rest := [(.int (es.getD p1.toNatClampNeg 0))]) (lenOf pd_32 rfl) rfl (by show 2 * 0 + _ ≤ _; exact Nat.le_of_eq rfl) (B d49_22) (fun _ _ => ⟨rfl, e2, (by decide : 0 + 0 ≤ _), (by decide : 0 + 0 ≤ _)⟩)
    dsimp only [Pt.U, Pt.locs, Pt.cells, Pt.slots] at X4 l4 y4 z4 st4 hQ4
    subst l4 y4 z4
    obtain ⟨r_4, rfl, N4q, K4q, Y4_0⟩ := hQ4
    have N4 := Fr.app N2 N4q
    obtain ⟨lc4, X4, N4⟩ := own_gen X4 N4
    have K4 : Keep h0 T4.heap [] := K0.trans K4q all0
    refine step (fun t k => st4 t k) ?_
    refine step (fun _ => XS.icmpNo X4.here hx rfl (B d49_25) rfl (teq (by rw [he]; exact Y4_0.symm)).2) ?_
    refine step (fun _ => XS.iconst X4.here hx rfl (B d49_28)) ?_
    refine step (fun _ => XS.goto X4.here hx rfl (pc0 := 29) (pc' := 33) rfl (B d49_29) (by decide) (by decide)) ?_
    exact ret (v := some (.int 1)) X4 (fun h => by rw [Bd.returns] at h; cases h) (fun fs hr => retN X4 hx (t := .boolean) Bd.returns (by simp) (B d49_33) hr) rfl ⟨rfl, N4, K4⟩ (by decide) (by decide)
  · skip
    refine step (fun _ => XS.icmpNo X0.here hx rfl (B d49_2) rfl (flt hc1).1) ?_
    refine step (fun _ => XS.iconst X0.here hx rfl (B d49_5)) ?_
    show G s₁ (mkF m 6 ls0 [(.int 1)])
    exact ret (v := some (.int 1)) X0 (fun h => by rw [Bd.returns] at h; cases h) (fun fs hr => retN X0 hx (t := .boolean) Bd.returns (by simp) (B d49_6) hr) e0 ⟨rfl, N0, K0⟩ (by decide) (by decide)
abbrev rr_kBL : Room := { frames := 5, cells := 2, slots := 36, locals := 72 }
theorem ef_kBL (m : MethodId) (o0 : Addr) (p1 p2 p3 p4 p5 p6 p7 : Int32) : entryFrame m #[(.ref o0), (.int p1), (.int p2), (.int p3), (.int p4), (.int p5), (.int p6), (.int p7)] 8 = mkF m 0 #[vR o0, vI p1, vI p2, vI p3, vI p4, vI p5, vI p6, vI p7] [] := by first | (simp [entryFrame, mkF, argsToLocals, Value.category]; done) | rfl
def Q_kBL (Z : State) (w_0 w_1 : Addr) (w_2 : Int32) (w_3 : Value) (o0 : Addr) (p1 p2 p3 p4 p5 p6 p7 : Int32) (t : Addr) (kk : ClassId) (n : Int32) (es : List Int32) (h0 : Heap) (n0 : Nat) (v : Option Value) (h : Heap) (L : List Loc) : Prop := v = some (.int 1) ∧ Fr n0 L ∧ Keep h0 h []
theorem rm_kBL (l : Launch) (Z : State) (a0 : Array Value) (hw : HW Z a0) (ws : List Jvm.Cond) (w_0 w_1 : Addr) (w_2 : Int32) (w_3 : Value) (o0 : Addr) (p1 p2 p3 p4 p5 p6 p7 : Int32) (t : Addr) (kk : ClassId) (n : Int32) (es : List Int32) (h0 : Heap) (n0 : Nat) (Z0 : n0 ≤ h0.size) (ST : own_St Z w_0 w_1 w_2 w_3) (O0 : Old Z n0 h0) (Es : Exa Z h0 o0 cn_2) (Fv : Fld Z h0 o0 cn_2 "value" "[B" (.ref t)) (Fc : Fld Z h0 o0 cn_2 "coder" "B" (.int 0)) (Va : Arv Z h0 t kk .byte n (own_by es) (.int 0)) (hok : own_ok n es) (h1 : ¬ (p1 < (0 : Int32))) (hp : ¬ ((0 : Int32) < p4)) (hL : p2 = n) (he : es = own_txB p3 p6 p7) (hl3 : ¬ p3 < 0 ∧ ¬ (255 : Int32) < p3) (hl6 : ¬ p6 < 0 ∧ ¬ (255 : Int32) < p6) (hl7 : ¬ p7 < 0 ∧ ¬ (255 : Int32) < p7) :
    MetFree l y_49 (head1 (Jvm.Cond.code y_49 method_3_code 8 (some .boolean) :: ws) rr_kBL) (fun a U => a = #[(.ref o0), (.int p1), (.int p2), (.int p3), (.int p4), (.int p5), (.int p6), (.int p7)] ∧ Z.Warmed39 U.vm ∧ U.heap = h0 ∧ CHv Z own_EL U.vm h0) (fun _ _ _ _ _ => True) (fun _ U o U' => ∃ v L, o = .returned v ∧ Q_kBL Z w_0 w_1 w_2 w_3 o0 p1 p2 p3 p4 p5 p6 p7 t kk n es h0 n0 v U'.heap L ∧ CHr Z own_EL U.vm U.heap U'.vm U'.heap ∧ ReturnedEndW U o U' L rr_kBL.cells rr_kBL.slots) := by
  refine MetFree.of_bodySF (plainFor_of_name pn_10) hisR ?_
  intro p e s m args below meth c s₁ Bd hml0 hP hK
  obtain ⟨rfl, hZ, hh, hC⟩ := hP
  have hx := Bd.exec
  have hby := Bd.bytes
  have B := @hb _ _ hby
  have hml : c.maxLocals = 8 := hml0
  have hown : s.vm.findClass cn_3 = some m.cls := findClass_of_methodNamed Bd.named
  have X0 : Stand p l e rr_kBL (s.setVm s.vm) m #[(.ref o0), (.int p1), (.int p2), (.int p3), (.int p4), (.int p5), (.int p6), (.int p7)] below meth c s₁ [] 0 0 := Stand.of_body Bd
  have e0 : s₁.heap = h0 := by rw [← hh, Bd.state]; rfl
  have N0 := Fr.nil n0
  replace hZ : Z.Warmed39 (s.setVm s.vm).vm := hZ
  replace hown : (s.setVm s.vm).vm.findClass cn_3 = some m.cls := hown
  have hS : s.Since s.vm h0.size := (State.WarmedH.refl s).since _
  have hk0 : h0.size ≤ h0.size := Nat.le_refl _
  have C0 : CHr Z own_EL s.vm h0 s.vm h0 := CHr.refl hC
  have K0 : Keep h0 h0 [] := Keep.refl _ _
  obtain ⟨G, step, ret, fin⟩ := own_openHX X0 (rr_kBL.cells) (rr_kBL.slots) (Q_kBL Z w_0 w_1 w_2 w_3 o0 p1 p2 p3 p4 p5 p6 p7 t kk n es h0 n0) (own_EW hw) hh Bd.notSynchronized
  refine fin (g := entryFrame m #[(.ref o0), (.int p1), (.int p2), (.int p3), (.int p4), (.int p5), (.int p6), (.int p7)] 8) ?_
  rw [ef_kBL m o0 p1 p2 p3 p4 p5 p6 p7]
  obtain ⟨ls0, hls0⟩ := own_sl #[vR o0, vI p1, vI p2, vI p3, vI p4, vI p5, vI p6, vI p7]
  suffices hG0 : G s₁ (mkF m 0 ls0 []) by rw [hls0] at hG0; exact hG0
  refine step (fun _ => XS.iloadN X0.here hx rfl (B d49_0) (by rw [hls0]; rfl)) ?_
  refine step (fun _ => XS.iloadN X0.here hx rfl (B d49_1) (by rw [hls0]; rfl)) ?_
  by_cases hc1 : p1 < p2
  · skip
    refine step (fun _ => XS.icmpYes X0.here hx rfl (pc0 := 2) (pc' := 7) rfl (B d49_2) rfl (tlt hc1).1 (by decide) (by decide)) ?_
    refine step (fun _ => XS.aloadN X0.here hx rfl (B d49_7) (by rw [hls0]; rfl) rfl) ?_
    refine step (fun _ => XS.iloadN X0.here hx rfl (B d49_8) (by rw [hls0]; rfl)) ?_
    have hK2 := (backOf (R := rr_kBL) (p := p) (e := e) (below := below) (args := #[(.ref o0), (.int p1), (.int p2), (.int p3), (.int p4), (.int p5), (.int p6), (.int p7)]) (len := 3) (W := 0) (rm_ch l Z a0 hw [] w_0 w_1 w_2 w_3 o0 p1 t kk n es h0 n0 (own_old_le O0) ST O0 Es Fv Fc Va hok (h1 : ¬ (p1 < (0 : Int32))) ((hL ▸ hc1) : p1 < n)) hZ (ww198 hw) (ww2 hw) (by decide) (by decide))
    obtain ⟨cq2, kq2, q2a, q2b, q2c⟩ := isOf hZ e0 Es
    obtain ⟨_, _, ⟨T2, L2, k2, n2⟩, -, X2, ⟨Lc2, hQ2, l2, y2, z2⟩, st2⟩ := X0.virtualBack hx (y := y_10) (z := y_10) hown (mvT hZ (ww194 hw)) (mvT hZ (ww195 hw)) (notFace_of_selects (args := #[]) (mvT hZ (ww197 hw))) (mvT hZ (ww197 hw)) (mvT hZ (ww196 hw)) (by decide) hK2 q2a q2c (g := (mkF m 9 ls0 [(.int p1), (.ref o0)])) rfl (by rw [hml, hls0]; rfl) (Steps.refl _) (argsL := [(.int p1)]) (rest := []) (lenOf pd_30 rfl) rfl (by show 2 * 0 + _ ≤ _; exact Nat.le_of_eq rfl) (B d49_9) (fun _ _ => ⟨rfl, e0, (by decide : 0 + 0 ≤ _), (by decide : 0 + 0 ≤ _)⟩)
    dsimp only [Pt.U, Pt.locs, Pt.cells, Pt.slots] at X2 l2 y2 z2 st2 hQ2
    subst l2 y2 z2
    obtain ⟨rfl, N2q, e2⟩ := hQ2
    have N2 := Fr.app N0 N2q
    obtain ⟨lc2, X2, N2⟩ := own_gen X2 N2
    refine step (fun t k => st2.trans k) ?_
    have r3 : (f_ch w_0 w_1 w_2 w_3 o0 p1 t kk n es) = (es.getD p1.toNatClampNeg 0) := rfl
    rw [r3]
    refine step (fun _ => XS.iloadN X2.here hx rfl (B d49_12) (by rw [hls0]; rfl)) ?_
    refine step (fun _ => XS.iloadN X2.here hx rfl (B d49_13) (by rw [hls0]; rfl)) ?_
    refine step (fun _ => XS.iload X2.here hx rfl (B d49_14) (by rw [hls0]; rfl)) ?_
    refine step (fun _ => XS.iload X2.here hx rfl (B d49_16) (by rw [hls0]; rfl)) ?_
    refine step (fun _ => XS.iload X2.here hx rfl (B d49_18) (by rw [hls0]; rfl)) ?_
    show G T2 (mkF m 20 ls0 [(.int p6), (.int p5), (.int p4), (.int p3), (.int p1), (.int (es.getD p1.toNatClampNeg 0))])
    refine step (fun _ => XS.iload X2.here hx rfl (B d49_20) (by rw [hls0]; rfl)) ?_
    have hK4 := (backOfSH (s := s) (vm0 := s.vm) (R := rr_kBL) (p := p) (e := e) (below := below) (args := #[(.ref o0), (.int p1), (.int p2), (.int p3), (.int p4), (.int p5), (.int p6), (.int p7)]) (len := 3) (W := 1) (rm_xBL l Z a0 hw [] w_0 w_1 w_2 w_3 p1 p3 p4 p5 p6 p7 h0 n0 (own_old_le O0) ST O0 (hp : ¬ ((0 : Int32) < p4)) (own_hiB hok he h1 (hL ▸ hc1)) hl3 hl6 hl7) hZ (ww217 hw) (ww192 hw) (by decide) (by decide) (own_EW hw) C0.1)
    obtain ⟨_, _, ⟨T4, L4, k4, n4⟩, -, X4, hS4, hg4, ⟨Lc4, hQ4, l4, y4, z4, hC4⟩, st4⟩ := callSS X2 hx (y := y_48) hown (mvT hZ (ww215 hw)) (mvT hZ (ww216 hw)) (mvT hZ (ww192 hw)) (mvT hZ (ww217 hw)) (by decide) hK4 (g := (mkF m 22 ls0 [(.int p7), (.int p6), (.int p5), (.int p4), (.int p3), (.int p1), (.int (es.getD p1.toNatClampNeg 0))])) rfl (by rw [hml, hls0]; rfl) (argsL := [(.int p1), (.int p3), (.int p4), (.int p5), (.int p6), (.int p7)]) (rest := [(.int (es.getD p1.toNatClampNeg 0))]) (lenOf pd_32 rfl) rfl (by show 2 * 0 + _ ≤ _; exact Nat.le_of_eq rfl) (B d49_22) (fun _ _ => ⟨rfl, e2, (by decide : 0 + 2 ≤ _), (by decide : 0 + 36 ≤ _)⟩)
    dsimp only [Pt.U, Pt.locs, Pt.cells, Pt.slots] at X4 l4 y4 z4 st4 hQ4 hS4 hg4 hC4
    subst l4 y4 z4
    obtain ⟨X4, hS, hZ, hown⟩ := rebS (s := s) hS (by rw [e2]; exact hk0) X4 hS4 hg4 hZ hown
    obtain ⟨r_4, rfl, N4q, K4q, Y4_0⟩ := hQ4
    have N4 := Fr.app N2 N4q
    obtain ⟨lc4, X4, N4⟩ := own_gen X4 N4
    have cz4 : CHr Z own_EL s.vm h0 T4.vm T4.heap := hC4
    have C4 : CHr Z own_EL s.vm h0 T4.vm T4.heap := C0.trans cz4
    have K4 : Keep h0 T4.heap [] := K0.trans K4q all0
    have hk4 : _ ≤ T4.heap.size := Nat.le_refl _
    refine step (fun t k => st4.trans k) ?_
    refine step (fun _ => XS.icmpNo X4.here hx rfl (B d49_25) rfl (teq (by rw [he]; exact Y4_0.symm)).2) ?_
    refine step (fun _ => XS.iconst X4.here hx rfl (B d49_28)) ?_
    refine step (fun _ => XS.goto X4.here hx rfl (pc0 := 29) (pc' := 33) rfl (B d49_29) (by decide) (by decide)) ?_
    exact ret (v := some (.int 1)) X4 hS hk4 C4 hZ (fun h => by rw [Bd.returns] at h; cases h) (fun fs hr => retN X4 hx (t := .boolean) Bd.returns (by simp) (B d49_33) hr) rfl ⟨rfl, N4, K4⟩ (by decide) (by decide)
  · skip
    refine step (fun _ => XS.icmpNo X0.here hx rfl (B d49_2) rfl (flt hc1).1) ?_
    refine step (fun _ => XS.iconst X0.here hx rfl (B d49_5)) ?_
    show G s₁ (mkF m 6 ls0 [(.int 1)])
    exact ret (v := some (.int 1)) X0 hS hk0 C0 hZ (fun h => by rw [Bd.returns] at h; cases h) (fun fs hr => retN X0 hx (t := .boolean) Bd.returns (by simp) (B d49_6) hr) e0 ⟨rfl, N0, K0⟩ (by decide) (by decide)
abbrev rr_kBN : Room := { frames := 4, cells := 0, slots := 0, locals := 53 }
theorem ef_kBN (m : MethodId) (o0 : Addr) (p1 p2 p3 p4 p5 p6 p7 : Int32) : entryFrame m #[(.ref o0), (.int p1), (.int p2), (.int p3), (.int p4), (.int p5), (.int p6), (.int p7)] 8 = mkF m 0 #[vR o0, vI p1, vI p2, vI p3, vI p4, vI p5, vI p6, vI p7] [] := by first | (simp [entryFrame, mkF, argsToLocals, Value.category]; done) | rfl
def Q_kBN (Z : State) (w_0 w_1 : Addr) (w_2 : Int32) (w_3 : Value) (o0 : Addr) (p1 p2 p3 p4 p5 p6 p7 : Int32) (t : Addr) (kk : ClassId) (n : Int32) (es : List Int32) (h0 : Heap) (n0 : Nat) (v : Option Value) (h : Heap) (L : List Loc) : Prop := v = some (.int 1) ∧ Fr n0 L ∧ Keep h0 h []
theorem rm_kBN (l : Launch) (Z : State) (a0 : Array Value) (hw : HW Z a0) (ws : List Jvm.Cond) (w_0 w_1 : Addr) (w_2 : Int32) (w_3 : Value) (o0 : Addr) (p1 p2 p3 p4 p5 p6 p7 : Int32) (t : Addr) (kk : ClassId) (n : Int32) (es : List Int32) (h0 : Heap) (n0 : Nat) (Z0 : n0 ≤ h0.size) (ST : own_St Z w_0 w_1 w_2 w_3) (O0 : Old Z n0 h0) (Es : Exa Z h0 o0 cn_2) (Fv : Fld Z h0 o0 cn_2 "value" "[B" (.ref t)) (Fc : Fld Z h0 o0 cn_2 "coder" "B" (.int 0)) (Va : Arv Z h0 t kk .byte n (own_by es) (.int 0)) (hok : own_ok n es) (h1 : ¬ (p1 < (0 : Int32))) (hp : ¬ ((0 : Int32) < p4)) (hL : p2 = n) (he : es = own_txB p3 p6 p7) (hl3 : ¬ p3 < 0 ∧ ¬ (255 : Int32) < p3) (hl6 : ¬ p6 < 0 ∧ ¬ (255 : Int32) < p6) (hl7 : ¬ p7 < 0 ∧ ¬ (255 : Int32) < p7) (hN : p1.toInt = 0 ∨ 9 ≤ p1.toInt) :
    own_Met l y_49 method_3_code 8 (some .boolean) ws rr_kBN Z #[(.ref o0), (.int p1), (.int p2), (.int p3), (.int p4), (.int p5), (.int p6), (.int p7)] h0 (Q_kBN Z w_0 w_1 w_2 w_3 o0 p1 p2 p3 p4 p5 p6 p7 t kk n es h0 n0) := by
  refine MetFree.of_bodySF (plainFor_of_name pn_10) hisR ?_
  intro p e s m args below meth c s₁ Bd hml0 hP hK
  obtain ⟨rfl, hZ, hh⟩ := hP
  have hx := Bd.exec
  have hby := Bd.bytes
  have B := @hb _ _ hby
  have hml : c.maxLocals = 8 := hml0
  have hown : s.vm.findClass cn_3 = some m.cls := findClass_of_methodNamed Bd.named
  have X0 : Stand p l e rr_kBN s m #[(.ref o0), (.int p1), (.int p2), (.int p3), (.int p4), (.int p5), (.int p6), (.int p7)] below meth c s₁ [] 0 0 := Stand.of_body Bd
  have e0 : s₁.heap = h0 := by rw [← hh, Bd.state]; rfl
  have N0 := Fr.nil n0
  have K0 : Keep h0 h0 [] := Keep.refl _ _
  obtain ⟨G, step, ret, fin⟩ := own_openX X0 (rr_kBN.cells) (rr_kBN.slots) (Q_kBN Z w_0 w_1 w_2 w_3 o0 p1 p2 p3 p4 p5 p6 p7 t kk n es h0 n0) Bd.notSynchronized
  refine fin (g := entryFrame m #[(.ref o0), (.int p1), (.int p2), (.int p3), (.int p4), (.int p5), (.int p6), (.int p7)] 8) ?_
  rw [ef_kBN m o0 p1 p2 p3 p4 p5 p6 p7]
  obtain ⟨ls0, hls0⟩ := own_sl #[vR o0, vI p1, vI p2, vI p3, vI p4, vI p5, vI p6, vI p7]
  suffices hG0 : G s₁ (mkF m 0 ls0 []) by rw [hls0] at hG0; exact hG0
  refine step (fun _ => XS.iloadN X0.here hx rfl (B d49_0) (by rw [hls0]; rfl)) ?_
  refine step (fun _ => XS.iloadN X0.here hx rfl (B d49_1) (by rw [hls0]; rfl)) ?_
  by_cases hc1 : p1 < p2
  · skip
    refine step (fun _ => XS.icmpYes X0.here hx rfl (pc0 := 2) (pc' := 7) rfl (B d49_2) rfl (tlt hc1).1 (by decide) (by decide)) ?_
    refine step (fun _ => XS.aloadN X0.here hx rfl (B d49_7) (by rw [hls0]; rfl) rfl) ?_
    refine step (fun _ => XS.iloadN X0.here hx rfl (B d49_8) (by rw [hls0]; rfl)) ?_
    have hK2 := (backOf (R := rr_kBN) (p := p) (e := e) (below := below) (s := s) (args := #[(.ref o0), (.int p1), (.int p2), (.int p3), (.int p4), (.int p5), (.int p6), (.int p7)]) (len := 3) (W := 0) (rm_ch l Z a0 hw [] w_0 w_1 w_2 w_3 o0 p1 t kk n es h0 n0 (own_old_le O0) ST O0 Es Fv Fc Va hok (h1 : ¬ (p1 < (0 : Int32))) ((hL ▸ hc1) : p1 < n)) hZ (ww198 hw) (ww2 hw) (by decide) (by decide))
    obtain ⟨cq2, kq2, q2a, q2b, q2c⟩ := isOf hZ e0 Es
    obtain ⟨_, _, ⟨T2, L2, k2, n2⟩, -, X2, ⟨Lc2, hQ2, l2, y2, z2⟩, st2⟩ := X0.virtualBack hx (y := y_10) (z := y_10) hown (mvT hZ (ww194 hw)) (mvT hZ (ww195 hw)) (notFace_of_selects (args := #[]) (mvT hZ (ww197 hw))) (mvT hZ (ww197 hw)) (mvT hZ (ww196 hw)) (by decide) hK2 q2a q2c (g := (mkF m 9 ls0 [(.int p1), (.ref o0)])) rfl (by rw [hml, hls0]; rfl) (Steps.refl _) (argsL := [(.int p1)]) (rest := []) (lenOf pd_30 rfl) rfl (by show 2 * 0 + _ ≤ _; exact Nat.le_of_eq rfl) (B d49_9) (fun _ _ => ⟨rfl, e0, (by decide : 0 + 0 ≤ _), (by decide : 0 + 0 ≤ _)⟩)
    dsimp only [Pt.U, Pt.locs, Pt.cells, Pt.slots] at X2 l2 y2 z2 st2 hQ2
    subst l2 y2 z2
    obtain ⟨rfl, N2q, e2⟩ := hQ2
    have N2 := Fr.app N0 N2q
    obtain ⟨lc2, X2, N2⟩ := own_gen X2 N2
    refine step (fun t k => st2.trans k) ?_
    have r3 : (f_ch w_0 w_1 w_2 w_3 o0 p1 t kk n es) = (es.getD p1.toNatClampNeg 0) := rfl
    rw [r3]
    refine step (fun _ => XS.iloadN X2.here hx rfl (B d49_12) (by rw [hls0]; rfl)) ?_
    refine step (fun _ => XS.iloadN X2.here hx rfl (B d49_13) (by rw [hls0]; rfl)) ?_
    refine step (fun _ => XS.iload X2.here hx rfl (B d49_14) (by rw [hls0]; rfl)) ?_
    refine step (fun _ => XS.iload X2.here hx rfl (B d49_16) (by rw [hls0]; rfl)) ?_
    refine step (fun _ => XS.iload X2.here hx rfl (B d49_18) (by rw [hls0]; rfl)) ?_
    show G T2 (mkF m 20 ls0 [(.int p6), (.int p5), (.int p4), (.int p3), (.int p1), (.int (es.getD p1.toNatClampNeg 0))])
    refine step (fun _ => XS.iload X2.here hx rfl (B d49_20) (by rw [hls0]; rfl)) ?_
    have hK4 := (backOf (R := rr_kBN) (p := p) (e := e) (below := below) (s := s) (args := #[(.ref o0), (.int p1), (.int p2), (.int p3), (.int p4), (.int p5), (.int p6), (.int p7)]) (len := 3) (W := 1) (rm_xBN l Z a0 hw [] w_0 w_1 w_2 w_3 p1 p3 p4 p5 p6 p7 h0 n0 (own_old_le O0) ST O0 (hp : ¬ ((0 : Int32) < p4)) (own_hiB hok he h1 (hL ▸ hc1)) hl3 hl6 hl7 hN) hZ (ww217 hw) (ww192 hw) (by decide) (by decide))
    obtain ⟨_, _, ⟨T4, L4, k4, n4⟩, -, X4, ⟨Lc4, hQ4, l4, y4, z4⟩, st4⟩ := Jvm.LawKit.callS X2 hx (y := y_48) hown (mvT hZ (ww215 hw)) (mvT hZ (ww216 hw)) (mvT hZ (ww192 hw)) (mvT hZ (ww217 hw)) (by decide) hK4 (g := (mkF m 22 ls0 [(.int p7), (.int p6), (.int p5), (.int p4), (.int p3), (.int p1), (.int (es.getD p1.toNatClampNeg 0))])) rfl (by rw [hml, hls0]; rfl) (argsL := [(.int p1), (.int p3), (.int p4), (.int p5), (.int p6), (.int p7)]) (rest := [(.int (es.getD p1.toNatClampNeg 0))]) (lenOf pd_32 rfl) rfl (by show 2 * 0 + _ ≤ _; exact Nat.le_of_eq rfl) (B d49_22) (fun _ _ => ⟨rfl, e2, (by decide : 0 + 0 ≤ _), (by decide : 0 + 0 ≤ _)⟩)
    dsimp only [Pt.U, Pt.locs, Pt.cells, Pt.slots] at X4 l4 y4 z4 st4 hQ4
    subst l4 y4 z4
    obtain ⟨r_4, rfl, N4q, K4q, Y4_0⟩ := hQ4
    have N4 := Fr.app N2 N4q
    obtain ⟨lc4, X4, N4⟩ := own_gen X4 N4
    have K4 : Keep h0 T4.heap [] := K0.trans K4q all0
    refine step (fun t k => st4 t k) ?_
    refine step (fun _ => XS.icmpNo X4.here hx rfl (B d49_25) rfl (teq (by rw [he]; exact Y4_0.symm)).2) ?_
    refine step (fun _ => XS.iconst X4.here hx rfl (B d49_28)) ?_
    refine step (fun _ => XS.goto X4.here hx rfl (pc0 := 29) (pc' := 33) rfl (B d49_29) (by decide) (by decide)) ?_
    exact ret (v := some (.int 1)) X4 (fun h => by rw [Bd.returns] at h; cases h) (fun fs hr => retN X4 hx (t := .boolean) Bd.returns (by simp) (B d49_33) hr) rfl ⟨rfl, N4, K4⟩ (by decide) (by decide)
  · skip
    refine step (fun _ => XS.icmpNo X0.here hx rfl (B d49_2) rfl (flt hc1).1) ?_
    refine step (fun _ => XS.iconst X0.here hx rfl (B d49_5)) ?_
    show G s₁ (mkF m 6 ls0 [(.int 1)])
    exact ret (v := some (.int 1)) X0 (fun h => by rw [Bd.returns] at h; cases h) (fun fs hr => retN X0 hx (t := .boolean) Bd.returns (by simp) (B d49_6) hr) e0 ⟨rfl, N0, K0⟩ (by decide) (by decide)
abbrev own_CP (p : Program) (l : Launch) (e : Env) (s : State) (m : MethodId) (args : Array Value) (below : List Frame) (meth : Method) (c : Code) (Z : State) (h0 : Heap) (n0 : Nat) (b t : Addr) (kk : ClassId) (n : Int32) (vs : List Value) (T : State) (lc : List Loc) (ce sl : Nat) (vm : Vm) (h : Heap) (k : Nat) : Prop := Stand p l e room_1 (s.setVm vm) m args below meth c T lc ce sl ∧ T.heap = h ∧ Fr n0 lc ∧ Old Z n0 h ∧ s.Since vm k ∧ k ≤ h.size ∧ Z.Warmed39 (s.setVm vm).vm ∧ (s.setVm vm).vm.findClass cn_3 = some m.cls ∧ CHr Z own_EL s.vm h0 vm h ∧ Exa Z h b cn_2 ∧ Fld Z h b cn_2 "value" "[B" (.ref t) ∧ Fld Z h b cn_2 "coder" "B" (.int 0) ∧ Arv Z h t kk .byte n vs (.int 0)
theorem own_grp {p n : Int32} {ds : List Int32} (hp : (0 : Int32) < p) (h : own_dl p n ds) : (1 ≤ n.toInt ∧ n.toInt ≤ 4) ∨ (5 ≤ n.toInt ∧ n.toInt ≤ 8) ∨ (9 ≤ n.toInt ∧ n.toInt ≤ 10) := by
  have hd := own_dll hp h
  omega
theorem ww0 (hw : HW Z a0) : Cond.before (Cond.methodLink cn_3 7 ({ cls := cn_2, name := "valueOf", desc := cn_31 } : MethodName)) a0 Z = true := own_w hw 0 rfl
theorem ww3 (hw : HW Z a0) : Cond.before (Cond.code ({ cls := cn_2, name := "valueOf", desc := cn_31 } : MethodName) jdk_42_method_139_code 1 (Option.some (FieldType.object cn_2))) a0 Z = true := own_w hw 3 rfl
theorem pd_33 : parseMethodDescriptor cn_31 = some ⟨[.char], some (.object cn_2)⟩ := by decide +kernel
theorem ww1 (hw : HW Z a0) : Cond.before (Cond.static ({ cls := cn_2, name := "valueOf", desc := cn_31 } : MethodName)) a0 Z = true := own_w hw 1 rfl
theorem ww26 (hw : HW Z a0) : Cond.before (Cond.methodLink cn_3 13 ({ cls := cn_1, name := "atCell", desc := cn_8 } : MethodName)) a0 Z = true := own_w hw 26 rfl
theorem ww29 (hw : HW Z a0) : Cond.before (Cond.code ({ cls := cn_1, name := "atCell", desc := cn_8 } : MethodName) prog_12_method_4_code 4 (Option.some (FieldType.object cn_1))) a0 Z = true := own_w hw 29 rfl
theorem pd_34 : parseMethodDescriptor cn_8 = some ⟨[(.object cn_2), .int, (.object cn_2), (.object cn_2)], some (.object cn_1)⟩ := by decide +kernel
theorem ww27 (hw : HW Z a0) : Cond.before (Cond.static ({ cls := cn_1, name := "atCell", desc := cn_8 } : MethodName)) a0 Z = true := own_w hw 27 rfl
theorem ww56 (hw : HW Z a0) : Cond.before (Cond.methodLink cn_3 19 ({ cls := cn_1, name := "code", desc := cn_6 } : MethodName)) a0 Z = true := own_w hw 56 rfl
theorem ww59 (hw : HW Z a0) : Cond.before (Cond.selects cn_1 ({ cls := cn_1, name := "code", desc := cn_6 } : MethodName) ({ cls := cn_1, name := "code", desc := cn_6 } : MethodName)) a0 Z = true := own_w hw 59 rfl
theorem ww60 (hw : HW Z a0) : Cond.before (Cond.code ({ cls := cn_1, name := "code", desc := cn_6 } : MethodName) prog_12_method_6_code 1 (Option.some (FieldType.object cn_2))) a0 Z = true := own_w hw 60 rfl
theorem ww57 (hw : HW Z a0) : Cond.before (Cond.declares ({ cls := cn_1, name := "code", desc := cn_6 } : MethodName)) a0 Z = true := own_w hw 57 rfl
theorem ww58 (hw : HW Z a0) : Cond.before (Cond.instanceMethod ({ cls := cn_1, name := "code", desc := cn_6 } : MethodName)) a0 Z = true := own_w hw 58 rfl
theorem ww61 (hw : HW Z a0) : Cond.before (Cond.methodLink cn_3 23 ({ cls := cn_2, name := "equals", desc := cn_23 } : MethodName)) a0 Z = true := own_w hw 61 rfl
theorem ww64 (hw : HW Z a0) : Cond.before (Cond.selects cn_2 ({ cls := cn_2, name := "equals", desc := cn_23 } : MethodName) ({ cls := cn_2, name := "equals", desc := cn_23 } : MethodName)) a0 Z = true := own_w hw 64 rfl
theorem ww65 (hw : HW Z a0) : Cond.before (Cond.code ({ cls := cn_2, name := "equals", desc := cn_23 } : MethodName) jdk_42_method_66_code 3 (Option.some FieldType.boolean)) a0 Z = true := own_w hw 65 rfl
theorem pd_35 : parseMethodDescriptor cn_23 = some ⟨[(.object cn_15)], some .boolean⟩ := by decide +kernel
theorem ww62 (hw : HW Z a0) : Cond.before (Cond.declares ({ cls := cn_2, name := "equals", desc := cn_23 } : MethodName)) a0 Z = true := own_w hw 62 rfl
theorem ww63 (hw : HW Z a0) : Cond.before (Cond.instanceMethod ({ cls := cn_2, name := "equals", desc := cn_23 } : MethodName)) a0 Z = true := own_w hw 63 rfl
theorem ww66 (hw : HW Z a0) : Cond.before (Cond.methodLink cn_3 27 ({ cls := cn_1, name := "message", desc := cn_6 } : MethodName)) a0 Z = true := own_w hw 66 rfl
theorem ww69 (hw : HW Z a0) : Cond.before (Cond.selects cn_1 ({ cls := cn_1, name := "message", desc := cn_6 } : MethodName) ({ cls := cn_1, name := "message", desc := cn_6 } : MethodName)) a0 Z = true := own_w hw 69 rfl
theorem ww70 (hw : HW Z a0) : Cond.before (Cond.code ({ cls := cn_1, name := "message", desc := cn_6 } : MethodName) prog_12_method_7_code 1 (Option.some (FieldType.object cn_2))) a0 Z = true := own_w hw 70 rfl
theorem ww67 (hw : HW Z a0) : Cond.before (Cond.declares ({ cls := cn_1, name := "message", desc := cn_6 } : MethodName)) a0 Z = true := own_w hw 67 rfl
theorem ww68 (hw : HW Z a0) : Cond.before (Cond.instanceMethod ({ cls := cn_1, name := "message", desc := cn_6 } : MethodName)) a0 Z = true := own_w hw 68 rfl
theorem ww71 (hw : HW Z a0) : Cond.before (Cond.methodLink cn_3 30 ({ cls := cn_1, name := "toString", desc := cn_6 } : MethodName)) a0 Z = true := own_w hw 71 rfl
theorem ww74 (hw : HW Z a0) : Cond.before (Cond.selects cn_1 ({ cls := cn_1, name := "toString", desc := cn_6 } : MethodName) ({ cls := cn_1, name := "toString", desc := cn_6 } : MethodName)) a0 Z = true := own_w hw 74 rfl
theorem ww75 (hw : HW Z a0) : Cond.before (Cond.code ({ cls := cn_1, name := "toString", desc := cn_6 } : MethodName) prog_12_method_11_code 1 (Option.some (FieldType.object cn_2))) a0 Z = true := own_w hw 75 rfl
theorem ww72 (hw : HW Z a0) : Cond.before (Cond.declares ({ cls := cn_1, name := "toString", desc := cn_6 } : MethodName)) a0 Z = true := own_w hw 72 rfl
theorem ww73 (hw : HW Z a0) : Cond.before (Cond.instanceMethod ({ cls := cn_1, name := "toString", desc := cn_6 } : MethodName)) a0 Z = true := own_w hw 73 rfl
theorem ww256 (hw : HW Z a0) : Cond.before (Cond.methodLink cn_3 33 ({ cls := cn_3, name := "digits", desc := "(I)I" } : MethodName)) a0 Z = true := own_w hw 256 rfl
theorem ww258 (hw : HW Z a0) : Cond.before (Cond.code ({ cls := cn_3, name := "digits", desc := "(I)I" } : MethodName) method_7_code 1 (Option.some FieldType.int)) a0 Z = true := own_w hw 258 rfl
theorem ww257 (hw : HW Z a0) : Cond.before (Cond.static ({ cls := cn_3, name := "digits", desc := "(I)I" } : MethodName)) a0 Z = true := own_w hw 257 rfl
theorem ww189 (hw : HW Z a0) : Cond.before (Cond.methodLink cn_3 39 ({ cls := cn_2, name := "length", desc := "()I" } : MethodName)) a0 Z = true := own_w hw 189 rfl
theorem ww190 (hw : HW Z a0) : Cond.before (Cond.methodLink cn_3 43 ({ cls := cn_3, name := "chk", desc := cn_28 } : MethodName)) a0 Z = true := own_w hw 190 rfl
theorem ww193 (hw : HW Z a0) : Cond.before (Cond.code ({ cls := cn_3, name := "chk", desc := cn_28 } : MethodName) method_3_code 8 (Option.some FieldType.boolean)) a0 Z = true := own_w hw 193 rfl
theorem pd_36 : parseMethodDescriptor cn_28 = some ⟨[(.object cn_2), .int, .int, .char, .int, .int, .char, .char], some .boolean⟩ := by decide +kernel
theorem ww191 (hw : HW Z a0) : Cond.before (Cond.static ({ cls := cn_3, name := "chk", desc := cn_28 } : MethodName)) a0 Z = true := own_w hw 191 rfl
abbrev y_50 : MethodName := ⟨cn_3, "law", "(IIII)Z"⟩
theorem ef_law (m : MethodId) (p0 p1 p2 p3 : Int32) : entryFrame m #[(.int p0), (.int p1), (.int p2), (.int p3)] maxLocals = mkF m 0 #[vI p0, vI p1, vI p2, vI p3, u_, u_, u_, u_, u_, u_, u_, u_, u_, u_] [] := by first | (simp [entryFrame, mkF, argsToLocals, Value.category, maxLocals]; done) | rfl
def Q_law (Z : State) (w_0 w_1 : Addr) (w_2 : Int32) (w_3 : Value) (p0 p1 p2 p3 : Int32) (h0 : Heap) (n0 : Nat) (v : Option Value) (h : Heap) (L : List Loc) : Prop := v = some (.int 1) ∧ Fr n0 L
theorem rm_law (l : Launch) (Z : State) (a0 : Array Value) (hw : HW Z a0) (ws : List Jvm.Cond) (w_0 w_1 : Addr) (w_2 : Int32) (w_3 : Value) (p0 p1 p2 p3 : Int32) (h0 : Heap) (n0 : Nat) (Z0 : n0 ≤ h0.size) (ST : own_St Z w_0 w_1 w_2 w_3) (O0 : Old Z n0 h0) :
    MetFree l x (head1 (Jvm.Cond.code x code maxLocals ret :: ws) room_1) (fun a U => a = #[(.int p0), (.int p1), (.int p2), (.int p3)] ∧ Z.Warmed39 U.vm ∧ U.heap = h0 ∧ CHv Z own_EL U.vm h0) (fun _ _ _ _ _ => True) (fun _ U o U' => ∃ v L, o = .returned v ∧ Q_law Z w_0 w_1 w_2 w_3 p0 p1 p2 p3 h0 n0 v U'.heap L ∧ CHr Z own_EL U.vm U.heap U'.vm U'.heap ∧ ReturnedEndW U o U' L 72 1140) := by
  refine MetFree.of_bodySF (plainFor_of_name pn_10) hisR ?_
  intro p e s m args below meth c s₁ Bd hml0 hP hK
  obtain ⟨rfl, hZ, hh, hC⟩ := hP
  have hx := Bd.exec
  have hby := Bd.bytes
  have B := @hb _ _ hby
  have hml : c.maxLocals = 14 := hml0
  have hown : s.vm.findClass cn_3 = some m.cls := findClass_of_methodNamed Bd.named
  have X0 : Stand p l e room_1 (s.setVm s.vm) m #[(.int p0), (.int p1), (.int p2), (.int p3)] below meth c s₁ [] 0 0 := Stand.of_body Bd
  have e0 : s₁.heap = h0 := by rw [← hh, Bd.state]; rfl
  have N0 := Fr.nil n0
  replace hZ : Z.Warmed39 (s.setVm s.vm).vm := hZ
  replace hown : (s.setVm s.vm).vm.findClass cn_3 = some m.cls := hown
  have hS : s.Since s.vm h0.size := (State.WarmedH.refl s).since _
  have hk0 : h0.size ≤ h0.size := Nat.le_refl _
  have C0 : CHr Z own_EL s.vm h0 s.vm h0 := CHr.refl hC
  obtain ⟨G, step, ret, fin⟩ := own_openHX X0 (72) (1140) (Q_law Z w_0 w_1 w_2 w_3 p0 p1 p2 p3 h0 n0) (own_EW hw) hh Bd.notSynchronized
  refine fin (g := entryFrame m #[(.int p0), (.int p1), (.int p2), (.int p3)] maxLocals) ?_
  rw [ef_law m p0 p1 p2 p3]
  obtain ⟨ls0, hls0⟩ := own_sl #[vI p0, vI p1, vI p2, vI p3, u_, u_, u_, u_, u_, u_, u_, u_, u_, u_]
  suffices hG0 : G s₁ (mkF m 0 ls0 []) by rw [hls0] at hG0; exact hG0
  refine step (fun _ => XS.iloadN X0.here hx rfl (B at_0) (by rw [hls0]; rfl)) ?_
  refine step (fun _ => XS.sipush X0.here hx rfl (B at_1)) ?_
  refine step (fun _ => XS.iand X0.here hx rfl (B at_4) rfl) ?_
  refine step (fun _ => XS.i2c X0.here hx rfl (B at_5) rfl) ?_
  show G s₁ (mkF m 6 ls0 [(.int ((p1 &&& (255 : Int32)).toUInt32.toUInt16.toUInt32.toInt32))])
  rw [own_i2c (own_and255 p1)]
  obtain ⟨ls1, hls1⟩ := own_sl #[vI p0, vI p1, vI p2, vI p3, vI ((p1 &&& (255 : Int32))), u_, u_, u_, u_, u_, u_, u_, u_, u_]
  refine step (fun _ => XS.istore X0.here hx rfl (B at_6) rfl (l' := ls1) (by rw [hls0, hls1]; rfl)) ?_
  refine step (fun _ => XS.iloadN X0.here hx rfl (B at_8) (by rw [hls1]; rfl)) ?_
  refine step (fun _ => XS.sipush X0.here hx rfl (B at_9)) ?_
  refine step (fun _ => XS.iand X0.here hx rfl (B at_12) rfl) ?_
  refine step (fun _ => XS.i2c X0.here hx rfl (B at_13) rfl) ?_
  show G s₁ (mkF m 14 ls1 [(.int ((p2 &&& (255 : Int32)).toUInt32.toUInt16.toUInt32.toInt32))])
  rw [own_i2c (own_and255 p2)]
  obtain ⟨ls2, hls2⟩ := own_sl #[vI p0, vI p1, vI p2, vI p3, vI ((p1 &&& (255 : Int32))), vI ((p2 &&& (255 : Int32))), u_, u_, u_, u_, u_, u_, u_, u_]
  refine step (fun _ => XS.istore X0.here hx rfl (B at_14) rfl (l' := ls2) (by rw [hls1, hls2]; rfl)) ?_
  refine step (fun _ => XS.iloadN X0.here hx rfl (B at_16) (by rw [hls2]; rfl)) ?_
  refine step (fun _ => XS.sipush X0.here hx rfl (B at_17)) ?_
  refine step (fun _ => XS.iand X0.here hx rfl (B at_20) rfl) ?_
  refine step (fun _ => XS.i2c X0.here hx rfl (B at_21) rfl) ?_
  show G s₁ (mkF m 22 ls2 [(.int ((p3 &&& (255 : Int32)).toUInt32.toUInt16.toUInt32.toInt32))])
  rw [own_i2c (own_and255 p3)]
  obtain ⟨ls3, hls3⟩ := own_sl #[vI p0, vI p1, vI p2, vI p3, vI ((p1 &&& (255 : Int32))), vI ((p2 &&& (255 : Int32))), vI ((p3 &&& (255 : Int32))), u_, u_, u_, u_, u_, u_, u_]
  refine step (fun _ => XS.istore X0.here hx rfl (B at_22) rfl (l' := ls3) (by rw [hls2, hls3]; rfl)) ?_
  refine step (fun _ => XS.iload X0.here hx rfl (B at_24) (by rw [hls3]; rfl)) ?_
  have hK4 := (backOf (R := room_1) (p := p) (e := e) (below := below) (args := #[(.int p0), (.int p1), (.int p2), (.int p3)]) (len := 3) (W := 0) (rm_val l Z a0 hw [] w_0 w_1 w_2 w_3 (p1 &&& (255 : Int32)) h0 n0 (own_old_le O0) ST O0 (own_and255 p1)) hZ (ww3 hw) (ww2 hw) (by decide) (by decide))
  obtain ⟨_, _, ⟨T4, L4, k4, n4⟩, -, X4, ⟨Lc4, hQ4, l4, y4, z4⟩, st4⟩ := Jvm.LawKit.callS X0 hx (y := y_5) hown (mvT hZ (ww0 hw)) (mvT hZ (ww1 hw)) (mvT hZ (ww2 hw)) (mvT hZ (ww3 hw)) (by decide) hK4 (g := (mkF m 26 ls3 [(.int (p1 &&& (255 : Int32)))])) rfl (by rw [hml, hls3]; rfl) (argsL := [(.int (p1 &&& (255 : Int32)))]) (rest := []) (lenOf pd_33 rfl) rfl (by show 2 * 0 + _ ≤ _; exact Nat.le_of_eq rfl) (B at_26) (fun _ _ => ⟨rfl, e0, (by decide : 0 + 2 ≤ _), (by decide : 0 + 5 ≤ _)⟩)
  dsimp only [Pt.U, Pt.locs, Pt.cells, Pt.slots] at X4 l4 y4 z4 st4 hQ4
  subst l4 y4 z4
  obtain ⟨b4, t_4, kb_4, rfl, N4q, K4q, Y4_0, Y4_1, Y4_2, Y4_3, Y4_4, Y4_5⟩ := hQ4
  have N4 := Fr.app N0 N4q
  obtain ⟨lc4, X4, N4⟩ := own_gen X4 N4
  have cz4 : CHr Z own_EL s.vm h0 s.vm T4.heap := CHr.keep K4q all0 C0.1
  have C4 : CHr Z own_EL s.vm h0 s.vm T4.heap := C0.trans cz4
  have O4 := O0.keep K4q all0
  have hk4 : _ ≤ T4.heap.size := Nat.le_trans hk0 K4q.1
  refine step (fun t k => st4 t k) ?_
  obtain ⟨ls5, hls5⟩ := own_sl #[vI p0, vI p1, vI p2, vI p3, vI ((p1 &&& (255 : Int32))), vI ((p2 &&& (255 : Int32))), vI ((p3 &&& (255 : Int32))), vR b4, u_, u_, u_, u_, u_, u_]
  refine step (fun _ => XS.astore X4.here hx rfl (B at_29) rfl rfl (l' := ls5) (by rw [hls3, hls5]; rfl)) ?_
  refine step (fun _ => XS.iload X4.here hx rfl (B at_31) (by rw [hls5]; rfl)) ?_
  have hK6 := (backOf (R := room_1) (p := p) (e := e) (below := below) (args := #[(.int p0), (.int p1), (.int p2), (.int p3)]) (len := 3) (W := 0) (rm_val l Z a0 hw [] w_0 w_1 w_2 w_3 (p2 &&& (255 : Int32)) T4.heap n0 (own_old_le O4) ST O4 (own_and255 p2)) hZ (ww3 hw) (ww2 hw) (by decide) (by decide))
  obtain ⟨_, _, ⟨T6, L6, k6, n6⟩, -, X6, ⟨Lc6, hQ6, l6, y6, z6⟩, st6⟩ := Jvm.LawKit.callS X4 hx (y := y_5) hown (mvT hZ (ww0 hw)) (mvT hZ (ww1 hw)) (mvT hZ (ww2 hw)) (mvT hZ (ww3 hw)) (by decide) hK6 (g := (mkF m 33 ls5 [(.int (p2 &&& (255 : Int32)))])) rfl (by rw [hml, hls5]; rfl) (argsL := [(.int (p2 &&& (255 : Int32)))]) (rest := []) (lenOf pd_33 rfl) rfl (by show 2 * 0 + _ ≤ _; exact Nat.le_of_eq rfl) (B at_33) (fun _ _ => ⟨rfl, rfl, (by decide : 2 + 2 ≤ _), (by decide : 5 + 5 ≤ _)⟩)
  dsimp only [Pt.U, Pt.locs, Pt.cells, Pt.slots] at X6 l6 y6 z6 st6 hQ6
  subst l6 y6 z6
  obtain ⟨b6, t_6, kb_6, rfl, N6q, K6q, Y6_0, Y6_1, Y6_2, Y6_3, Y6_4, Y6_5⟩ := hQ6
  have N6 := Fr.app N4 N6q
  obtain ⟨lc6, X6, N6⟩ := own_gen X6 N6
  have cz6 : CHr Z own_EL s.vm T4.heap s.vm T6.heap := CHr.keep K6q all0 C4.1
  have C6 : CHr Z own_EL s.vm h0 s.vm T6.heap := C4.trans cz6
  have O6 := O4.keep K6q all0
  have hk6 : _ ≤ T6.heap.size := Nat.le_trans hk4 K6q.1
  refine step (fun t k => st6 t k) ?_
  obtain ⟨ls7, hls7⟩ := own_sl #[vI p0, vI p1, vI p2, vI p3, vI ((p1 &&& (255 : Int32))), vI ((p2 &&& (255 : Int32))), vI ((p3 &&& (255 : Int32))), vR b4, vR b6, u_, u_, u_, u_, u_]
  refine step (fun _ => XS.astore X6.here hx rfl (B at_36) rfl rfl (l' := ls7) (by rw [hls5, hls7]; rfl)) ?_
  refine step (fun _ => XS.iload X6.here hx rfl (B at_38) (by rw [hls7]; rfl)) ?_
  have hK8 := (backOf (R := room_1) (p := p) (e := e) (below := below) (args := #[(.int p0), (.int p1), (.int p2), (.int p3)]) (len := 3) (W := 0) (rm_val l Z a0 hw [] w_0 w_1 w_2 w_3 (p3 &&& (255 : Int32)) T6.heap n0 (own_old_le O6) ST O6 (own_and255 p3)) hZ (ww3 hw) (ww2 hw) (by decide) (by decide))
  obtain ⟨_, _, ⟨T8, L8, k8, n8⟩, -, X8, ⟨Lc8, hQ8, l8, y8, z8⟩, st8⟩ := Jvm.LawKit.callS X6 hx (y := y_5) hown (mvT hZ (ww0 hw)) (mvT hZ (ww1 hw)) (mvT hZ (ww2 hw)) (mvT hZ (ww3 hw)) (by decide) hK8 (g := (mkF m 40 ls7 [(.int (p3 &&& (255 : Int32)))])) rfl (by rw [hml, hls7]; rfl) (argsL := [(.int (p3 &&& (255 : Int32)))]) (rest := []) (lenOf pd_33 rfl) rfl (by show 2 * 0 + _ ≤ _; exact Nat.le_of_eq rfl) (B at_40) (fun _ _ => ⟨rfl, rfl, (by decide : 4 + 2 ≤ _), (by decide : 10 + 5 ≤ _)⟩)
  dsimp only [Pt.U, Pt.locs, Pt.cells, Pt.slots] at X8 l8 y8 z8 st8 hQ8
  subst l8 y8 z8
  have f9 := (Exa.keep Y4_2 K6q)
  have f10 := (Arv.keep Y4_5 K6q nin0)
  obtain ⟨b8, t_8, kb_8, rfl, N8q, K8q, Y8_0, Y8_1, Y8_2, Y8_3, Y8_4, Y8_5⟩ := hQ8
  have N8 := Fr.app N6 N8q
  obtain ⟨lc8, X8, N8⟩ := own_gen X8 N8
  have cz8 : CHr Z own_EL s.vm T6.heap s.vm T8.heap := CHr.keep K8q all0 C6.1
  have C8 : CHr Z own_EL s.vm h0 s.vm T8.heap := C6.trans cz8
  have O8 := O6.keep K8q all0
  have hk8 : _ ≤ T8.heap.size := Nat.le_trans hk6 K8q.1
  refine step (fun t k => st8 t k) ?_
  obtain ⟨ls11, hls11⟩ := own_sl #[vI p0, vI p1, vI p2, vI p3, vI ((p1 &&& (255 : Int32))), vI ((p2 &&& (255 : Int32))), vI ((p3 &&& (255 : Int32))), vR b4, vR b6, vR b8, u_, u_, u_, u_]
  refine step (fun _ => XS.astore X8.here hx rfl (B at_43) rfl rfl (l' := ls11) (by rw [hls7, hls11]; rfl)) ?_
  refine step (fun _ => XS.aload X8.here hx rfl (B at_45) (by rw [hls11]; rfl) rfl) ?_
  refine step (fun _ => XS.iloadN X8.here hx rfl (B at_47) (by rw [hls11]; rfl)) ?_
  refine step (fun _ => XS.aload X8.here hx rfl (B at_48) (by rw [hls11]; rfl) rfl) ?_
  refine step (fun _ => XS.aload X8.here hx rfl (B at_50) (by rw [hls11]; rfl) rfl) ?_
  show G T8 (mkF m 52 ls11 [(.ref b8), (.ref b6), (.int p0), (.ref b4)])
  have f13 := (Exa.keep f9 K8q)
  have f14 := (Exa.keep Y6_2 K8q)
  have hK12 := (backOfSH (s := s) (vm0 := s.vm) (R := room_1) (p := p) (e := e) (below := below) (args := #[(.int p0), (.int p1), (.int p2), (.int p3)]) (len := 3) (W := 0) (rm_at l Z a0 hw [] w_0 w_1 w_2 w_3 b4 p0 b6 b8 T8.heap n0 (own_old_le O8) ST O8 f13 f14 Y8_2) hZ (ww29 hw) (ww28 hw) (by decide) (by decide) (own_EW hw) C8.1)
  obtain ⟨_, _, ⟨T12, L12, k12, n12⟩, -, X12, hS12, hg12, ⟨Lc12, hQ12, l12, y12, z12, hC12⟩, st12⟩ := callSS X8 hx (y := y_40) hown (mvT hZ (ww26 hw)) (mvT hZ (ww27 hw)) (mvT hZ (ww28 hw)) (mvT hZ (ww29 hw)) (by decide) hK12 (g := (mkF m 52 ls11 [(.ref b8), (.ref b6), (.int p0), (.ref b4)])) rfl (by rw [hml, hls11]; rfl) (argsL := [(.ref b4), (.int p0), (.ref b6), (.ref b8)]) (rest := []) (lenOf pd_34 rfl) rfl (by show 2 * 0 + _ ≤ _; exact Nat.le_of_eq rfl) (B at_52) (fun _ _ => ⟨rfl, rfl, (by decide : 6 + 7 ≤ _), (by decide : 15 + 85 ≤ _)⟩)
  dsimp only [Pt.U, Pt.locs, Pt.cells, Pt.slots] at X12 l12 y12 z12 st12 hQ12 hS12 hg12 hC12
  subst l12 y12 z12
  obtain ⟨X12, hS, hZ, hown⟩ := rebS (s := s) hS hk8 X12 hS12 hg12 hZ hown
  have f15 := (Arv.keep f10 K8q nin0)
  have f16 := (Arv.keep Y6_5 K8q nin0)
  obtain ⟨b12, rfl, N12q, K12q, Y12_0, Y12_1, Y12_2, Y12_3, Y12_4, Y12_5, Y12_6⟩ := hQ12
  have N12 := Fr.app N8 N12q
  obtain ⟨lc12, X12, N12⟩ := own_gen X12 N12
  have cz12 : CHr Z own_EL s.vm T8.heap T12.vm T12.heap := hC12
  have C12 : CHr Z own_EL s.vm h0 T12.vm T12.heap := C8.trans cz12
  have O12 := O8.keep K12q all0
  have hk12 : _ ≤ T12.heap.size := Nat.le_refl _
  refine step (fun t k => st12.trans k) ?_
  obtain ⟨ls17, hls17⟩ := own_sl #[vI p0, vI p1, vI p2, vI p3, vI ((p1 &&& (255 : Int32))), vI ((p2 &&& (255 : Int32))), vI ((p3 &&& (255 : Int32))), vR b4, vR b6, vR b8, vR b12, u_, u_, u_]
  refine step (fun _ => XS.astore X12.here hx rfl (B at_55) rfl rfl (l' := ls17) (by rw [hls11, hls17]; rfl)) ?_
  refine step (fun _ => XS.aload X12.here hx rfl (B at_57) (by rw [hls17]; rfl) rfl) ?_
  have hK18 := (backOf (R := room_1) (p := p) (e := e) (below := below) (args := #[(.int p0), (.int p1), (.int p2), (.int p3)]) (len := 3) (W := 0) (rm_cd l Z a0 hw [] b12 b4 T12.heap n0 (own_old_le O12) O12 Y12_2) hZ (ww60 hw) (ww28 hw) (by decide) (by decide))
  obtain ⟨cq18, kq18, q18a, q18b, q18c⟩ := isOf hZ rfl Y12_1
  obtain ⟨_, _, ⟨T18, L18, k18, n18⟩, -, X18, ⟨Lc18, hQ18, l18, y18, z18⟩, st18⟩ := X12.virtualBack hx (y := y_41) (z := y_41) hown (mvT hZ (ww56 hw)) (mvT hZ (ww57 hw)) (notFace_of_selects (args := #[]) (mvT hZ (ww59 hw))) (mvT hZ (ww59 hw)) (mvT hZ (ww58 hw)) (by decide) hK18 q18a q18c (g := (mkF m 59 ls17 [(.ref b12)])) rfl (by rw [hml, hls17]; rfl) (Steps.refl _) (argsL := []) (rest := []) (lenOf pd_28 rfl) rfl (by show 2 * 0 + _ ≤ _; exact Nat.le_of_eq rfl) (B at_59) (fun _ _ => ⟨rfl, rfl, (by decide : 13 + 0 ≤ _), (by decide : 100 + 0 ≤ _)⟩)
  dsimp only [Pt.U, Pt.locs, Pt.cells, Pt.slots] at X18 l18 y18 z18 st18 hQ18
  subst l18 y18 z18
  obtain ⟨rfl, N18q, e18⟩ := hQ18
  have N18 := Fr.app N12 N18q
  obtain ⟨lc18, X18, N18⟩ := own_gen X18 N18
  refine step (fun t k => st18.trans k) ?_
  have r19 : (f_cd b12 b4) = b4 := rfl
  rw [r19]
  refine step (fun _ => XS.aload X18.here hx rfl (B at_62) (by rw [hls17]; rfl) rfl) ?_
  have hK20 := (backOf (R := room_1) (p := p) (e := e) (below := below) (args := #[(.int p0), (.int p1), (.int p2), (.int p3)]) (len := 3) (W := 0) (rm_eqs l Z a0 hw [] b4 T12.heap n0 (own_old_le O12) O12) hZ (ww65 hw) (ww2 hw) (by decide) (by decide))
  have f21 := (Exa.keep f13 K12q)
  obtain ⟨cq20, kq20, q20a, q20b, q20c⟩ := isOf hZ e18 f21
  obtain ⟨_, _, ⟨T20, L20, k20, n20⟩, -, X20, ⟨Lc20, hQ20, l20, y20, z20⟩, st20⟩ := X18.virtualBack hx (y := y_43) (z := y_43) hown (mvT hZ (ww61 hw)) (mvT hZ (ww62 hw)) (notFace_of_selects (args := #[]) (mvT hZ (ww64 hw))) (mvT hZ (ww64 hw)) (mvT hZ (ww63 hw)) (by decide) hK20 q20a q20c (g := (mkF m 64 ls17 [(.ref b4), (.ref b4)])) rfl (by rw [hml, hls17]; rfl) (Steps.refl _) (argsL := [(.ref b4)]) (rest := []) (lenOf pd_35 rfl) rfl (by show 2 * 0 + _ ≤ _; exact Nat.le_of_eq rfl) (B at_64) (fun _ _ => ⟨rfl, e18, (by decide : 13 + 0 ≤ _), (by decide : 100 + 0 ≤ _)⟩)
  dsimp only [Pt.U, Pt.locs, Pt.cells, Pt.slots] at X20 l20 y20 z20 st20 hQ20
  subst l20 y20 z20
  obtain ⟨rfl, N20q, e20⟩ := hQ20
  have N20 := Fr.app N18 N20q
  obtain ⟨lc20, X20, N20⟩ := own_gen X20 N20
  refine step (fun t k => st20.trans k) ?_
  have r22 : (f_eqs b4) = (1 : Int32) := rfl
  rw [r22]
  refine step (fun _ => XS.ifYes X20.here hx rfl (pc0 := 67) (pc' := 72) rfl (B at_67) rfl ((if0 _ _).trans (feq (by decide : ¬ ((1 : Int32) = (0 : Int32)))).2) (by decide) (by decide)) ?_
  refine step (fun _ => XS.aload X20.here hx rfl (B at_72) (by rw [hls17]; rfl) rfl) ?_
  have hK23 := (backOf (R := room_1) (p := p) (e := e) (below := below) (args := #[(.int p0), (.int p1), (.int p2), (.int p3)]) (len := 3) (W := 0) (rm_ms l Z a0 hw [] b12 b8 T12.heap n0 (own_old_le O12) O12 Y12_3) hZ (ww70 hw) (ww28 hw) (by decide) (by decide))
  obtain ⟨cq23, kq23, q23a, q23b, q23c⟩ := isOf hZ e20 Y12_1
  obtain ⟨_, _, ⟨T23, L23, k23, n23⟩, -, X23, ⟨Lc23, hQ23, l23, y23, z23⟩, st23⟩ := X20.virtualBack hx (y := y_42) (z := y_42) hown (mvT hZ (ww66 hw)) (mvT hZ (ww67 hw)) (notFace_of_selects (args := #[]) (mvT hZ (ww69 hw))) (mvT hZ (ww69 hw)) (mvT hZ (ww68 hw)) (by decide) hK23 q23a q23c (g := (mkF m 74 ls17 [(.ref b12)])) rfl (by rw [hml, hls17]; rfl) (Steps.refl _) (argsL := []) (rest := []) (lenOf pd_28 rfl) rfl (by show 2 * 0 + _ ≤ _; exact Nat.le_of_eq rfl) (B at_74) (fun _ _ => ⟨rfl, e20, (by decide : 13 + 0 ≤ _), (by decide : 100 + 0 ≤ _)⟩)
  dsimp only [Pt.U, Pt.locs, Pt.cells, Pt.slots] at X23 l23 y23 z23 st23 hQ23
  subst l23 y23 z23
  obtain ⟨rfl, N23q, e23⟩ := hQ23
  have N23 := Fr.app N20 N23q
  obtain ⟨lc23, X23, N23⟩ := own_gen X23 N23
  refine step (fun t k => st23.trans k) ?_
  have r24 : (f_ms b12 b8) = b8 := rfl
  rw [r24]
  refine step (fun _ => XS.aload X23.here hx rfl (B at_77) (by rw [hls17]; rfl) rfl) ?_
  have hK25 := (backOf (R := room_1) (p := p) (e := e) (below := below) (args := #[(.int p0), (.int p1), (.int p2), (.int p3)]) (len := 3) (W := 0) (rm_eqs l Z a0 hw [] b8 T12.heap n0 (own_old_le O12) O12) hZ (ww65 hw) (ww2 hw) (by decide) (by decide))
  have f26 := (Exa.keep Y8_2 K12q)
  obtain ⟨cq25, kq25, q25a, q25b, q25c⟩ := isOf hZ e23 f26
  obtain ⟨_, _, ⟨T25, L25, k25, n25⟩, -, X25, ⟨Lc25, hQ25, l25, y25, z25⟩, st25⟩ := X23.virtualBack hx (y := y_43) (z := y_43) hown (mvT hZ (ww61 hw)) (mvT hZ (ww62 hw)) (notFace_of_selects (args := #[]) (mvT hZ (ww64 hw))) (mvT hZ (ww64 hw)) (mvT hZ (ww63 hw)) (by decide) hK25 q25a q25c (g := (mkF m 79 ls17 [(.ref b8), (.ref b8)])) rfl (by rw [hml, hls17]; rfl) (Steps.refl _) (argsL := [(.ref b8)]) (rest := []) (lenOf pd_35 rfl) rfl (by show 2 * 0 + _ ≤ _; exact Nat.le_of_eq rfl) (B at_79) (fun _ _ => ⟨rfl, e23, (by decide : 13 + 0 ≤ _), (by decide : 100 + 0 ≤ _)⟩)
  dsimp only [Pt.U, Pt.locs, Pt.cells, Pt.slots] at X25 l25 y25 z25 st25 hQ25
  subst l25 y25 z25
  obtain ⟨rfl, N25q, e25⟩ := hQ25
  have N25 := Fr.app N23 N25q
  obtain ⟨lc25, X25, N25⟩ := own_gen X25 N25
  refine step (fun t k => st25.trans k) ?_
  have r27 : (f_eqs b8) = (1 : Int32) := rfl
  rw [r27]
  refine step (fun _ => XS.ifYes X25.here hx rfl (pc0 := 82) (pc' := 87) rfl (B at_82) rfl ((if0 _ _).trans (feq (by decide : ¬ ((1 : Int32) = (0 : Int32)))).2) (by decide) (by decide)) ?_
  refine step (fun _ => XS.aload X25.here hx rfl (B at_87) (by rw [hls17]; rfl) rfl) ?_
  have f29 := (Fld.keep (Fld.keep (Fld.keep Y4_3 K6q nin0) K8q nin0) K12q nin0)
  have f30 := (Fld.keep (Fld.keep (Fld.keep Y4_4 K6q nin0) K8q nin0) K12q nin0)
  have f31 := (Arv.keep f15 K12q nin0)
  have f32 := (Exa.keep f14 K12q)
  have f33 := (Fld.keep (Fld.keep Y6_3 K8q nin0) K12q nin0)
  have f34 := (Fld.keep (Fld.keep Y6_4 K8q nin0) K12q nin0)
  have f35 := (Arv.keep f16 K12q nin0)
  have f36 := (Fld.keep Y8_3 K12q nin0)
  have f37 := (Fld.keep Y8_4 K12q nin0)
  have f38 := (Arv.keep Y8_5 K12q nin0)
  have hK28 := (backOfSH (s := s) (vm0 := T12.vm) (R := room_1) (p := p) (e := e) (below := below) (args := #[(.int p0), (.int p1), (.int p2), (.int p3)]) (len := 3) (W := 0) (rm_pt l Z a0 hw [] w_0 w_1 w_2 w_3 b12 p0 b4 t_4 kb_4 (p1 &&& (255 : Int32)) b6 t_6 kb_6 (p2 &&& (255 : Int32)) b8 t_8 kb_8 (p3 &&& (255 : Int32)) T12.heap n0 (own_old_le O12) ST O12 Y12_1 Y12_2 Y12_3 Y12_4 Y12_5 Y12_6 f21 f29 f30 f31 (own_and255 p1) f32 f33 f34 f35 (own_and255 p2) f26 f36 f37 f38 (own_and255 p3)) hZ (ww75 hw) (ww28 hw) (by decide) (by decide) (own_EW hw) C12.1)
  obtain ⟨cq28, kq28, q28a, q28b, q28c⟩ := isOf hZ e25 Y12_1
  obtain ⟨_, _, ⟨T28, L28, k28, n28⟩, -, X28, hS28, hg28, ⟨Lc28, hQ28, l28, y28, z28, hC28⟩, st28⟩ := X25.virtualBackS hx (y := y_44) (z := y_44) hown (mvT hZ (ww71 hw)) (mvT hZ (ww72 hw)) (notFace_of_selects (args := #[]) (mvT hZ (ww74 hw))) (mvT hZ (ww74 hw)) (mvT hZ (ww73 hw)) (by decide) hK28 q28a q28c (g := (mkF m 89 ls17 [(.ref b12)])) rfl (by rw [hml, hls17]; rfl) (Steps.refl _) (argsL := []) (rest := []) (lenOf pd_28 rfl) rfl (by show 2 * 0 + _ ≤ _; exact Nat.le_of_eq rfl) (B at_89) (fun _ _ => ⟨rfl, e25, (by decide : 13 + 25 ≤ _), (by decide : 100 + 428 ≤ _)⟩)
  dsimp only [Pt.U, Pt.locs, Pt.cells, Pt.slots] at X28 l28 y28 z28 st28 hQ28 hS28 hg28 hC28
  subst l28 y28 z28
  obtain ⟨X28, hS, hZ, hown⟩ := rebS (s := s) hS (by rw [e25]; exact hk12) X28 hS28 hg28 hZ hown
  obtain ⟨b28, t_28, kk_28, n_28, cs_28, rfl, N28q, K28q, Y28_0, Y28_1, Y28_2, Y28_3, Y28_4, Y28_5, Y28_6, Y28_7⟩ := hQ28
  have N28 := Fr.app N25 N28q
  obtain ⟨lc28, X28, N28⟩ := own_gen X28 N28
  have cz28 : CHr Z own_EL T12.vm T12.heap T28.vm T28.heap := hC28
  have C28 : CHr Z own_EL s.vm h0 T28.vm T28.heap := C12.trans cz28
  have O28 := O12.keep K28q all0
  have hk28 : _ ≤ T28.heap.size := Nat.le_refl _
  refine step (fun t k => st28.trans k) ?_
  obtain ⟨ls39, hls39⟩ := own_sl #[vI p0, vI p1, vI p2, vI p3, vI ((p1 &&& (255 : Int32))), vI ((p2 &&& (255 : Int32))), vI ((p3 &&& (255 : Int32))), vR b4, vR b6, vR b8, vR b12, vR b28, u_, u_]
  refine step (fun _ => XS.astore X28.here hx rfl (B at_92) rfl rfl (l' := ls39) (by rw [hls17, hls39]; rfl)) ?_
  by_cases hp : (0 : Int32) < p0
  · skip
    obtain ⟨n9, ds9, dl9, he9⟩ := own_isTp hp Y28_7
    refine step (fun _ => XS.iloadN X28.here hx rfl (B at_94) (by rw [hls39]; rfl)) ?_
    refine step (fun _ => XS.ifNo X28.here hx rfl (B at_95) rfl ((if0 _ _).trans (tlt hp).2.2.2)) ?_
    refine step (fun _ => XS.iloadN X28.here hx rfl (B at_98) (by rw [hls39]; rfl)) ?_
    have hK40 := (backOf (R := room_1) (p := p) (e := e) (below := below) (args := #[(.int p0), (.int p1), (.int p2), (.int p3)]) (len := 3) (W := 0) (rm_dg l Z a0 hw [] p0 T28.heap n0 (own_old_le O28) O28) hZ (ww258 hw) (ww192 hw) (by decide) (by decide))
    obtain ⟨_, _, ⟨T40, L40, k40, n40⟩, -, X40, ⟨Lc40, hQ40, l40, y40, z40⟩, st40⟩ := Jvm.LawKit.callS X28 hx (y := y_45) hown (mvT hZ (ww256 hw)) (mvT hZ (ww257 hw)) (mvT hZ (ww192 hw)) (mvT hZ (ww258 hw)) (by decide) hK40 (g := (mkF m 99 ls39 [(.int p0)])) rfl (by rw [hml, hls39]; rfl) (argsL := [(.int p0)]) (rest := []) (lenOf pd_11 rfl) rfl (by show 2 * 0 + _ ≤ _; exact Nat.le_of_eq rfl) (B at_99) (fun _ _ => ⟨rfl, rfl, (by decide : 38 + 0 ≤ _), (by decide : 528 + 0 ≤ _)⟩)
    dsimp only [Pt.U, Pt.locs, Pt.cells, Pt.slots] at X40 l40 y40 z40 st40 hQ40
    subst l40 y40 z40
    obtain ⟨rfl, N40q, e40⟩ := hQ40
    have N40 := Fr.app N28 N40q
    obtain ⟨lc40, X40, N40⟩ := own_gen X40 N40
    refine step (fun t k => st40 t k) ?_
    show G T40 (mkF m 102 ls39 [(.int (f_dg p0))])
    rw [own_dgn hp dl9]
    refine step (fun _ => XS.goto X40.here hx rfl (pc0 := 102) (pc' := 106) rfl (B at_102) (by decide) (by decide)) ?_
    obtain ⟨ls41, hls41⟩ := own_sl #[vI p0, vI p1, vI p2, vI p3, vI ((p1 &&& (255 : Int32))), vI ((p2 &&& (255 : Int32))), vI ((p3 &&& (255 : Int32))), vR b4, vR b6, vR b8, vR b12, vR b28, vI n9, u_]
    refine step (fun _ => XS.istore X40.here hx rfl (B at_106) rfl (l' := ls41) (by rw [hls39, hls41]; rfl)) ?_
    refine step (fun _ => XS.iloadN X40.here hx rfl (B at_108) (by rw [hls41]; rfl)) ?_
    refine step (fun _ => XS.ifNo X40.here hx rfl (B at_109) rfl ((if0 _ _).trans (tlt hp).2.2.2)) ?_
    refine step (fun _ => XS.bipush X40.here hx rfl (B at_112)) ?_
    refine step (fun _ => XS.iload X40.here hx rfl (B at_114) (by rw [hls41]; rfl)) ?_
    show G T40 (mkF m 116 ls41 [(.int n9), (.int 19)])
    refine step (fun _ => XS.iadd X40.here hx rfl (B at_116) rfl) ?_
    refine step (fun _ => XS.goto X40.here hx rfl (pc0 := 117) (pc' := 122) rfl (B at_117) (by decide) (by decide)) ?_
    obtain ⟨ls42, hls42⟩ := own_sl #[vI p0, vI p1, vI p2, vI p3, vI ((p1 &&& (255 : Int32))), vI ((p2 &&& (255 : Int32))), vI ((p3 &&& (255 : Int32))), vR b4, vR b6, vR b8, vR b12, vR b28, vI n9, vI (((19 : Int32) + n9))]
    refine step (fun _ => XS.istore X40.here hx rfl (B at_122) rfl (l' := ls42) (by rw [hls41, hls42]; rfl)) ?_
    refine step (fun _ => XS.aload X40.here hx rfl (B at_124) (by rw [hls42]; rfl) rfl) ?_
    have hK43 := (backOf (R := room_1) (p := p) (e := e) (below := below) (args := #[(.int p0), (.int p1), (.int p2), (.int p3)]) (len := 3) (W := 0) (rm_le l Z a0 hw [] w_0 w_1 w_2 w_3 b28 t_28 kk_28 n_28 cs_28 T28.heap n0 (own_old_le O28) ST O28 Y28_2 Y28_3 Y28_4 Y28_5 Y28_6) hZ (ww108 hw) (ww2 hw) (by decide) (by decide))
    obtain ⟨cq43, kq43, q43a, q43b, q43c⟩ := isOf hZ e40 Y28_2
    obtain ⟨_, _, ⟨T43, L43, k43, n43⟩, -, X43, ⟨Lc43, hQ43, l43, y43, z43⟩, st43⟩ := X40.virtualBack hx (y := y_1) (z := y_1) hown (mvT hZ (ww189 hw)) (mvT hZ (ww105 hw)) (notFace_of_selects (args := #[]) (mvT hZ (ww107 hw))) (mvT hZ (ww107 hw)) (mvT hZ (ww106 hw)) (by decide) hK43 q43a q43c (g := (mkF m 126 ls42 [(.ref b28)])) rfl (by rw [hml, hls42]; rfl) (Steps.refl _) (argsL := []) (rest := []) (lenOf pd_15 rfl) rfl (by show 2 * 0 + _ ≤ _; exact Nat.le_of_eq rfl) (B at_126) (fun _ _ => ⟨rfl, e40, (by decide : 38 + 0 ≤ _), (by decide : 528 + 0 ≤ _)⟩)
    dsimp only [Pt.U, Pt.locs, Pt.cells, Pt.slots] at X43 l43 y43 z43 st43 hQ43
    subst l43 y43 z43
    obtain ⟨rfl, N43q, e43⟩ := hQ43
    have N43 := Fr.app N40 N43q
    obtain ⟨lc43, X43, N43⟩ := own_gen X43 N43
    refine step (fun t k => st43.trans k) ?_
    have r44 : (f_le w_0 w_1 w_2 w_3 b28 t_28 kk_28 n_28 cs_28) = n_28 := rfl
    rw [r44]
    refine step (fun _ => XS.iload X43.here hx rfl (B at_129) (by rw [hls42]; rfl)) ?_
    refine step (fun _ => XS.icmpYes X43.here hx rfl (pc0 := 131) (pc' := 136) rfl (B at_131) rfl (teq (own_l19 hp dl9 Y28_6 he9)).1 (by decide) (by decide)) ?_
    have ckL : ∀ (i : Int32) (P0 : Nat) (off : Int), decode c.code P0 = .ok (.iload 13, 2) → decode c.code (P0 + 2) = .ok (.iload 4, 2) → decode c.code (P0 + 4) = .ok (.iload_n 0, 1) → decode c.code (P0 + 5) = .ok (.iload 12, 2) → decode c.code (P0 + 7) = .ok (.iload 5, 2) → decode c.code (P0 + 9) = .ok (.iload 6, 2) → decode c.code (P0 + 11) = .ok (.invokestatic 43, 3) → decode c.code (P0 + 14) = .ok (.ifCond .eq off, 3) → ∀ (Tc : State) (lcc : List Loc) (ce sl : Nat) (vmc : Vm) (hc : Heap) (kc : Nat), own_CP p l e s m #[(.int p0), (.int p1), (.int p2), (.int p3)] below meth c Z h0 n0 b28 t_28 kk_28 n_28 (own_by cs_28) Tc lcc ce sl vmc hc kc → ¬ i < 0 → ce + 2 ≤ room_1.cells → sl + 36 ≤ room_1.slots → (∀ (Td : State) (lcd : List Loc) (vmd : Vm) (hd : Heap) (kd : Nat), own_CP p l e s m #[(.int p0), (.int p1), (.int p2), (.int p3)] below meth c Z h0 n0 b28 t_28 kk_28 n_28 (own_by cs_28) Td lcd (ce + 2) (sl + 36) vmd hd kd → G Td (mkF m (P0 + 17) ls42 [])) → G Tc (mkF m P0 ls42 [(.int i), (.ref b28)]) := by
      rintro i P0 off hd0 hd2 hd4 hd5 hd7 hd9 hd11 hd14 Tc lcc ce sl vmc hc kc ⟨Xc, ec, Nc, Oc, hS, hkc, hZ, hown, Cc, Ec, Fvc, Fcc, Vc⟩ hi0 hce hsl KT
      refine step (fun _ => XS.iload Xc.here hx rfl hd0 (by rw [hls42]; rfl)) ?_
      refine step (fun _ => XS.iload Xc.here hx rfl hd2 (by rw [hls42]; rfl)) ?_
      refine step (fun _ => XS.iloadN Xc.here hx rfl hd4 (by rw [hls42]; rfl)) ?_
      show G Tc (mkF m (P0 + 5) ls42 [(.int p0), (.int (p1 &&& (255 : Int32))), (.int ((19 : Int32) + n9)), (.int i), (.ref b28)])
      refine step (fun _ => XS.iload Xc.here hx rfl hd5 (by rw [hls42]; rfl)) ?_
      refine step (fun _ => XS.iload Xc.here hx rfl hd7 (by rw [hls42]; rfl)) ?_
      refine step (fun _ => XS.iload Xc.here hx rfl hd9 (by rw [hls42]; rfl)) ?_
      have hK45 := (backOfSH (s := s) (vm0 := vmc) (R := room_1) (p := p) (e := e) (below := below) (args := #[(.int p0), (.int p1), (.int p2), (.int p3)]) (len := 3) (W := 0) (rm_kAL l Z a0 hw [] w_0 w_1 w_2 w_3 b28 i ((19 : Int32) + n9) (p1 &&& (255 : Int32)) p0 n9 (p2 &&& (255 : Int32)) (p3 &&& (255 : Int32)) t_28 kk_28 n_28 cs_28 ds9 hc n0 (own_old_le Oc) ST Oc Ec Fvc Fcc Vc Y28_6 (hi0 : ¬ (i < (0 : Int32))) (hp : (0 : Int32) < p0) dl9 (own_l19 hp dl9 Y28_6 he9).symm he9 (own_and255 p1) (own_and255 p2) (own_and255 p3)) hZ (ww193 hw) (ww192 hw) (by decide) (by decide) (own_EW hw) Cc.1)
      obtain ⟨_, _, ⟨T45, L45, k45, n45⟩, -, X45, hS45, hg45, ⟨Lc45, hQ45, l45, y45, z45, hC45⟩, st45⟩ := callSS Xc hx (y := y_49) hown (mvT hZ (ww190 hw)) (mvT hZ (ww191 hw)) (mvT hZ (ww192 hw)) (mvT hZ (ww193 hw)) (by decide) hK45 (g := (mkF m (P0 + 11) ls42 [(.int (p3 &&& (255 : Int32))), (.int (p2 &&& (255 : Int32))), (.int n9), (.int p0), (.int (p1 &&& (255 : Int32))), (.int ((19 : Int32) + n9)), (.int i), (.ref b28)])) rfl (by rw [hml, hls42]; rfl) (argsL := [(.ref b28), (.int i), (.int ((19 : Int32) + n9)), (.int (p1 &&& (255 : Int32))), (.int p0), (.int n9), (.int (p2 &&& (255 : Int32))), (.int (p3 &&& (255 : Int32)))]) (rest := []) (lenOf pd_36 rfl) rfl (by show 2 * 0 + _ ≤ _; exact Nat.le_of_eq rfl) hd11 (fun _ _ => ⟨rfl, ec, hce, hsl⟩)
      dsimp only [Pt.U, Pt.locs, Pt.cells, Pt.slots] at X45 l45 y45 z45 st45 hQ45 hS45 hg45 hC45
      subst l45 y45 z45
      obtain ⟨X45, hS, hZ, hown⟩ := rebS (s := s) hS (by rw [ec]; exact hkc) X45 hS45 hg45 hZ hown
      obtain ⟨rfl, N45q, K45q⟩ := hQ45
      have N45 := Fr.app Nc N45q
      obtain ⟨lc45, X45, N45⟩ := own_gen X45 N45
      have cz45 : CHr Z own_EL vmc hc T45.vm T45.heap := hC45
      have C45 : CHr Z own_EL s.vm h0 T45.vm T45.heap := Cc.trans cz45
      have O45 := Oc.keep K45q all0
      have hk45 : _ ≤ T45.heap.size := Nat.le_refl _
      refine step (fun t k => st45.trans k) ?_
      refine step (fun _ => XS.ifNo X45.here hx rfl hd14 rfl ((if0 _ _).trans (feq (by decide : ¬ ((1 : Int32) = (0 : Int32)))).1)) ?_
      have f46 := (Exa.keep Ec K45q)
      have f47 := (Fld.keep Fvc K45q nin0)
      have f48 := (Fld.keep Fcc K45q nin0)
      have f49 := (Arv.keep Vc K45q nin0)
      exact KT _ _ _ _ _ ⟨X45, rfl, N45, O45, hS, hk45, hZ, hown, C45, f46, f47, f48, f49⟩
    have ckN : ∀ (i : Int32) (P0 : Nat) (off : Int), decode c.code P0 = .ok (.iload 13, 2) → decode c.code (P0 + 2) = .ok (.iload 4, 2) → decode c.code (P0 + 4) = .ok (.iload_n 0, 1) → decode c.code (P0 + 5) = .ok (.iload 12, 2) → decode c.code (P0 + 7) = .ok (.iload 5, 2) → decode c.code (P0 + 9) = .ok (.iload 6, 2) → decode c.code (P0 + 11) = .ok (.invokestatic 43, 3) → decode c.code (P0 + 14) = .ok (.ifCond .eq off, 3) → ∀ (Tc : State) (lcc : List Loc) (ce sl : Nat) (vmc : Vm) (hc : Heap) (kc : Nat), own_CP p l e s m #[(.int p0), (.int p1), (.int p2), (.int p3)] below meth c Z h0 n0 b28 t_28 kk_28 n_28 (own_by cs_28) Tc lcc ce sl vmc hc kc → ¬ i < 0 → (i.toInt = 0 ∨ (7 ≤ i.toInt ∧ (i.toInt < 7 + n9.toInt ∨ 15 + n9.toInt ≤ i.toInt))) → ce + 0 ≤ room_1.cells → sl + 0 ≤ room_1.slots → (∀ (Td : State) (lcd : List Loc) (vmd : Vm) (hd : Heap) (kd : Nat), own_CP p l e s m #[(.int p0), (.int p1), (.int p2), (.int p3)] below meth c Z h0 n0 b28 t_28 kk_28 n_28 (own_by cs_28) Td lcd (ce + 0) (sl + 0) vmd hd kd → G Td (mkF m (P0 + 17) ls42 [])) → G Tc (mkF m P0 ls42 [(.int i), (.ref b28)]) := by
      rintro i P0 off hd0 hd2 hd4 hd5 hd7 hd9 hd11 hd14 Tc lcc ce sl vmc hc kc ⟨Xc, ec, Nc, Oc, hS, hkc, hZ, hown, Cc, Ec, Fvc, Fcc, Vc⟩ hi0 hNi hce hsl KT
      refine step (fun _ => XS.iload Xc.here hx rfl hd0 (by rw [hls42]; rfl)) ?_
      refine step (fun _ => XS.iload Xc.here hx rfl hd2 (by rw [hls42]; rfl)) ?_
      refine step (fun _ => XS.iloadN Xc.here hx rfl hd4 (by rw [hls42]; rfl)) ?_
      refine step (fun _ => XS.iload Xc.here hx rfl hd5 (by rw [hls42]; rfl)) ?_
      show G Tc (mkF m (P0 + 7) ls42 [(.int n9), (.int p0), (.int (p1 &&& (255 : Int32))), (.int ((19 : Int32) + n9)), (.int i), (.ref b28)])
      refine step (fun _ => XS.iload Xc.here hx rfl hd7 (by rw [hls42]; rfl)) ?_
      refine step (fun _ => XS.iload Xc.here hx rfl hd9 (by rw [hls42]; rfl)) ?_
      have hK50 := (backOf (R := room_1) (p := p) (e := e) (below := below) (args := #[(.int p0), (.int p1), (.int p2), (.int p3)]) (len := 3) (W := 0) (rm_kAN l Z a0 hw [] w_0 w_1 w_2 w_3 b28 i ((19 : Int32) + n9) (p1 &&& (255 : Int32)) p0 n9 (p2 &&& (255 : Int32)) (p3 &&& (255 : Int32)) t_28 kk_28 n_28 cs_28 ds9 hc n0 (own_old_le Oc) ST Oc Ec Fvc Fcc Vc Y28_6 (hi0 : ¬ (i < (0 : Int32))) (hp : (0 : Int32) < p0) dl9 (own_l19 hp dl9 Y28_6 he9).symm he9 (own_and255 p1) (own_and255 p2) (own_and255 p3) hNi) hZ (ww193 hw) (ww192 hw) (by decide) (by decide))
      obtain ⟨_, _, ⟨T50, L50, k50, n50⟩, -, X50, ⟨Lc50, hQ50, l50, y50, z50⟩, st50⟩ := Jvm.LawKit.callS Xc hx (y := y_49) hown (mvT hZ (ww190 hw)) (mvT hZ (ww191 hw)) (mvT hZ (ww192 hw)) (mvT hZ (ww193 hw)) (by decide) hK50 (g := (mkF m (P0 + 11) ls42 [(.int (p3 &&& (255 : Int32))), (.int (p2 &&& (255 : Int32))), (.int n9), (.int p0), (.int (p1 &&& (255 : Int32))), (.int ((19 : Int32) + n9)), (.int i), (.ref b28)])) rfl (by rw [hml, hls42]; rfl) (argsL := [(.ref b28), (.int i), (.int ((19 : Int32) + n9)), (.int (p1 &&& (255 : Int32))), (.int p0), (.int n9), (.int (p2 &&& (255 : Int32))), (.int (p3 &&& (255 : Int32)))]) (rest := []) (lenOf pd_36 rfl) rfl (by show 2 * 0 + _ ≤ _; exact Nat.le_of_eq rfl) hd11 (fun _ _ => ⟨rfl, ec, hce, hsl⟩)
      dsimp only [Pt.U, Pt.locs, Pt.cells, Pt.slots] at X50 l50 y50 z50 st50 hQ50
      subst l50 y50 z50
      obtain ⟨rfl, N50q, K50q⟩ := hQ50
      have N50 := Fr.app Nc N50q
      obtain ⟨lc50, X50, N50⟩ := own_gen X50 N50
      have cz50 : CHr Z own_EL vmc hc vmc T50.heap := CHr.keep K50q all0 Cc.1
      have C50 : CHr Z own_EL s.vm h0 vmc T50.heap := Cc.trans cz50
      have O50 := Oc.keep K50q all0
      have hk50 : _ ≤ T50.heap.size := Nat.le_trans hkc K50q.1
      refine step (fun t k => st50 t k) ?_
      refine step (fun _ => XS.ifNo X50.here hx rfl hd14 rfl ((if0 _ _).trans (feq (by decide : ¬ ((1 : Int32) = (0 : Int32)))).1)) ?_
      have f51 := (Exa.keep Ec K50q)
      have f52 := (Fld.keep Fvc K50q nin0)
      have f53 := (Fld.keep Fcc K50q nin0)
      have f54 := (Arv.keep Vc K50q nin0)
      exact KT _ _ _ _ _ ⟨X50, rfl, N50, O50, hS, hk50, hZ, hown, C50, f51, f52, f53, f54⟩
    rcases own_grp hp dl9 with hg | hg | hg
    · skip
      refine step (fun _ => XS.aload X43.here hx rfl (B at_136) (by rw [hls42]; rfl) rfl) ?_
      refine step (fun _ => XS.iconst X43.here hx rfl (B at_138)) ?_
      have P : own_CP p l e s m #[(.int p0), (.int p1), (.int p2), (.int p3)] below meth c Z h0 n0 b28 t_28 kk_28 n_28 (own_by cs_28) _ _ _ _ _ _ _ := ⟨X43, e43, N43, O28, hS, hk28, hZ, hown, C28, Y28_2, Y28_3, Y28_4, Y28_5⟩
      refine ckN (0 : Int32) 139 _ (B at_139) (B at_141) (B at_143) (B at_144) (B at_146) (B at_148) (B at_150) (B at_153) _ _ _ _ _ _ _ P (by decide) (by have k_ : (0 : Int32).toInt = 0 := (by decide); omega) (by decide) (by decide) ?_
      intro T lc vm h k P
      refine step (fun _ => XS.aload P.1.here hx rfl (B at_156) (by rw [hls42]; rfl) rfl) ?_
      refine step (fun _ => XS.iconst P.1.here hx rfl (B at_158)) ?_
      refine ckL (1 : Int32) 159 _ (B at_159) (B at_161) (B at_163) (B at_164) (B at_166) (B at_168) (B at_170) (B at_173) _ _ _ _ _ _ _ P (by decide) (by decide) (by decide) ?_
      intro T lc vm h k P
      refine step (fun _ => XS.aload P.1.here hx rfl (B at_176) (by rw [hls42]; rfl) rfl) ?_
      refine step (fun _ => XS.iconst P.1.here hx rfl (B at_178)) ?_
      refine ckL (2 : Int32) 179 _ (B at_179) (B at_181) (B at_183) (B at_184) (B at_186) (B at_188) (B at_190) (B at_193) _ _ _ _ _ _ _ P (by decide) (by decide) (by decide) ?_
      intro T lc vm h k P
      refine step (fun _ => XS.aload P.1.here hx rfl (B at_196) (by rw [hls42]; rfl) rfl) ?_
      refine step (fun _ => XS.iconst P.1.here hx rfl (B at_198)) ?_
      refine ckL (3 : Int32) 199 _ (B at_199) (B at_201) (B at_203) (B at_204) (B at_206) (B at_208) (B at_210) (B at_213) _ _ _ _ _ _ _ P (by decide) (by decide) (by decide) ?_
      intro T lc vm h k P
      refine step (fun _ => XS.aload P.1.here hx rfl (B at_216) (by rw [hls42]; rfl) rfl) ?_
      refine step (fun _ => XS.iconst P.1.here hx rfl (B at_218)) ?_
      refine ckL (4 : Int32) 219 _ (B at_219) (B at_221) (B at_223) (B at_224) (B at_226) (B at_228) (B at_230) (B at_233) _ _ _ _ _ _ _ P (by decide) (by decide) (by decide) ?_
      intro T lc vm h k P
      refine step (fun _ => XS.aload P.1.here hx rfl (B at_236) (by rw [hls42]; rfl) rfl) ?_
      refine step (fun _ => XS.iconst P.1.here hx rfl (B at_238)) ?_
      refine ckL (5 : Int32) 239 _ (B at_239) (B at_241) (B at_243) (B at_244) (B at_246) (B at_248) (B at_250) (B at_253) _ _ _ _ _ _ _ P (by decide) (by decide) (by decide) ?_
      intro T lc vm h k P
      refine step (fun _ => XS.aload P.1.here hx rfl (B at_256) (by rw [hls42]; rfl) rfl) ?_
      refine step (fun _ => XS.bipush P.1.here hx rfl (B at_258)) ?_
      show G T (mkF m 260 ls42 [(.int 6), (.ref b28)])
      refine ckL (6 : Int32) 260 _ (B at_260) (B at_262) (B at_264) (B at_265) (B at_267) (B at_269) (B at_271) (B at_274) _ _ _ _ _ _ _ P (by decide) (by decide) (by decide) ?_
      intro T lc vm h k P
      refine step (fun _ => XS.aload P.1.here hx rfl (B at_277) (by rw [hls42]; rfl) rfl) ?_
      refine step (fun _ => XS.bipush P.1.here hx rfl (B at_279)) ?_
      show G T (mkF m 281 ls42 [(.int 7), (.ref b28)])
      refine ckN (7 : Int32) 281 _ (B at_281) (B at_283) (B at_285) (B at_286) (B at_288) (B at_290) (B at_292) (B at_295) _ _ _ _ _ _ _ P (by decide) (by have k_ : (7 : Int32).toInt = 7 := (by decide); omega) (by decide) (by decide) ?_
      intro T lc vm h k P
      refine step (fun _ => XS.aload P.1.here hx rfl (B at_298) (by rw [hls42]; rfl) rfl) ?_
      refine step (fun _ => XS.bipush P.1.here hx rfl (B at_300)) ?_
      show G T (mkF m 302 ls42 [(.int 8), (.ref b28)])
      refine ckL (8 : Int32) 302 _ (B at_302) (B at_304) (B at_306) (B at_307) (B at_309) (B at_311) (B at_313) (B at_316) _ _ _ _ _ _ _ P (by decide) (by decide) (by decide) ?_
      intro T lc vm h k P
      refine step (fun _ => XS.aload P.1.here hx rfl (B at_319) (by rw [hls42]; rfl) rfl) ?_
      refine step (fun _ => XS.bipush P.1.here hx rfl (B at_321)) ?_
      show G T (mkF m 323 ls42 [(.int 9), (.ref b28)])
      refine ckL (9 : Int32) 323 _ (B at_323) (B at_325) (B at_327) (B at_328) (B at_330) (B at_332) (B at_334) (B at_337) _ _ _ _ _ _ _ P (by decide) (by decide) (by decide) ?_
      intro T lc vm h k P
      refine step (fun _ => XS.aload P.1.here hx rfl (B at_340) (by rw [hls42]; rfl) rfl) ?_
      refine step (fun _ => XS.bipush P.1.here hx rfl (B at_342)) ?_
      show G T (mkF m 344 ls42 [(.int 10), (.ref b28)])
      refine ckL (10 : Int32) 344 _ (B at_344) (B at_346) (B at_348) (B at_349) (B at_351) (B at_353) (B at_355) (B at_358) _ _ _ _ _ _ _ P (by decide) (by decide) (by decide) ?_
      intro T lc vm h k P
      refine step (fun _ => XS.aload P.1.here hx rfl (B at_361) (by rw [hls42]; rfl) rfl) ?_
      refine step (fun _ => XS.bipush P.1.here hx rfl (B at_363)) ?_
      show G T (mkF m 365 ls42 [(.int 11), (.ref b28)])
      refine ckL (11 : Int32) 365 _ (B at_365) (B at_367) (B at_369) (B at_370) (B at_372) (B at_374) (B at_376) (B at_379) _ _ _ _ _ _ _ P (by decide) (by decide) (by decide) ?_
      intro T lc vm h k P
      refine step (fun _ => XS.aload P.1.here hx rfl (B at_382) (by rw [hls42]; rfl) rfl) ?_
      refine step (fun _ => XS.bipush P.1.here hx rfl (B at_384)) ?_
      show G T (mkF m 386 ls42 [(.int 12), (.ref b28)])
      refine ckL (12 : Int32) 386 _ (B at_386) (B at_388) (B at_390) (B at_391) (B at_393) (B at_395) (B at_397) (B at_400) _ _ _ _ _ _ _ P (by decide) (by decide) (by decide) ?_
      intro T lc vm h k P
      refine step (fun _ => XS.aload P.1.here hx rfl (B at_403) (by rw [hls42]; rfl) rfl) ?_
      refine step (fun _ => XS.bipush P.1.here hx rfl (B at_405)) ?_
      show G T (mkF m 407 ls42 [(.int 13), (.ref b28)])
      refine ckL (13 : Int32) 407 _ (B at_407) (B at_409) (B at_411) (B at_412) (B at_414) (B at_416) (B at_418) (B at_421) _ _ _ _ _ _ _ P (by decide) (by decide) (by decide) ?_
      intro T lc vm h k P
      refine step (fun _ => XS.aload P.1.here hx rfl (B at_424) (by rw [hls42]; rfl) rfl) ?_
      refine step (fun _ => XS.bipush P.1.here hx rfl (B at_426)) ?_
      show G T (mkF m 428 ls42 [(.int 14), (.ref b28)])
      refine ckL (14 : Int32) 428 _ (B at_428) (B at_430) (B at_432) (B at_433) (B at_435) (B at_437) (B at_439) (B at_442) _ _ _ _ _ _ _ P (by decide) (by decide) (by decide) ?_
      intro T lc vm h k P
      refine step (fun _ => XS.aload P.1.here hx rfl (B at_445) (by rw [hls42]; rfl) rfl) ?_
      refine step (fun _ => XS.bipush P.1.here hx rfl (B at_447)) ?_
      show G T (mkF m 449 ls42 [(.int 15), (.ref b28)])
      refine ckL (15 : Int32) 449 _ (B at_449) (B at_451) (B at_453) (B at_454) (B at_456) (B at_458) (B at_460) (B at_463) _ _ _ _ _ _ _ P (by decide) (by decide) (by decide) ?_
      intro T lc vm h k P
      refine step (fun _ => XS.aload P.1.here hx rfl (B at_466) (by rw [hls42]; rfl) rfl) ?_
      refine step (fun _ => XS.bipush P.1.here hx rfl (B at_468)) ?_
      show G T (mkF m 470 ls42 [(.int 16), (.ref b28)])
      refine ckL (16 : Int32) 470 _ (B at_470) (B at_472) (B at_474) (B at_475) (B at_477) (B at_479) (B at_481) (B at_484) _ _ _ _ _ _ _ P (by decide) (by decide) (by decide) ?_
      intro T lc vm h k P
      refine step (fun _ => XS.aload P.1.here hx rfl (B at_487) (by rw [hls42]; rfl) rfl) ?_
      refine step (fun _ => XS.bipush P.1.here hx rfl (B at_489)) ?_
      show G T (mkF m 491 ls42 [(.int 17), (.ref b28)])
      refine ckL (17 : Int32) 491 _ (B at_491) (B at_493) (B at_495) (B at_496) (B at_498) (B at_500) (B at_502) (B at_505) _ _ _ _ _ _ _ P (by decide) (by decide) (by decide) ?_
      intro T lc vm h k P
      refine step (fun _ => XS.aload P.1.here hx rfl (B at_508) (by rw [hls42]; rfl) rfl) ?_
      refine step (fun _ => XS.bipush P.1.here hx rfl (B at_510)) ?_
      show G T (mkF m 512 ls42 [(.int 18), (.ref b28)])
      refine ckL (18 : Int32) 512 _ (B at_512) (B at_514) (B at_516) (B at_517) (B at_519) (B at_521) (B at_523) (B at_526) _ _ _ _ _ _ _ P (by decide) (by decide) (by decide) ?_
      intro T lc vm h k P
      refine step (fun _ => XS.aload P.1.here hx rfl (B at_529) (by rw [hls42]; rfl) rfl) ?_
      refine step (fun _ => XS.bipush P.1.here hx rfl (B at_531)) ?_
      show G T (mkF m 533 ls42 [(.int 19), (.ref b28)])
      refine ckN (19 : Int32) 533 _ (B at_533) (B at_535) (B at_537) (B at_538) (B at_540) (B at_542) (B at_544) (B at_547) _ _ _ _ _ _ _ P (by decide) (by have k_ : (19 : Int32).toInt = 19 := (by decide); omega) (by decide) (by decide) ?_
      intro T lc vm h k P
      refine step (fun _ => XS.aload P.1.here hx rfl (B at_550) (by rw [hls42]; rfl) rfl) ?_
      refine step (fun _ => XS.bipush P.1.here hx rfl (B at_552)) ?_
      show G T (mkF m 554 ls42 [(.int 20), (.ref b28)])
      refine ckN (20 : Int32) 554 _ (B at_554) (B at_556) (B at_558) (B at_559) (B at_561) (B at_563) (B at_565) (B at_568) _ _ _ _ _ _ _ P (by decide) (by have k_ : (20 : Int32).toInt = 20 := (by decide); omega) (by decide) (by decide) ?_
      intro T lc vm h k P
      refine step (fun _ => XS.aload P.1.here hx rfl (B at_571) (by rw [hls42]; rfl) rfl) ?_
      refine step (fun _ => XS.bipush P.1.here hx rfl (B at_573)) ?_
      show G T (mkF m 575 ls42 [(.int 21), (.ref b28)])
      refine ckN (21 : Int32) 575 _ (B at_575) (B at_577) (B at_579) (B at_580) (B at_582) (B at_584) (B at_586) (B at_589) _ _ _ _ _ _ _ P (by decide) (by have k_ : (21 : Int32).toInt = 21 := (by decide); omega) (by decide) (by decide) ?_
      intro T lc vm h k P
      refine step (fun _ => XS.aload P.1.here hx rfl (B at_592) (by rw [hls42]; rfl) rfl) ?_
      refine step (fun _ => XS.bipush P.1.here hx rfl (B at_594)) ?_
      show G T (mkF m 596 ls42 [(.int 22), (.ref b28)])
      refine ckN (22 : Int32) 596 _ (B at_596) (B at_598) (B at_600) (B at_601) (B at_603) (B at_605) (B at_607) (B at_610) _ _ _ _ _ _ _ P (by decide) (by have k_ : (22 : Int32).toInt = 22 := (by decide); omega) (by decide) (by decide) ?_
      intro T lc vm h k P
      refine step (fun _ => XS.aload P.1.here hx rfl (B at_613) (by rw [hls42]; rfl) rfl) ?_
      refine step (fun _ => XS.bipush P.1.here hx rfl (B at_615)) ?_
      show G T (mkF m 617 ls42 [(.int 23), (.ref b28)])
      refine ckN (23 : Int32) 617 _ (B at_617) (B at_619) (B at_621) (B at_622) (B at_624) (B at_626) (B at_628) (B at_631) _ _ _ _ _ _ _ P (by decide) (by have k_ : (23 : Int32).toInt = 23 := (by decide); omega) (by decide) (by decide) ?_
      intro T lc vm h k P
      refine step (fun _ => XS.aload P.1.here hx rfl (B at_634) (by rw [hls42]; rfl) rfl) ?_
      refine step (fun _ => XS.bipush P.1.here hx rfl (B at_636)) ?_
      show G T (mkF m 638 ls42 [(.int 24), (.ref b28)])
      refine ckN (24 : Int32) 638 _ (B at_638) (B at_640) (B at_642) (B at_643) (B at_645) (B at_647) (B at_649) (B at_652) _ _ _ _ _ _ _ P (by decide) (by have k_ : (24 : Int32).toInt = 24 := (by decide); omega) (by decide) (by decide) ?_
      intro T lc vm h k P
      refine step (fun _ => XS.aload P.1.here hx rfl (B at_655) (by rw [hls42]; rfl) rfl) ?_
      refine step (fun _ => XS.bipush P.1.here hx rfl (B at_657)) ?_
      show G T (mkF m 659 ls42 [(.int 25), (.ref b28)])
      refine ckN (25 : Int32) 659 _ (B at_659) (B at_661) (B at_663) (B at_664) (B at_666) (B at_668) (B at_670) (B at_673) _ _ _ _ _ _ _ P (by decide) (by have k_ : (25 : Int32).toInt = 25 := (by decide); omega) (by decide) (by decide) ?_
      intro T lc vm h k P
      refine step (fun _ => XS.aload P.1.here hx rfl (B at_676) (by rw [hls42]; rfl) rfl) ?_
      refine step (fun _ => XS.bipush P.1.here hx rfl (B at_678)) ?_
      show G T (mkF m 680 ls42 [(.int 26), (.ref b28)])
      refine ckN (26 : Int32) 680 _ (B at_680) (B at_682) (B at_684) (B at_685) (B at_687) (B at_689) (B at_691) (B at_694) _ _ _ _ _ _ _ P (by decide) (by have k_ : (26 : Int32).toInt = 26 := (by decide); omega) (by decide) (by decide) ?_
      intro T lc vm h k P
      refine step (fun _ => XS.aload P.1.here hx rfl (B at_697) (by rw [hls42]; rfl) rfl) ?_
      refine step (fun _ => XS.bipush P.1.here hx rfl (B at_699)) ?_
      show G T (mkF m 701 ls42 [(.int 27), (.ref b28)])
      refine ckN (27 : Int32) 701 _ (B at_701) (B at_703) (B at_705) (B at_706) (B at_708) (B at_710) (B at_712) (B at_715) _ _ _ _ _ _ _ P (by decide) (by have k_ : (27 : Int32).toInt = 27 := (by decide); omega) (by decide) (by decide) ?_
      intro T lc vm h k P
      refine step (fun _ => XS.aload P.1.here hx rfl (B at_718) (by rw [hls42]; rfl) rfl) ?_
      refine step (fun _ => XS.bipush P.1.here hx rfl (B at_720)) ?_
      show G T (mkF m 722 ls42 [(.int 28), (.ref b28)])
      refine ckN (28 : Int32) 722 _ (B at_722) (B at_724) (B at_726) (B at_727) (B at_729) (B at_731) (B at_733) (B at_736) _ _ _ _ _ _ _ P (by decide) (by have k_ : (28 : Int32).toInt = 28 := (by decide); omega) (by decide) (by decide) ?_
      intro T lc vm h k P
      obtain ⟨Xz, ez, Nz, Oz, hS, hkz, hZ, hown, Cz, -⟩ := P
      refine step (fun _ => XS.iconst Xz.here hx rfl (B at_739)) ?_
      refine step (fun _ => XS.goto Xz.here hx rfl (pc0 := 740) (pc' := 744) rfl (B at_740) (by decide) (by decide)) ?_
      exact ret (v := some (.int 1)) Xz hS hkz Cz hZ (fun h => by rw [Bd.returns] at h; cases h) (fun fs hr => retN Xz hx (t := .boolean) Bd.returns (by simp) (B at_744) hr) ez ⟨rfl, Nz⟩ (by decide) (by decide)
    · skip
      refine step (fun _ => XS.aload X43.here hx rfl (B at_136) (by rw [hls42]; rfl) rfl) ?_
      refine step (fun _ => XS.iconst X43.here hx rfl (B at_138)) ?_
      have P : own_CP p l e s m #[(.int p0), (.int p1), (.int p2), (.int p3)] below meth c Z h0 n0 b28 t_28 kk_28 n_28 (own_by cs_28) _ _ _ _ _ _ _ := ⟨X43, e43, N43, O28, hS, hk28, hZ, hown, C28, Y28_2, Y28_3, Y28_4, Y28_5⟩
      refine ckN (0 : Int32) 139 _ (B at_139) (B at_141) (B at_143) (B at_144) (B at_146) (B at_148) (B at_150) (B at_153) _ _ _ _ _ _ _ P (by decide) (by have k_ : (0 : Int32).toInt = 0 := (by decide); omega) (by decide) (by decide) ?_
      intro T lc vm h k P
      refine step (fun _ => XS.aload P.1.here hx rfl (B at_156) (by rw [hls42]; rfl) rfl) ?_
      refine step (fun _ => XS.iconst P.1.here hx rfl (B at_158)) ?_
      refine ckL (1 : Int32) 159 _ (B at_159) (B at_161) (B at_163) (B at_164) (B at_166) (B at_168) (B at_170) (B at_173) _ _ _ _ _ _ _ P (by decide) (by decide) (by decide) ?_
      intro T lc vm h k P
      refine step (fun _ => XS.aload P.1.here hx rfl (B at_176) (by rw [hls42]; rfl) rfl) ?_
      refine step (fun _ => XS.iconst P.1.here hx rfl (B at_178)) ?_
      refine ckL (2 : Int32) 179 _ (B at_179) (B at_181) (B at_183) (B at_184) (B at_186) (B at_188) (B at_190) (B at_193) _ _ _ _ _ _ _ P (by decide) (by decide) (by decide) ?_
      intro T lc vm h k P
      refine step (fun _ => XS.aload P.1.here hx rfl (B at_196) (by rw [hls42]; rfl) rfl) ?_
      refine step (fun _ => XS.iconst P.1.here hx rfl (B at_198)) ?_
      refine ckL (3 : Int32) 199 _ (B at_199) (B at_201) (B at_203) (B at_204) (B at_206) (B at_208) (B at_210) (B at_213) _ _ _ _ _ _ _ P (by decide) (by decide) (by decide) ?_
      intro T lc vm h k P
      refine step (fun _ => XS.aload P.1.here hx rfl (B at_216) (by rw [hls42]; rfl) rfl) ?_
      refine step (fun _ => XS.iconst P.1.here hx rfl (B at_218)) ?_
      refine ckL (4 : Int32) 219 _ (B at_219) (B at_221) (B at_223) (B at_224) (B at_226) (B at_228) (B at_230) (B at_233) _ _ _ _ _ _ _ P (by decide) (by decide) (by decide) ?_
      intro T lc vm h k P
      refine step (fun _ => XS.aload P.1.here hx rfl (B at_236) (by rw [hls42]; rfl) rfl) ?_
      refine step (fun _ => XS.iconst P.1.here hx rfl (B at_238)) ?_
      refine ckL (5 : Int32) 239 _ (B at_239) (B at_241) (B at_243) (B at_244) (B at_246) (B at_248) (B at_250) (B at_253) _ _ _ _ _ _ _ P (by decide) (by decide) (by decide) ?_
      intro T lc vm h k P
      refine step (fun _ => XS.aload P.1.here hx rfl (B at_256) (by rw [hls42]; rfl) rfl) ?_
      refine step (fun _ => XS.bipush P.1.here hx rfl (B at_258)) ?_
      show G T (mkF m 260 ls42 [(.int 6), (.ref b28)])
      refine ckL (6 : Int32) 260 _ (B at_260) (B at_262) (B at_264) (B at_265) (B at_267) (B at_269) (B at_271) (B at_274) _ _ _ _ _ _ _ P (by decide) (by decide) (by decide) ?_
      intro T lc vm h k P
      refine step (fun _ => XS.aload P.1.here hx rfl (B at_277) (by rw [hls42]; rfl) rfl) ?_
      refine step (fun _ => XS.bipush P.1.here hx rfl (B at_279)) ?_
      show G T (mkF m 281 ls42 [(.int 7), (.ref b28)])
      refine ckN (7 : Int32) 281 _ (B at_281) (B at_283) (B at_285) (B at_286) (B at_288) (B at_290) (B at_292) (B at_295) _ _ _ _ _ _ _ P (by decide) (by have k_ : (7 : Int32).toInt = 7 := (by decide); omega) (by decide) (by decide) ?_
      intro T lc vm h k P
      refine step (fun _ => XS.aload P.1.here hx rfl (B at_298) (by rw [hls42]; rfl) rfl) ?_
      refine step (fun _ => XS.bipush P.1.here hx rfl (B at_300)) ?_
      show G T (mkF m 302 ls42 [(.int 8), (.ref b28)])
      refine ckN (8 : Int32) 302 _ (B at_302) (B at_304) (B at_306) (B at_307) (B at_309) (B at_311) (B at_313) (B at_316) _ _ _ _ _ _ _ P (by decide) (by have k_ : (8 : Int32).toInt = 8 := (by decide); omega) (by decide) (by decide) ?_
      intro T lc vm h k P
      refine step (fun _ => XS.aload P.1.here hx rfl (B at_319) (by rw [hls42]; rfl) rfl) ?_
      refine step (fun _ => XS.bipush P.1.here hx rfl (B at_321)) ?_
      show G T (mkF m 323 ls42 [(.int 9), (.ref b28)])
      refine ckN (9 : Int32) 323 _ (B at_323) (B at_325) (B at_327) (B at_328) (B at_330) (B at_332) (B at_334) (B at_337) _ _ _ _ _ _ _ P (by decide) (by have k_ : (9 : Int32).toInt = 9 := (by decide); omega) (by decide) (by decide) ?_
      intro T lc vm h k P
      refine step (fun _ => XS.aload P.1.here hx rfl (B at_340) (by rw [hls42]; rfl) rfl) ?_
      refine step (fun _ => XS.bipush P.1.here hx rfl (B at_342)) ?_
      show G T (mkF m 344 ls42 [(.int 10), (.ref b28)])
      refine ckN (10 : Int32) 344 _ (B at_344) (B at_346) (B at_348) (B at_349) (B at_351) (B at_353) (B at_355) (B at_358) _ _ _ _ _ _ _ P (by decide) (by have k_ : (10 : Int32).toInt = 10 := (by decide); omega) (by decide) (by decide) ?_
      intro T lc vm h k P
      refine step (fun _ => XS.aload P.1.here hx rfl (B at_361) (by rw [hls42]; rfl) rfl) ?_
      refine step (fun _ => XS.bipush P.1.here hx rfl (B at_363)) ?_
      show G T (mkF m 365 ls42 [(.int 11), (.ref b28)])
      refine ckN (11 : Int32) 365 _ (B at_365) (B at_367) (B at_369) (B at_370) (B at_372) (B at_374) (B at_376) (B at_379) _ _ _ _ _ _ _ P (by decide) (by have k_ : (11 : Int32).toInt = 11 := (by decide); omega) (by decide) (by decide) ?_
      intro T lc vm h k P
      refine step (fun _ => XS.aload P.1.here hx rfl (B at_382) (by rw [hls42]; rfl) rfl) ?_
      refine step (fun _ => XS.bipush P.1.here hx rfl (B at_384)) ?_
      show G T (mkF m 386 ls42 [(.int 12), (.ref b28)])
      refine ckL (12 : Int32) 386 _ (B at_386) (B at_388) (B at_390) (B at_391) (B at_393) (B at_395) (B at_397) (B at_400) _ _ _ _ _ _ _ P (by decide) (by decide) (by decide) ?_
      intro T lc vm h k P
      refine step (fun _ => XS.aload P.1.here hx rfl (B at_403) (by rw [hls42]; rfl) rfl) ?_
      refine step (fun _ => XS.bipush P.1.here hx rfl (B at_405)) ?_
      show G T (mkF m 407 ls42 [(.int 13), (.ref b28)])
      refine ckL (13 : Int32) 407 _ (B at_407) (B at_409) (B at_411) (B at_412) (B at_414) (B at_416) (B at_418) (B at_421) _ _ _ _ _ _ _ P (by decide) (by decide) (by decide) ?_
      intro T lc vm h k P
      refine step (fun _ => XS.aload P.1.here hx rfl (B at_424) (by rw [hls42]; rfl) rfl) ?_
      refine step (fun _ => XS.bipush P.1.here hx rfl (B at_426)) ?_
      show G T (mkF m 428 ls42 [(.int 14), (.ref b28)])
      refine ckL (14 : Int32) 428 _ (B at_428) (B at_430) (B at_432) (B at_433) (B at_435) (B at_437) (B at_439) (B at_442) _ _ _ _ _ _ _ P (by decide) (by decide) (by decide) ?_
      intro T lc vm h k P
      refine step (fun _ => XS.aload P.1.here hx rfl (B at_445) (by rw [hls42]; rfl) rfl) ?_
      refine step (fun _ => XS.bipush P.1.here hx rfl (B at_447)) ?_
      show G T (mkF m 449 ls42 [(.int 15), (.ref b28)])
      refine ckL (15 : Int32) 449 _ (B at_449) (B at_451) (B at_453) (B at_454) (B at_456) (B at_458) (B at_460) (B at_463) _ _ _ _ _ _ _ P (by decide) (by decide) (by decide) ?_
      intro T lc vm h k P
      refine step (fun _ => XS.aload P.1.here hx rfl (B at_466) (by rw [hls42]; rfl) rfl) ?_
      refine step (fun _ => XS.bipush P.1.here hx rfl (B at_468)) ?_
      show G T (mkF m 470 ls42 [(.int 16), (.ref b28)])
      refine ckL (16 : Int32) 470 _ (B at_470) (B at_472) (B at_474) (B at_475) (B at_477) (B at_479) (B at_481) (B at_484) _ _ _ _ _ _ _ P (by decide) (by decide) (by decide) ?_
      intro T lc vm h k P
      refine step (fun _ => XS.aload P.1.here hx rfl (B at_487) (by rw [hls42]; rfl) rfl) ?_
      refine step (fun _ => XS.bipush P.1.here hx rfl (B at_489)) ?_
      show G T (mkF m 491 ls42 [(.int 17), (.ref b28)])
      refine ckL (17 : Int32) 491 _ (B at_491) (B at_493) (B at_495) (B at_496) (B at_498) (B at_500) (B at_502) (B at_505) _ _ _ _ _ _ _ P (by decide) (by decide) (by decide) ?_
      intro T lc vm h k P
      refine step (fun _ => XS.aload P.1.here hx rfl (B at_508) (by rw [hls42]; rfl) rfl) ?_
      refine step (fun _ => XS.bipush P.1.here hx rfl (B at_510)) ?_
      show G T (mkF m 512 ls42 [(.int 18), (.ref b28)])
      refine ckL (18 : Int32) 512 _ (B at_512) (B at_514) (B at_516) (B at_517) (B at_519) (B at_521) (B at_523) (B at_526) _ _ _ _ _ _ _ P (by decide) (by decide) (by decide) ?_
      intro T lc vm h k P
      refine step (fun _ => XS.aload P.1.here hx rfl (B at_529) (by rw [hls42]; rfl) rfl) ?_
      refine step (fun _ => XS.bipush P.1.here hx rfl (B at_531)) ?_
      show G T (mkF m 533 ls42 [(.int 19), (.ref b28)])
      refine ckL (19 : Int32) 533 _ (B at_533) (B at_535) (B at_537) (B at_538) (B at_540) (B at_542) (B at_544) (B at_547) _ _ _ _ _ _ _ P (by decide) (by decide) (by decide) ?_
      intro T lc vm h k P
      refine step (fun _ => XS.aload P.1.here hx rfl (B at_550) (by rw [hls42]; rfl) rfl) ?_
      refine step (fun _ => XS.bipush P.1.here hx rfl (B at_552)) ?_
      show G T (mkF m 554 ls42 [(.int 20), (.ref b28)])
      refine ckL (20 : Int32) 554 _ (B at_554) (B at_556) (B at_558) (B at_559) (B at_561) (B at_563) (B at_565) (B at_568) _ _ _ _ _ _ _ P (by decide) (by decide) (by decide) ?_
      intro T lc vm h k P
      refine step (fun _ => XS.aload P.1.here hx rfl (B at_571) (by rw [hls42]; rfl) rfl) ?_
      refine step (fun _ => XS.bipush P.1.here hx rfl (B at_573)) ?_
      show G T (mkF m 575 ls42 [(.int 21), (.ref b28)])
      refine ckL (21 : Int32) 575 _ (B at_575) (B at_577) (B at_579) (B at_580) (B at_582) (B at_584) (B at_586) (B at_589) _ _ _ _ _ _ _ P (by decide) (by decide) (by decide) ?_
      intro T lc vm h k P
      refine step (fun _ => XS.aload P.1.here hx rfl (B at_592) (by rw [hls42]; rfl) rfl) ?_
      refine step (fun _ => XS.bipush P.1.here hx rfl (B at_594)) ?_
      show G T (mkF m 596 ls42 [(.int 22), (.ref b28)])
      refine ckL (22 : Int32) 596 _ (B at_596) (B at_598) (B at_600) (B at_601) (B at_603) (B at_605) (B at_607) (B at_610) _ _ _ _ _ _ _ P (by decide) (by decide) (by decide) ?_
      intro T lc vm h k P
      refine step (fun _ => XS.aload P.1.here hx rfl (B at_613) (by rw [hls42]; rfl) rfl) ?_
      refine step (fun _ => XS.bipush P.1.here hx rfl (B at_615)) ?_
      show G T (mkF m 617 ls42 [(.int 23), (.ref b28)])
      refine ckN (23 : Int32) 617 _ (B at_617) (B at_619) (B at_621) (B at_622) (B at_624) (B at_626) (B at_628) (B at_631) _ _ _ _ _ _ _ P (by decide) (by have k_ : (23 : Int32).toInt = 23 := (by decide); omega) (by decide) (by decide) ?_
      intro T lc vm h k P
      refine step (fun _ => XS.aload P.1.here hx rfl (B at_634) (by rw [hls42]; rfl) rfl) ?_
      refine step (fun _ => XS.bipush P.1.here hx rfl (B at_636)) ?_
      show G T (mkF m 638 ls42 [(.int 24), (.ref b28)])
      refine ckN (24 : Int32) 638 _ (B at_638) (B at_640) (B at_642) (B at_643) (B at_645) (B at_647) (B at_649) (B at_652) _ _ _ _ _ _ _ P (by decide) (by have k_ : (24 : Int32).toInt = 24 := (by decide); omega) (by decide) (by decide) ?_
      intro T lc vm h k P
      refine step (fun _ => XS.aload P.1.here hx rfl (B at_655) (by rw [hls42]; rfl) rfl) ?_
      refine step (fun _ => XS.bipush P.1.here hx rfl (B at_657)) ?_
      show G T (mkF m 659 ls42 [(.int 25), (.ref b28)])
      refine ckN (25 : Int32) 659 _ (B at_659) (B at_661) (B at_663) (B at_664) (B at_666) (B at_668) (B at_670) (B at_673) _ _ _ _ _ _ _ P (by decide) (by have k_ : (25 : Int32).toInt = 25 := (by decide); omega) (by decide) (by decide) ?_
      intro T lc vm h k P
      refine step (fun _ => XS.aload P.1.here hx rfl (B at_676) (by rw [hls42]; rfl) rfl) ?_
      refine step (fun _ => XS.bipush P.1.here hx rfl (B at_678)) ?_
      show G T (mkF m 680 ls42 [(.int 26), (.ref b28)])
      refine ckN (26 : Int32) 680 _ (B at_680) (B at_682) (B at_684) (B at_685) (B at_687) (B at_689) (B at_691) (B at_694) _ _ _ _ _ _ _ P (by decide) (by have k_ : (26 : Int32).toInt = 26 := (by decide); omega) (by decide) (by decide) ?_
      intro T lc vm h k P
      refine step (fun _ => XS.aload P.1.here hx rfl (B at_697) (by rw [hls42]; rfl) rfl) ?_
      refine step (fun _ => XS.bipush P.1.here hx rfl (B at_699)) ?_
      show G T (mkF m 701 ls42 [(.int 27), (.ref b28)])
      refine ckN (27 : Int32) 701 _ (B at_701) (B at_703) (B at_705) (B at_706) (B at_708) (B at_710) (B at_712) (B at_715) _ _ _ _ _ _ _ P (by decide) (by have k_ : (27 : Int32).toInt = 27 := (by decide); omega) (by decide) (by decide) ?_
      intro T lc vm h k P
      refine step (fun _ => XS.aload P.1.here hx rfl (B at_718) (by rw [hls42]; rfl) rfl) ?_
      refine step (fun _ => XS.bipush P.1.here hx rfl (B at_720)) ?_
      show G T (mkF m 722 ls42 [(.int 28), (.ref b28)])
      refine ckN (28 : Int32) 722 _ (B at_722) (B at_724) (B at_726) (B at_727) (B at_729) (B at_731) (B at_733) (B at_736) _ _ _ _ _ _ _ P (by decide) (by have k_ : (28 : Int32).toInt = 28 := (by decide); omega) (by decide) (by decide) ?_
      intro T lc vm h k P
      obtain ⟨Xz, ez, Nz, Oz, hS, hkz, hZ, hown, Cz, -⟩ := P
      refine step (fun _ => XS.iconst Xz.here hx rfl (B at_739)) ?_
      refine step (fun _ => XS.goto Xz.here hx rfl (pc0 := 740) (pc' := 744) rfl (B at_740) (by decide) (by decide)) ?_
      exact ret (v := some (.int 1)) Xz hS hkz Cz hZ (fun h => by rw [Bd.returns] at h; cases h) (fun fs hr => retN Xz hx (t := .boolean) Bd.returns (by simp) (B at_744) hr) ez ⟨rfl, Nz⟩ (by decide) (by decide)
    · skip
      refine step (fun _ => XS.aload X43.here hx rfl (B at_136) (by rw [hls42]; rfl) rfl) ?_
      refine step (fun _ => XS.iconst X43.here hx rfl (B at_138)) ?_
      have P : own_CP p l e s m #[(.int p0), (.int p1), (.int p2), (.int p3)] below meth c Z h0 n0 b28 t_28 kk_28 n_28 (own_by cs_28) _ _ _ _ _ _ _ := ⟨X43, e43, N43, O28, hS, hk28, hZ, hown, C28, Y28_2, Y28_3, Y28_4, Y28_5⟩
      refine ckN (0 : Int32) 139 _ (B at_139) (B at_141) (B at_143) (B at_144) (B at_146) (B at_148) (B at_150) (B at_153) _ _ _ _ _ _ _ P (by decide) (by have k_ : (0 : Int32).toInt = 0 := (by decide); omega) (by decide) (by decide) ?_
      intro T lc vm h k P
      refine step (fun _ => XS.aload P.1.here hx rfl (B at_156) (by rw [hls42]; rfl) rfl) ?_
      refine step (fun _ => XS.iconst P.1.here hx rfl (B at_158)) ?_
      refine ckL (1 : Int32) 159 _ (B at_159) (B at_161) (B at_163) (B at_164) (B at_166) (B at_168) (B at_170) (B at_173) _ _ _ _ _ _ _ P (by decide) (by decide) (by decide) ?_
      intro T lc vm h k P
      refine step (fun _ => XS.aload P.1.here hx rfl (B at_176) (by rw [hls42]; rfl) rfl) ?_
      refine step (fun _ => XS.iconst P.1.here hx rfl (B at_178)) ?_
      refine ckL (2 : Int32) 179 _ (B at_179) (B at_181) (B at_183) (B at_184) (B at_186) (B at_188) (B at_190) (B at_193) _ _ _ _ _ _ _ P (by decide) (by decide) (by decide) ?_
      intro T lc vm h k P
      refine step (fun _ => XS.aload P.1.here hx rfl (B at_196) (by rw [hls42]; rfl) rfl) ?_
      refine step (fun _ => XS.iconst P.1.here hx rfl (B at_198)) ?_
      refine ckL (3 : Int32) 199 _ (B at_199) (B at_201) (B at_203) (B at_204) (B at_206) (B at_208) (B at_210) (B at_213) _ _ _ _ _ _ _ P (by decide) (by decide) (by decide) ?_
      intro T lc vm h k P
      refine step (fun _ => XS.aload P.1.here hx rfl (B at_216) (by rw [hls42]; rfl) rfl) ?_
      refine step (fun _ => XS.iconst P.1.here hx rfl (B at_218)) ?_
      refine ckL (4 : Int32) 219 _ (B at_219) (B at_221) (B at_223) (B at_224) (B at_226) (B at_228) (B at_230) (B at_233) _ _ _ _ _ _ _ P (by decide) (by decide) (by decide) ?_
      intro T lc vm h k P
      refine step (fun _ => XS.aload P.1.here hx rfl (B at_236) (by rw [hls42]; rfl) rfl) ?_
      refine step (fun _ => XS.iconst P.1.here hx rfl (B at_238)) ?_
      refine ckL (5 : Int32) 239 _ (B at_239) (B at_241) (B at_243) (B at_244) (B at_246) (B at_248) (B at_250) (B at_253) _ _ _ _ _ _ _ P (by decide) (by decide) (by decide) ?_
      intro T lc vm h k P
      refine step (fun _ => XS.aload P.1.here hx rfl (B at_256) (by rw [hls42]; rfl) rfl) ?_
      refine step (fun _ => XS.bipush P.1.here hx rfl (B at_258)) ?_
      show G T (mkF m 260 ls42 [(.int 6), (.ref b28)])
      refine ckL (6 : Int32) 260 _ (B at_260) (B at_262) (B at_264) (B at_265) (B at_267) (B at_269) (B at_271) (B at_274) _ _ _ _ _ _ _ P (by decide) (by decide) (by decide) ?_
      intro T lc vm h k P
      refine step (fun _ => XS.aload P.1.here hx rfl (B at_277) (by rw [hls42]; rfl) rfl) ?_
      refine step (fun _ => XS.bipush P.1.here hx rfl (B at_279)) ?_
      show G T (mkF m 281 ls42 [(.int 7), (.ref b28)])
      refine ckN (7 : Int32) 281 _ (B at_281) (B at_283) (B at_285) (B at_286) (B at_288) (B at_290) (B at_292) (B at_295) _ _ _ _ _ _ _ P (by decide) (by have k_ : (7 : Int32).toInt = 7 := (by decide); omega) (by decide) (by decide) ?_
      intro T lc vm h k P
      refine step (fun _ => XS.aload P.1.here hx rfl (B at_298) (by rw [hls42]; rfl) rfl) ?_
      refine step (fun _ => XS.bipush P.1.here hx rfl (B at_300)) ?_
      show G T (mkF m 302 ls42 [(.int 8), (.ref b28)])
      refine ckN (8 : Int32) 302 _ (B at_302) (B at_304) (B at_306) (B at_307) (B at_309) (B at_311) (B at_313) (B at_316) _ _ _ _ _ _ _ P (by decide) (by have k_ : (8 : Int32).toInt = 8 := (by decide); omega) (by decide) (by decide) ?_
      intro T lc vm h k P
      refine step (fun _ => XS.aload P.1.here hx rfl (B at_319) (by rw [hls42]; rfl) rfl) ?_
      refine step (fun _ => XS.bipush P.1.here hx rfl (B at_321)) ?_
      show G T (mkF m 323 ls42 [(.int 9), (.ref b28)])
      refine ckN (9 : Int32) 323 _ (B at_323) (B at_325) (B at_327) (B at_328) (B at_330) (B at_332) (B at_334) (B at_337) _ _ _ _ _ _ _ P (by decide) (by have k_ : (9 : Int32).toInt = 9 := (by decide); omega) (by decide) (by decide) ?_
      intro T lc vm h k P
      refine step (fun _ => XS.aload P.1.here hx rfl (B at_340) (by rw [hls42]; rfl) rfl) ?_
      refine step (fun _ => XS.bipush P.1.here hx rfl (B at_342)) ?_
      show G T (mkF m 344 ls42 [(.int 10), (.ref b28)])
      refine ckN (10 : Int32) 344 _ (B at_344) (B at_346) (B at_348) (B at_349) (B at_351) (B at_353) (B at_355) (B at_358) _ _ _ _ _ _ _ P (by decide) (by have k_ : (10 : Int32).toInt = 10 := (by decide); omega) (by decide) (by decide) ?_
      intro T lc vm h k P
      refine step (fun _ => XS.aload P.1.here hx rfl (B at_361) (by rw [hls42]; rfl) rfl) ?_
      refine step (fun _ => XS.bipush P.1.here hx rfl (B at_363)) ?_
      show G T (mkF m 365 ls42 [(.int 11), (.ref b28)])
      refine ckN (11 : Int32) 365 _ (B at_365) (B at_367) (B at_369) (B at_370) (B at_372) (B at_374) (B at_376) (B at_379) _ _ _ _ _ _ _ P (by decide) (by have k_ : (11 : Int32).toInt = 11 := (by decide); omega) (by decide) (by decide) ?_
      intro T lc vm h k P
      refine step (fun _ => XS.aload P.1.here hx rfl (B at_382) (by rw [hls42]; rfl) rfl) ?_
      refine step (fun _ => XS.bipush P.1.here hx rfl (B at_384)) ?_
      show G T (mkF m 386 ls42 [(.int 12), (.ref b28)])
      refine ckN (12 : Int32) 386 _ (B at_386) (B at_388) (B at_390) (B at_391) (B at_393) (B at_395) (B at_397) (B at_400) _ _ _ _ _ _ _ P (by decide) (by have k_ : (12 : Int32).toInt = 12 := (by decide); omega) (by decide) (by decide) ?_
      intro T lc vm h k P
      refine step (fun _ => XS.aload P.1.here hx rfl (B at_403) (by rw [hls42]; rfl) rfl) ?_
      refine step (fun _ => XS.bipush P.1.here hx rfl (B at_405)) ?_
      show G T (mkF m 407 ls42 [(.int 13), (.ref b28)])
      refine ckN (13 : Int32) 407 _ (B at_407) (B at_409) (B at_411) (B at_412) (B at_414) (B at_416) (B at_418) (B at_421) _ _ _ _ _ _ _ P (by decide) (by have k_ : (13 : Int32).toInt = 13 := (by decide); omega) (by decide) (by decide) ?_
      intro T lc vm h k P
      refine step (fun _ => XS.aload P.1.here hx rfl (B at_424) (by rw [hls42]; rfl) rfl) ?_
      refine step (fun _ => XS.bipush P.1.here hx rfl (B at_426)) ?_
      show G T (mkF m 428 ls42 [(.int 14), (.ref b28)])
      refine ckN (14 : Int32) 428 _ (B at_428) (B at_430) (B at_432) (B at_433) (B at_435) (B at_437) (B at_439) (B at_442) _ _ _ _ _ _ _ P (by decide) (by have k_ : (14 : Int32).toInt = 14 := (by decide); omega) (by decide) (by decide) ?_
      intro T lc vm h k P
      refine step (fun _ => XS.aload P.1.here hx rfl (B at_445) (by rw [hls42]; rfl) rfl) ?_
      refine step (fun _ => XS.bipush P.1.here hx rfl (B at_447)) ?_
      show G T (mkF m 449 ls42 [(.int 15), (.ref b28)])
      refine ckN (15 : Int32) 449 _ (B at_449) (B at_451) (B at_453) (B at_454) (B at_456) (B at_458) (B at_460) (B at_463) _ _ _ _ _ _ _ P (by decide) (by have k_ : (15 : Int32).toInt = 15 := (by decide); omega) (by decide) (by decide) ?_
      intro T lc vm h k P
      refine step (fun _ => XS.aload P.1.here hx rfl (B at_466) (by rw [hls42]; rfl) rfl) ?_
      refine step (fun _ => XS.bipush P.1.here hx rfl (B at_468)) ?_
      show G T (mkF m 470 ls42 [(.int 16), (.ref b28)])
      refine ckL (16 : Int32) 470 _ (B at_470) (B at_472) (B at_474) (B at_475) (B at_477) (B at_479) (B at_481) (B at_484) _ _ _ _ _ _ _ P (by decide) (by decide) (by decide) ?_
      intro T lc vm h k P
      refine step (fun _ => XS.aload P.1.here hx rfl (B at_487) (by rw [hls42]; rfl) rfl) ?_
      refine step (fun _ => XS.bipush P.1.here hx rfl (B at_489)) ?_
      show G T (mkF m 491 ls42 [(.int 17), (.ref b28)])
      refine ckL (17 : Int32) 491 _ (B at_491) (B at_493) (B at_495) (B at_496) (B at_498) (B at_500) (B at_502) (B at_505) _ _ _ _ _ _ _ P (by decide) (by decide) (by decide) ?_
      intro T lc vm h k P
      refine step (fun _ => XS.aload P.1.here hx rfl (B at_508) (by rw [hls42]; rfl) rfl) ?_
      refine step (fun _ => XS.bipush P.1.here hx rfl (B at_510)) ?_
      show G T (mkF m 512 ls42 [(.int 18), (.ref b28)])
      refine ckL (18 : Int32) 512 _ (B at_512) (B at_514) (B at_516) (B at_517) (B at_519) (B at_521) (B at_523) (B at_526) _ _ _ _ _ _ _ P (by decide) (by decide) (by decide) ?_
      intro T lc vm h k P
      refine step (fun _ => XS.aload P.1.here hx rfl (B at_529) (by rw [hls42]; rfl) rfl) ?_
      refine step (fun _ => XS.bipush P.1.here hx rfl (B at_531)) ?_
      show G T (mkF m 533 ls42 [(.int 19), (.ref b28)])
      refine ckL (19 : Int32) 533 _ (B at_533) (B at_535) (B at_537) (B at_538) (B at_540) (B at_542) (B at_544) (B at_547) _ _ _ _ _ _ _ P (by decide) (by decide) (by decide) ?_
      intro T lc vm h k P
      refine step (fun _ => XS.aload P.1.here hx rfl (B at_550) (by rw [hls42]; rfl) rfl) ?_
      refine step (fun _ => XS.bipush P.1.here hx rfl (B at_552)) ?_
      show G T (mkF m 554 ls42 [(.int 20), (.ref b28)])
      refine ckL (20 : Int32) 554 _ (B at_554) (B at_556) (B at_558) (B at_559) (B at_561) (B at_563) (B at_565) (B at_568) _ _ _ _ _ _ _ P (by decide) (by decide) (by decide) ?_
      intro T lc vm h k P
      refine step (fun _ => XS.aload P.1.here hx rfl (B at_571) (by rw [hls42]; rfl) rfl) ?_
      refine step (fun _ => XS.bipush P.1.here hx rfl (B at_573)) ?_
      show G T (mkF m 575 ls42 [(.int 21), (.ref b28)])
      refine ckL (21 : Int32) 575 _ (B at_575) (B at_577) (B at_579) (B at_580) (B at_582) (B at_584) (B at_586) (B at_589) _ _ _ _ _ _ _ P (by decide) (by decide) (by decide) ?_
      intro T lc vm h k P
      refine step (fun _ => XS.aload P.1.here hx rfl (B at_592) (by rw [hls42]; rfl) rfl) ?_
      refine step (fun _ => XS.bipush P.1.here hx rfl (B at_594)) ?_
      show G T (mkF m 596 ls42 [(.int 22), (.ref b28)])
      refine ckL (22 : Int32) 596 _ (B at_596) (B at_598) (B at_600) (B at_601) (B at_603) (B at_605) (B at_607) (B at_610) _ _ _ _ _ _ _ P (by decide) (by decide) (by decide) ?_
      intro T lc vm h k P
      refine step (fun _ => XS.aload P.1.here hx rfl (B at_613) (by rw [hls42]; rfl) rfl) ?_
      refine step (fun _ => XS.bipush P.1.here hx rfl (B at_615)) ?_
      show G T (mkF m 617 ls42 [(.int 23), (.ref b28)])
      refine ckL (23 : Int32) 617 _ (B at_617) (B at_619) (B at_621) (B at_622) (B at_624) (B at_626) (B at_628) (B at_631) _ _ _ _ _ _ _ P (by decide) (by decide) (by decide) ?_
      intro T lc vm h k P
      refine step (fun _ => XS.aload P.1.here hx rfl (B at_634) (by rw [hls42]; rfl) rfl) ?_
      refine step (fun _ => XS.bipush P.1.here hx rfl (B at_636)) ?_
      show G T (mkF m 638 ls42 [(.int 24), (.ref b28)])
      refine ckL (24 : Int32) 638 _ (B at_638) (B at_640) (B at_642) (B at_643) (B at_645) (B at_647) (B at_649) (B at_652) _ _ _ _ _ _ _ P (by decide) (by decide) (by decide) ?_
      intro T lc vm h k P
      refine step (fun _ => XS.aload P.1.here hx rfl (B at_655) (by rw [hls42]; rfl) rfl) ?_
      refine step (fun _ => XS.bipush P.1.here hx rfl (B at_657)) ?_
      show G T (mkF m 659 ls42 [(.int 25), (.ref b28)])
      refine ckN (25 : Int32) 659 _ (B at_659) (B at_661) (B at_663) (B at_664) (B at_666) (B at_668) (B at_670) (B at_673) _ _ _ _ _ _ _ P (by decide) (by have k_ : (25 : Int32).toInt = 25 := (by decide); omega) (by decide) (by decide) ?_
      intro T lc vm h k P
      refine step (fun _ => XS.aload P.1.here hx rfl (B at_676) (by rw [hls42]; rfl) rfl) ?_
      refine step (fun _ => XS.bipush P.1.here hx rfl (B at_678)) ?_
      show G T (mkF m 680 ls42 [(.int 26), (.ref b28)])
      refine ckN (26 : Int32) 680 _ (B at_680) (B at_682) (B at_684) (B at_685) (B at_687) (B at_689) (B at_691) (B at_694) _ _ _ _ _ _ _ P (by decide) (by have k_ : (26 : Int32).toInt = 26 := (by decide); omega) (by decide) (by decide) ?_
      intro T lc vm h k P
      refine step (fun _ => XS.aload P.1.here hx rfl (B at_697) (by rw [hls42]; rfl) rfl) ?_
      refine step (fun _ => XS.bipush P.1.here hx rfl (B at_699)) ?_
      show G T (mkF m 701 ls42 [(.int 27), (.ref b28)])
      refine ckN (27 : Int32) 701 _ (B at_701) (B at_703) (B at_705) (B at_706) (B at_708) (B at_710) (B at_712) (B at_715) _ _ _ _ _ _ _ P (by decide) (by have k_ : (27 : Int32).toInt = 27 := (by decide); omega) (by decide) (by decide) ?_
      intro T lc vm h k P
      refine step (fun _ => XS.aload P.1.here hx rfl (B at_718) (by rw [hls42]; rfl) rfl) ?_
      refine step (fun _ => XS.bipush P.1.here hx rfl (B at_720)) ?_
      show G T (mkF m 722 ls42 [(.int 28), (.ref b28)])
      refine ckN (28 : Int32) 722 _ (B at_722) (B at_724) (B at_726) (B at_727) (B at_729) (B at_731) (B at_733) (B at_736) _ _ _ _ _ _ _ P (by decide) (by have k_ : (28 : Int32).toInt = 28 := (by decide); omega) (by decide) (by decide) ?_
      intro T lc vm h k P
      obtain ⟨Xz, ez, Nz, Oz, hS, hkz, hZ, hown, Cz, -⟩ := P
      refine step (fun _ => XS.iconst Xz.here hx rfl (B at_739)) ?_
      refine step (fun _ => XS.goto Xz.here hx rfl (pc0 := 740) (pc' := 744) rfl (B at_740) (by decide) (by decide)) ?_
      exact ret (v := some (.int 1)) Xz hS hkz Cz hZ (fun h => by rw [Bd.returns] at h; cases h) (fun fs hr => retN Xz hx (t := .boolean) Bd.returns (by simp) (B at_744) hr) ez ⟨rfl, Nz⟩ (by decide) (by decide)
  · skip
    have he9 := own_isTn hp Y28_7
    refine step (fun _ => XS.iloadN X28.here hx rfl (B at_94) (by rw [hls39]; rfl)) ?_
    refine step (fun _ => XS.ifYes X28.here hx rfl (pc0 := 95) (pc' := 105) rfl (B at_95) rfl ((if0 _ _).trans (flt hp).2.2.2) (by decide) (by decide)) ?_
    refine step (fun _ => XS.iconst X28.here hx rfl (B at_105)) ?_
    show G T28 (mkF m 106 ls39 [(.int 0)])
    obtain ⟨ls142, hls142⟩ := own_sl #[vI p0, vI p1, vI p2, vI p3, vI ((p1 &&& (255 : Int32))), vI ((p2 &&& (255 : Int32))), vI ((p3 &&& (255 : Int32))), vR b4, vR b6, vR b8, vR b12, vR b28, vI 0, u_]
    refine step (fun _ => XS.istore X28.here hx rfl (B at_106) rfl (l' := ls142) (by rw [hls39, hls142]; rfl)) ?_
    refine step (fun _ => XS.iloadN X28.here hx rfl (B at_108) (by rw [hls142]; rfl)) ?_
    refine step (fun _ => XS.ifYes X28.here hx rfl (pc0 := 109) (pc' := 120) rfl (B at_109) rfl ((if0 _ _).trans (flt hp).2.2.2) (by decide) (by decide)) ?_
    refine step (fun _ => XS.bipush X28.here hx rfl (B at_120)) ?_
    show G T28 (mkF m 122 ls142 [(.int 13)])
    obtain ⟨ls143, hls143⟩ := own_sl #[vI p0, vI p1, vI p2, vI p3, vI ((p1 &&& (255 : Int32))), vI ((p2 &&& (255 : Int32))), vI ((p3 &&& (255 : Int32))), vR b4, vR b6, vR b8, vR b12, vR b28, vI 0, vI 13]
    refine step (fun _ => XS.istore X28.here hx rfl (B at_122) rfl (l' := ls143) (by rw [hls142, hls143]; rfl)) ?_
    refine step (fun _ => XS.aload X28.here hx rfl (B at_124) (by rw [hls143]; rfl) rfl) ?_
    have hK144 := (backOf (R := room_1) (p := p) (e := e) (below := below) (args := #[(.int p0), (.int p1), (.int p2), (.int p3)]) (len := 3) (W := 0) (rm_le l Z a0 hw [] w_0 w_1 w_2 w_3 b28 t_28 kk_28 n_28 cs_28 T28.heap n0 (own_old_le O28) ST O28 Y28_2 Y28_3 Y28_4 Y28_5 Y28_6) hZ (ww108 hw) (ww2 hw) (by decide) (by decide))
    obtain ⟨cq144, kq144, q144a, q144b, q144c⟩ := isOf hZ rfl Y28_2
    obtain ⟨_, _, ⟨T144, L144, k144, n144⟩, -, X144, ⟨Lc144, hQ144, l144, y144, z144⟩, st144⟩ := X28.virtualBack hx (y := y_1) (z := y_1) hown (mvT hZ (ww189 hw)) (mvT hZ (ww105 hw)) (notFace_of_selects (args := #[]) (mvT hZ (ww107 hw))) (mvT hZ (ww107 hw)) (mvT hZ (ww106 hw)) (by decide) hK144 q144a q144c (g := (mkF m 126 ls143 [(.ref b28)])) rfl (by rw [hml, hls143]; rfl) (Steps.refl _) (argsL := []) (rest := []) (lenOf pd_15 rfl) rfl (by show 2 * 0 + _ ≤ _; exact Nat.le_of_eq rfl) (B at_126) (fun _ _ => ⟨rfl, rfl, (by decide : 38 + 0 ≤ _), (by decide : 528 + 0 ≤ _)⟩)
    dsimp only [Pt.U, Pt.locs, Pt.cells, Pt.slots] at X144 l144 y144 z144 st144 hQ144
    subst l144 y144 z144
    obtain ⟨rfl, N144q, e144⟩ := hQ144
    have N144 := Fr.app N28 N144q
    obtain ⟨lc144, X144, N144⟩ := own_gen X144 N144
    refine step (fun t k => st144.trans k) ?_
    have r145 : (f_le w_0 w_1 w_2 w_3 b28 t_28 kk_28 n_28 cs_28) = n_28 := rfl
    rw [r145]
    refine step (fun _ => XS.iload X144.here hx rfl (B at_129) (by rw [hls143]; rfl)) ?_
    refine step (fun _ => XS.icmpYes X144.here hx rfl (pc0 := 131) (pc' := 136) rfl (B at_131) rfl (teq (own_l13 Y28_6 he9)).1 (by decide) (by decide)) ?_
    have ckL : ∀ (i : Int32) (P0 : Nat) (off : Int), decode c.code P0 = .ok (.iload 13, 2) → decode c.code (P0 + 2) = .ok (.iload 4, 2) → decode c.code (P0 + 4) = .ok (.iload_n 0, 1) → decode c.code (P0 + 5) = .ok (.iload 12, 2) → decode c.code (P0 + 7) = .ok (.iload 5, 2) → decode c.code (P0 + 9) = .ok (.iload 6, 2) → decode c.code (P0 + 11) = .ok (.invokestatic 43, 3) → decode c.code (P0 + 14) = .ok (.ifCond .eq off, 3) → ∀ (Tc : State) (lcc : List Loc) (ce sl : Nat) (vmc : Vm) (hc : Heap) (kc : Nat), own_CP p l e s m #[(.int p0), (.int p1), (.int p2), (.int p3)] below meth c Z h0 n0 b28 t_28 kk_28 n_28 (own_by cs_28) Tc lcc ce sl vmc hc kc → ¬ i < 0 → ce + 2 ≤ room_1.cells → sl + 36 ≤ room_1.slots → (∀ (Td : State) (lcd : List Loc) (vmd : Vm) (hd : Heap) (kd : Nat), own_CP p l e s m #[(.int p0), (.int p1), (.int p2), (.int p3)] below meth c Z h0 n0 b28 t_28 kk_28 n_28 (own_by cs_28) Td lcd (ce + 2) (sl + 36) vmd hd kd → G Td (mkF m (P0 + 17) ls143 [])) → G Tc (mkF m P0 ls143 [(.int i), (.ref b28)]) := by
      rintro i P0 off hd0 hd2 hd4 hd5 hd7 hd9 hd11 hd14 Tc lcc ce sl vmc hc kc ⟨Xc, ec, Nc, Oc, hS, hkc, hZ, hown, Cc, Ec, Fvc, Fcc, Vc⟩ hi0 hce hsl KT
      refine step (fun _ => XS.iload Xc.here hx rfl hd0 (by rw [hls143]; rfl)) ?_
      refine step (fun _ => XS.iload Xc.here hx rfl hd2 (by rw [hls143]; rfl)) ?_
      refine step (fun _ => XS.iloadN Xc.here hx rfl hd4 (by rw [hls143]; rfl)) ?_
      show G Tc (mkF m (P0 + 5) ls143 [(.int p0), (.int (p1 &&& (255 : Int32))), (.int 13), (.int i), (.ref b28)])
      refine step (fun _ => XS.iload Xc.here hx rfl hd5 (by rw [hls143]; rfl)) ?_
      refine step (fun _ => XS.iload Xc.here hx rfl hd7 (by rw [hls143]; rfl)) ?_
      refine step (fun _ => XS.iload Xc.here hx rfl hd9 (by rw [hls143]; rfl)) ?_
      have hK146 := (backOfSH (s := s) (vm0 := vmc) (R := room_1) (p := p) (e := e) (below := below) (args := #[(.int p0), (.int p1), (.int p2), (.int p3)]) (len := 3) (W := 0) (rm_kBL l Z a0 hw [] w_0 w_1 w_2 w_3 b28 i (13 : Int32) (p1 &&& (255 : Int32)) p0 (0 : Int32) (p2 &&& (255 : Int32)) (p3 &&& (255 : Int32)) t_28 kk_28 n_28 cs_28 hc n0 (own_old_le Oc) ST Oc Ec Fvc Fcc Vc Y28_6 (hi0 : ¬ (i < (0 : Int32))) (hp : ¬ ((0 : Int32) < p0)) (own_l13 Y28_6 he9).symm he9 (own_and255 p1) (own_and255 p2) (own_and255 p3)) hZ (ww193 hw) (ww192 hw) (by decide) (by decide) (own_EW hw) Cc.1)
      obtain ⟨_, _, ⟨T146, L146, k146, n146⟩, -, X146, hS146, hg146, ⟨Lc146, hQ146, l146, y146, z146, hC146⟩, st146⟩ := callSS Xc hx (y := y_49) hown (mvT hZ (ww190 hw)) (mvT hZ (ww191 hw)) (mvT hZ (ww192 hw)) (mvT hZ (ww193 hw)) (by decide) hK146 (g := (mkF m (P0 + 11) ls143 [(.int (p3 &&& (255 : Int32))), (.int (p2 &&& (255 : Int32))), (.int 0), (.int p0), (.int (p1 &&& (255 : Int32))), (.int 13), (.int i), (.ref b28)])) rfl (by rw [hml, hls143]; rfl) (argsL := [(.ref b28), (.int i), (.int 13), (.int (p1 &&& (255 : Int32))), (.int p0), (.int 0), (.int (p2 &&& (255 : Int32))), (.int (p3 &&& (255 : Int32)))]) (rest := []) (lenOf pd_36 rfl) rfl (by show 2 * 0 + _ ≤ _; exact Nat.le_of_eq rfl) hd11 (fun _ _ => ⟨rfl, ec, hce, hsl⟩)
      dsimp only [Pt.U, Pt.locs, Pt.cells, Pt.slots] at X146 l146 y146 z146 st146 hQ146 hS146 hg146 hC146
      subst l146 y146 z146
      obtain ⟨X146, hS, hZ, hown⟩ := rebS (s := s) hS (by rw [ec]; exact hkc) X146 hS146 hg146 hZ hown
      obtain ⟨rfl, N146q, K146q⟩ := hQ146
      have N146 := Fr.app Nc N146q
      obtain ⟨lc146, X146, N146⟩ := own_gen X146 N146
      have cz146 : CHr Z own_EL vmc hc T146.vm T146.heap := hC146
      have C146 : CHr Z own_EL s.vm h0 T146.vm T146.heap := Cc.trans cz146
      have O146 := Oc.keep K146q all0
      have hk146 : _ ≤ T146.heap.size := Nat.le_refl _
      refine step (fun t k => st146.trans k) ?_
      refine step (fun _ => XS.ifNo X146.here hx rfl hd14 rfl ((if0 _ _).trans (feq (by decide : ¬ ((1 : Int32) = (0 : Int32)))).1)) ?_
      have f147 := (Exa.keep Ec K146q)
      have f148 := (Fld.keep Fvc K146q nin0)
      have f149 := (Fld.keep Fcc K146q nin0)
      have f150 := (Arv.keep Vc K146q nin0)
      exact KT _ _ _ _ _ ⟨X146, rfl, N146, O146, hS, hk146, hZ, hown, C146, f147, f148, f149, f150⟩
    have ckN : ∀ (i : Int32) (P0 : Nat) (off : Int), decode c.code P0 = .ok (.iload 13, 2) → decode c.code (P0 + 2) = .ok (.iload 4, 2) → decode c.code (P0 + 4) = .ok (.iload_n 0, 1) → decode c.code (P0 + 5) = .ok (.iload 12, 2) → decode c.code (P0 + 7) = .ok (.iload 5, 2) → decode c.code (P0 + 9) = .ok (.iload 6, 2) → decode c.code (P0 + 11) = .ok (.invokestatic 43, 3) → decode c.code (P0 + 14) = .ok (.ifCond .eq off, 3) → ∀ (Tc : State) (lcc : List Loc) (ce sl : Nat) (vmc : Vm) (hc : Heap) (kc : Nat), own_CP p l e s m #[(.int p0), (.int p1), (.int p2), (.int p3)] below meth c Z h0 n0 b28 t_28 kk_28 n_28 (own_by cs_28) Tc lcc ce sl vmc hc kc → ¬ i < 0 → (i.toInt = 0 ∨ 9 ≤ i.toInt) → ce + 0 ≤ room_1.cells → sl + 0 ≤ room_1.slots → (∀ (Td : State) (lcd : List Loc) (vmd : Vm) (hd : Heap) (kd : Nat), own_CP p l e s m #[(.int p0), (.int p1), (.int p2), (.int p3)] below meth c Z h0 n0 b28 t_28 kk_28 n_28 (own_by cs_28) Td lcd (ce + 0) (sl + 0) vmd hd kd → G Td (mkF m (P0 + 17) ls143 [])) → G Tc (mkF m P0 ls143 [(.int i), (.ref b28)]) := by
      rintro i P0 off hd0 hd2 hd4 hd5 hd7 hd9 hd11 hd14 Tc lcc ce sl vmc hc kc ⟨Xc, ec, Nc, Oc, hS, hkc, hZ, hown, Cc, Ec, Fvc, Fcc, Vc⟩ hi0 hNi hce hsl KT
      refine step (fun _ => XS.iload Xc.here hx rfl hd0 (by rw [hls143]; rfl)) ?_
      refine step (fun _ => XS.iload Xc.here hx rfl hd2 (by rw [hls143]; rfl)) ?_
      refine step (fun _ => XS.iloadN Xc.here hx rfl hd4 (by rw [hls143]; rfl)) ?_
      refine step (fun _ => XS.iload Xc.here hx rfl hd5 (by rw [hls143]; rfl)) ?_
      show G Tc (mkF m (P0 + 7) ls143 [(.int 0), (.int p0), (.int (p1 &&& (255 : Int32))), (.int 13), (.int i), (.ref b28)])
      refine step (fun _ => XS.iload Xc.here hx rfl hd7 (by rw [hls143]; rfl)) ?_
      refine step (fun _ => XS.iload Xc.here hx rfl hd9 (by rw [hls143]; rfl)) ?_
      have hK151 := (backOf (R := room_1) (p := p) (e := e) (below := below) (args := #[(.int p0), (.int p1), (.int p2), (.int p3)]) (len := 3) (W := 0) (rm_kBN l Z a0 hw [] w_0 w_1 w_2 w_3 b28 i (13 : Int32) (p1 &&& (255 : Int32)) p0 (0 : Int32) (p2 &&& (255 : Int32)) (p3 &&& (255 : Int32)) t_28 kk_28 n_28 cs_28 hc n0 (own_old_le Oc) ST Oc Ec Fvc Fcc Vc Y28_6 (hi0 : ¬ (i < (0 : Int32))) (hp : ¬ ((0 : Int32) < p0)) (own_l13 Y28_6 he9).symm he9 (own_and255 p1) (own_and255 p2) (own_and255 p3) hNi) hZ (ww193 hw) (ww192 hw) (by decide) (by decide))
      obtain ⟨_, _, ⟨T151, L151, k151, n151⟩, -, X151, ⟨Lc151, hQ151, l151, y151, z151⟩, st151⟩ := Jvm.LawKit.callS Xc hx (y := y_49) hown (mvT hZ (ww190 hw)) (mvT hZ (ww191 hw)) (mvT hZ (ww192 hw)) (mvT hZ (ww193 hw)) (by decide) hK151 (g := (mkF m (P0 + 11) ls143 [(.int (p3 &&& (255 : Int32))), (.int (p2 &&& (255 : Int32))), (.int 0), (.int p0), (.int (p1 &&& (255 : Int32))), (.int 13), (.int i), (.ref b28)])) rfl (by rw [hml, hls143]; rfl) (argsL := [(.ref b28), (.int i), (.int 13), (.int (p1 &&& (255 : Int32))), (.int p0), (.int 0), (.int (p2 &&& (255 : Int32))), (.int (p3 &&& (255 : Int32)))]) (rest := []) (lenOf pd_36 rfl) rfl (by show 2 * 0 + _ ≤ _; exact Nat.le_of_eq rfl) hd11 (fun _ _ => ⟨rfl, ec, hce, hsl⟩)
      dsimp only [Pt.U, Pt.locs, Pt.cells, Pt.slots] at X151 l151 y151 z151 st151 hQ151
      subst l151 y151 z151
      obtain ⟨rfl, N151q, K151q⟩ := hQ151
      have N151 := Fr.app Nc N151q
      obtain ⟨lc151, X151, N151⟩ := own_gen X151 N151
      have cz151 : CHr Z own_EL vmc hc vmc T151.heap := CHr.keep K151q all0 Cc.1
      have C151 : CHr Z own_EL s.vm h0 vmc T151.heap := Cc.trans cz151
      have O151 := Oc.keep K151q all0
      have hk151 : _ ≤ T151.heap.size := Nat.le_trans hkc K151q.1
      refine step (fun t k => st151 t k) ?_
      refine step (fun _ => XS.ifNo X151.here hx rfl hd14 rfl ((if0 _ _).trans (feq (by decide : ¬ ((1 : Int32) = (0 : Int32)))).1)) ?_
      have f152 := (Exa.keep Ec K151q)
      have f153 := (Fld.keep Fvc K151q nin0)
      have f154 := (Fld.keep Fcc K151q nin0)
      have f155 := (Arv.keep Vc K151q nin0)
      exact KT _ _ _ _ _ ⟨X151, rfl, N151, O151, hS, hk151, hZ, hown, C151, f152, f153, f154, f155⟩
    refine step (fun _ => XS.aload X144.here hx rfl (B at_136) (by rw [hls143]; rfl) rfl) ?_
    refine step (fun _ => XS.iconst X144.here hx rfl (B at_138)) ?_
    have P : own_CP p l e s m #[(.int p0), (.int p1), (.int p2), (.int p3)] below meth c Z h0 n0 b28 t_28 kk_28 n_28 (own_by cs_28) _ _ _ _ _ _ _ := ⟨X144, e144, N144, O28, hS, hk28, hZ, hown, C28, Y28_2, Y28_3, Y28_4, Y28_5⟩
    refine ckN (0 : Int32) 139 _ (B at_139) (B at_141) (B at_143) (B at_144) (B at_146) (B at_148) (B at_150) (B at_153) _ _ _ _ _ _ _ P (by decide) (by have k_ : (0 : Int32).toInt = 0 := (by decide); omega) (by decide) (by decide) ?_
    intro T lc vm h k P
    refine step (fun _ => XS.aload P.1.here hx rfl (B at_156) (by rw [hls143]; rfl) rfl) ?_
    refine step (fun _ => XS.iconst P.1.here hx rfl (B at_158)) ?_
    refine ckL (1 : Int32) 159 _ (B at_159) (B at_161) (B at_163) (B at_164) (B at_166) (B at_168) (B at_170) (B at_173) _ _ _ _ _ _ _ P (by decide) (by decide) (by decide) ?_
    intro T lc vm h k P
    refine step (fun _ => XS.aload P.1.here hx rfl (B at_176) (by rw [hls143]; rfl) rfl) ?_
    refine step (fun _ => XS.iconst P.1.here hx rfl (B at_178)) ?_
    refine ckL (2 : Int32) 179 _ (B at_179) (B at_181) (B at_183) (B at_184) (B at_186) (B at_188) (B at_190) (B at_193) _ _ _ _ _ _ _ P (by decide) (by decide) (by decide) ?_
    intro T lc vm h k P
    refine step (fun _ => XS.aload P.1.here hx rfl (B at_196) (by rw [hls143]; rfl) rfl) ?_
    refine step (fun _ => XS.iconst P.1.here hx rfl (B at_198)) ?_
    refine ckL (3 : Int32) 199 _ (B at_199) (B at_201) (B at_203) (B at_204) (B at_206) (B at_208) (B at_210) (B at_213) _ _ _ _ _ _ _ P (by decide) (by decide) (by decide) ?_
    intro T lc vm h k P
    refine step (fun _ => XS.aload P.1.here hx rfl (B at_216) (by rw [hls143]; rfl) rfl) ?_
    refine step (fun _ => XS.iconst P.1.here hx rfl (B at_218)) ?_
    refine ckL (4 : Int32) 219 _ (B at_219) (B at_221) (B at_223) (B at_224) (B at_226) (B at_228) (B at_230) (B at_233) _ _ _ _ _ _ _ P (by decide) (by decide) (by decide) ?_
    intro T lc vm h k P
    refine step (fun _ => XS.aload P.1.here hx rfl (B at_236) (by rw [hls143]; rfl) rfl) ?_
    refine step (fun _ => XS.iconst P.1.here hx rfl (B at_238)) ?_
    refine ckL (5 : Int32) 239 _ (B at_239) (B at_241) (B at_243) (B at_244) (B at_246) (B at_248) (B at_250) (B at_253) _ _ _ _ _ _ _ P (by decide) (by decide) (by decide) ?_
    intro T lc vm h k P
    refine step (fun _ => XS.aload P.1.here hx rfl (B at_256) (by rw [hls143]; rfl) rfl) ?_
    refine step (fun _ => XS.bipush P.1.here hx rfl (B at_258)) ?_
    show G T (mkF m 260 ls143 [(.int 6), (.ref b28)])
    refine ckL (6 : Int32) 260 _ (B at_260) (B at_262) (B at_264) (B at_265) (B at_267) (B at_269) (B at_271) (B at_274) _ _ _ _ _ _ _ P (by decide) (by decide) (by decide) ?_
    intro T lc vm h k P
    refine step (fun _ => XS.aload P.1.here hx rfl (B at_277) (by rw [hls143]; rfl) rfl) ?_
    refine step (fun _ => XS.bipush P.1.here hx rfl (B at_279)) ?_
    show G T (mkF m 281 ls143 [(.int 7), (.ref b28)])
    refine ckL (7 : Int32) 281 _ (B at_281) (B at_283) (B at_285) (B at_286) (B at_288) (B at_290) (B at_292) (B at_295) _ _ _ _ _ _ _ P (by decide) (by decide) (by decide) ?_
    intro T lc vm h k P
    refine step (fun _ => XS.aload P.1.here hx rfl (B at_298) (by rw [hls143]; rfl) rfl) ?_
    refine step (fun _ => XS.bipush P.1.here hx rfl (B at_300)) ?_
    show G T (mkF m 302 ls143 [(.int 8), (.ref b28)])
    refine ckL (8 : Int32) 302 _ (B at_302) (B at_304) (B at_306) (B at_307) (B at_309) (B at_311) (B at_313) (B at_316) _ _ _ _ _ _ _ P (by decide) (by decide) (by decide) ?_
    intro T lc vm h k P
    refine step (fun _ => XS.aload P.1.here hx rfl (B at_319) (by rw [hls143]; rfl) rfl) ?_
    refine step (fun _ => XS.bipush P.1.here hx rfl (B at_321)) ?_
    show G T (mkF m 323 ls143 [(.int 9), (.ref b28)])
    refine ckN (9 : Int32) 323 _ (B at_323) (B at_325) (B at_327) (B at_328) (B at_330) (B at_332) (B at_334) (B at_337) _ _ _ _ _ _ _ P (by decide) (by have k_ : (9 : Int32).toInt = 9 := (by decide); omega) (by decide) (by decide) ?_
    intro T lc vm h k P
    refine step (fun _ => XS.aload P.1.here hx rfl (B at_340) (by rw [hls143]; rfl) rfl) ?_
    refine step (fun _ => XS.bipush P.1.here hx rfl (B at_342)) ?_
    show G T (mkF m 344 ls143 [(.int 10), (.ref b28)])
    refine ckN (10 : Int32) 344 _ (B at_344) (B at_346) (B at_348) (B at_349) (B at_351) (B at_353) (B at_355) (B at_358) _ _ _ _ _ _ _ P (by decide) (by have k_ : (10 : Int32).toInt = 10 := (by decide); omega) (by decide) (by decide) ?_
    intro T lc vm h k P
    refine step (fun _ => XS.aload P.1.here hx rfl (B at_361) (by rw [hls143]; rfl) rfl) ?_
    refine step (fun _ => XS.bipush P.1.here hx rfl (B at_363)) ?_
    show G T (mkF m 365 ls143 [(.int 11), (.ref b28)])
    refine ckN (11 : Int32) 365 _ (B at_365) (B at_367) (B at_369) (B at_370) (B at_372) (B at_374) (B at_376) (B at_379) _ _ _ _ _ _ _ P (by decide) (by have k_ : (11 : Int32).toInt = 11 := (by decide); omega) (by decide) (by decide) ?_
    intro T lc vm h k P
    refine step (fun _ => XS.aload P.1.here hx rfl (B at_382) (by rw [hls143]; rfl) rfl) ?_
    refine step (fun _ => XS.bipush P.1.here hx rfl (B at_384)) ?_
    show G T (mkF m 386 ls143 [(.int 12), (.ref b28)])
    refine ckN (12 : Int32) 386 _ (B at_386) (B at_388) (B at_390) (B at_391) (B at_393) (B at_395) (B at_397) (B at_400) _ _ _ _ _ _ _ P (by decide) (by have k_ : (12 : Int32).toInt = 12 := (by decide); omega) (by decide) (by decide) ?_
    intro T lc vm h k P
    refine step (fun _ => XS.aload P.1.here hx rfl (B at_403) (by rw [hls143]; rfl) rfl) ?_
    refine step (fun _ => XS.bipush P.1.here hx rfl (B at_405)) ?_
    show G T (mkF m 407 ls143 [(.int 13), (.ref b28)])
    refine ckN (13 : Int32) 407 _ (B at_407) (B at_409) (B at_411) (B at_412) (B at_414) (B at_416) (B at_418) (B at_421) _ _ _ _ _ _ _ P (by decide) (by have k_ : (13 : Int32).toInt = 13 := (by decide); omega) (by decide) (by decide) ?_
    intro T lc vm h k P
    refine step (fun _ => XS.aload P.1.here hx rfl (B at_424) (by rw [hls143]; rfl) rfl) ?_
    refine step (fun _ => XS.bipush P.1.here hx rfl (B at_426)) ?_
    show G T (mkF m 428 ls143 [(.int 14), (.ref b28)])
    refine ckN (14 : Int32) 428 _ (B at_428) (B at_430) (B at_432) (B at_433) (B at_435) (B at_437) (B at_439) (B at_442) _ _ _ _ _ _ _ P (by decide) (by have k_ : (14 : Int32).toInt = 14 := (by decide); omega) (by decide) (by decide) ?_
    intro T lc vm h k P
    refine step (fun _ => XS.aload P.1.here hx rfl (B at_445) (by rw [hls143]; rfl) rfl) ?_
    refine step (fun _ => XS.bipush P.1.here hx rfl (B at_447)) ?_
    show G T (mkF m 449 ls143 [(.int 15), (.ref b28)])
    refine ckN (15 : Int32) 449 _ (B at_449) (B at_451) (B at_453) (B at_454) (B at_456) (B at_458) (B at_460) (B at_463) _ _ _ _ _ _ _ P (by decide) (by have k_ : (15 : Int32).toInt = 15 := (by decide); omega) (by decide) (by decide) ?_
    intro T lc vm h k P
    refine step (fun _ => XS.aload P.1.here hx rfl (B at_466) (by rw [hls143]; rfl) rfl) ?_
    refine step (fun _ => XS.bipush P.1.here hx rfl (B at_468)) ?_
    show G T (mkF m 470 ls143 [(.int 16), (.ref b28)])
    refine ckN (16 : Int32) 470 _ (B at_470) (B at_472) (B at_474) (B at_475) (B at_477) (B at_479) (B at_481) (B at_484) _ _ _ _ _ _ _ P (by decide) (by have k_ : (16 : Int32).toInt = 16 := (by decide); omega) (by decide) (by decide) ?_
    intro T lc vm h k P
    refine step (fun _ => XS.aload P.1.here hx rfl (B at_487) (by rw [hls143]; rfl) rfl) ?_
    refine step (fun _ => XS.bipush P.1.here hx rfl (B at_489)) ?_
    show G T (mkF m 491 ls143 [(.int 17), (.ref b28)])
    refine ckN (17 : Int32) 491 _ (B at_491) (B at_493) (B at_495) (B at_496) (B at_498) (B at_500) (B at_502) (B at_505) _ _ _ _ _ _ _ P (by decide) (by have k_ : (17 : Int32).toInt = 17 := (by decide); omega) (by decide) (by decide) ?_
    intro T lc vm h k P
    refine step (fun _ => XS.aload P.1.here hx rfl (B at_508) (by rw [hls143]; rfl) rfl) ?_
    refine step (fun _ => XS.bipush P.1.here hx rfl (B at_510)) ?_
    show G T (mkF m 512 ls143 [(.int 18), (.ref b28)])
    refine ckN (18 : Int32) 512 _ (B at_512) (B at_514) (B at_516) (B at_517) (B at_519) (B at_521) (B at_523) (B at_526) _ _ _ _ _ _ _ P (by decide) (by have k_ : (18 : Int32).toInt = 18 := (by decide); omega) (by decide) (by decide) ?_
    intro T lc vm h k P
    refine step (fun _ => XS.aload P.1.here hx rfl (B at_529) (by rw [hls143]; rfl) rfl) ?_
    refine step (fun _ => XS.bipush P.1.here hx rfl (B at_531)) ?_
    show G T (mkF m 533 ls143 [(.int 19), (.ref b28)])
    refine ckN (19 : Int32) 533 _ (B at_533) (B at_535) (B at_537) (B at_538) (B at_540) (B at_542) (B at_544) (B at_547) _ _ _ _ _ _ _ P (by decide) (by have k_ : (19 : Int32).toInt = 19 := (by decide); omega) (by decide) (by decide) ?_
    intro T lc vm h k P
    refine step (fun _ => XS.aload P.1.here hx rfl (B at_550) (by rw [hls143]; rfl) rfl) ?_
    refine step (fun _ => XS.bipush P.1.here hx rfl (B at_552)) ?_
    show G T (mkF m 554 ls143 [(.int 20), (.ref b28)])
    refine ckN (20 : Int32) 554 _ (B at_554) (B at_556) (B at_558) (B at_559) (B at_561) (B at_563) (B at_565) (B at_568) _ _ _ _ _ _ _ P (by decide) (by have k_ : (20 : Int32).toInt = 20 := (by decide); omega) (by decide) (by decide) ?_
    intro T lc vm h k P
    refine step (fun _ => XS.aload P.1.here hx rfl (B at_571) (by rw [hls143]; rfl) rfl) ?_
    refine step (fun _ => XS.bipush P.1.here hx rfl (B at_573)) ?_
    show G T (mkF m 575 ls143 [(.int 21), (.ref b28)])
    refine ckN (21 : Int32) 575 _ (B at_575) (B at_577) (B at_579) (B at_580) (B at_582) (B at_584) (B at_586) (B at_589) _ _ _ _ _ _ _ P (by decide) (by have k_ : (21 : Int32).toInt = 21 := (by decide); omega) (by decide) (by decide) ?_
    intro T lc vm h k P
    refine step (fun _ => XS.aload P.1.here hx rfl (B at_592) (by rw [hls143]; rfl) rfl) ?_
    refine step (fun _ => XS.bipush P.1.here hx rfl (B at_594)) ?_
    show G T (mkF m 596 ls143 [(.int 22), (.ref b28)])
    refine ckN (22 : Int32) 596 _ (B at_596) (B at_598) (B at_600) (B at_601) (B at_603) (B at_605) (B at_607) (B at_610) _ _ _ _ _ _ _ P (by decide) (by have k_ : (22 : Int32).toInt = 22 := (by decide); omega) (by decide) (by decide) ?_
    intro T lc vm h k P
    refine step (fun _ => XS.aload P.1.here hx rfl (B at_613) (by rw [hls143]; rfl) rfl) ?_
    refine step (fun _ => XS.bipush P.1.here hx rfl (B at_615)) ?_
    show G T (mkF m 617 ls143 [(.int 23), (.ref b28)])
    refine ckN (23 : Int32) 617 _ (B at_617) (B at_619) (B at_621) (B at_622) (B at_624) (B at_626) (B at_628) (B at_631) _ _ _ _ _ _ _ P (by decide) (by have k_ : (23 : Int32).toInt = 23 := (by decide); omega) (by decide) (by decide) ?_
    intro T lc vm h k P
    refine step (fun _ => XS.aload P.1.here hx rfl (B at_634) (by rw [hls143]; rfl) rfl) ?_
    refine step (fun _ => XS.bipush P.1.here hx rfl (B at_636)) ?_
    show G T (mkF m 638 ls143 [(.int 24), (.ref b28)])
    refine ckN (24 : Int32) 638 _ (B at_638) (B at_640) (B at_642) (B at_643) (B at_645) (B at_647) (B at_649) (B at_652) _ _ _ _ _ _ _ P (by decide) (by have k_ : (24 : Int32).toInt = 24 := (by decide); omega) (by decide) (by decide) ?_
    intro T lc vm h k P
    refine step (fun _ => XS.aload P.1.here hx rfl (B at_655) (by rw [hls143]; rfl) rfl) ?_
    refine step (fun _ => XS.bipush P.1.here hx rfl (B at_657)) ?_
    show G T (mkF m 659 ls143 [(.int 25), (.ref b28)])
    refine ckN (25 : Int32) 659 _ (B at_659) (B at_661) (B at_663) (B at_664) (B at_666) (B at_668) (B at_670) (B at_673) _ _ _ _ _ _ _ P (by decide) (by have k_ : (25 : Int32).toInt = 25 := (by decide); omega) (by decide) (by decide) ?_
    intro T lc vm h k P
    refine step (fun _ => XS.aload P.1.here hx rfl (B at_676) (by rw [hls143]; rfl) rfl) ?_
    refine step (fun _ => XS.bipush P.1.here hx rfl (B at_678)) ?_
    show G T (mkF m 680 ls143 [(.int 26), (.ref b28)])
    refine ckN (26 : Int32) 680 _ (B at_680) (B at_682) (B at_684) (B at_685) (B at_687) (B at_689) (B at_691) (B at_694) _ _ _ _ _ _ _ P (by decide) (by have k_ : (26 : Int32).toInt = 26 := (by decide); omega) (by decide) (by decide) ?_
    intro T lc vm h k P
    refine step (fun _ => XS.aload P.1.here hx rfl (B at_697) (by rw [hls143]; rfl) rfl) ?_
    refine step (fun _ => XS.bipush P.1.here hx rfl (B at_699)) ?_
    show G T (mkF m 701 ls143 [(.int 27), (.ref b28)])
    refine ckN (27 : Int32) 701 _ (B at_701) (B at_703) (B at_705) (B at_706) (B at_708) (B at_710) (B at_712) (B at_715) _ _ _ _ _ _ _ P (by decide) (by have k_ : (27 : Int32).toInt = 27 := (by decide); omega) (by decide) (by decide) ?_
    intro T lc vm h k P
    refine step (fun _ => XS.aload P.1.here hx rfl (B at_718) (by rw [hls143]; rfl) rfl) ?_
    refine step (fun _ => XS.bipush P.1.here hx rfl (B at_720)) ?_
    show G T (mkF m 722 ls143 [(.int 28), (.ref b28)])
    refine ckN (28 : Int32) 722 _ (B at_722) (B at_724) (B at_726) (B at_727) (B at_729) (B at_731) (B at_733) (B at_736) _ _ _ _ _ _ _ P (by decide) (by have k_ : (28 : Int32).toInt = 28 := (by decide); omega) (by decide) (by decide) ?_
    intro T lc vm h k P
    obtain ⟨Xz, ez, Nz, Oz, hS, hkz, hZ, hown, Cz, -⟩ := P
    refine step (fun _ => XS.iconst Xz.here hx rfl (B at_739)) ?_
    refine step (fun _ => XS.goto Xz.here hx rfl (pc0 := 740) (pc' := 744) rfl (B at_740) (by decide) (by decide)) ?_
    exact ret (v := some (.int 1)) Xz hS hkz Cz hZ (fun h => by rw [Bd.returns] at h; cases h) (fun fs hr => retN Xz hx (t := .boolean) Bd.returns (by simp) (B at_744) hr) ez ⟨rfl, Nz⟩ (by decide) (by decide)
theorem comes_1 {Post : Tables → Env → Array Value → State → Outcome → State → Prop} (hpost : ∀ tb e args s v u, (limb_1_1.after args s (.returned v) u = true ∧ limb_1_2.after args s (.returned v) u = true ∧ True) → ReturnedEndW s (.returned v) u (Jvm.fieldLocs frame_1_writes args s ++ Jvm.arrayLocs frame_1_arrays args s ++ Jvm.staticLocs frame_1_statics s) 72 9728 → Post tb e args s (.returned v) u) :
    ArmFor flags0 classFile x code maxLocals ret World_1 tables_1 room_1 Calls_1 rest_1 Pre_1 Post := by
  intro l hfl _ _ p e ha hc hk s m args below hf hA hF happ hP
  obtain ⟨hcalls, hrest, hpre⟩ := hP
  obtain ⟨-, -, -, hnamed, -, -, -, hat⟩ := (Spec.applies_iff hf).mp happ
  obtain ⟨hg, hn⟩ := and_e (Cond.before_iff.mp (show (Jvm.Cond.and given_1 narrow_1).before args s = true from hpre))
  obtain ⟨g1a, g1b⟩ := and_e hg
  obtain ⟨g2a, g2b⟩ := and_e g1b
  obtain ⟨g3a, g3b⟩ := and_e g2b
  obtain ⟨g4a, g4b⟩ := and_e g3b
  obtain ⟨w0, w1, w2, w3, rfl⟩ : ∃ w0 w1 w2 w3 : Value, args = #[w0, w1, w2, w3] := by
    have hs : args.size = 4 := by simpa [Cond.value, given_1] using g1a
    obtain ⟨L⟩ := args
    match L, hs with
    | [w0, w1, w2, w3], _ => exact ⟨w0, w1, w2, w3, rfl⟩
  have hw := fun d (hd : d ∈ tables_1) => atoms_spec (ws := Jvm.Cond.code x code maxLocals ret :: tables_1) hat d (List.mem_cons_of_mem _ hd)
  have hfit : Fit s := fun {y c} hc i hi => by
    obtain ⟨ha, rfl⟩ := Array.getElem?_eq_some_iff.mp hc
    have q := List.all_eq_true.mp ((Array.all_eq_true_iff_forall_mem.mp hF) _ (Array.getElem_mem ha)) i (List.mem_range.mpr hi)
    simpa [Array.getElem?_eq_getElem hi] using q
  obtain ⟨hsets, hown0⟩ := atoms_of _ (rest_1_c_eq ▸ (show rest_1_c.before _ s = true from hrest))
  obtain ⟨i0, ei0⟩ := is_v g2a
  obtain rfl : w0 = (.int i0) := Option.some.inj ei0
  obtain ⟨i1, ei1⟩ := is_v g3a
  obtain rfl : w1 = (.int i1) := Option.some.inj ei1
  obtain ⟨i2, ei2⟩ := is_v g4a
  obtain rfl : w2 = (.int i2) := Option.some.inj ei2
  obtain ⟨i3, ei3⟩ := is_v g4b
  obtain rfl : w3 = (.int i3) := Option.some.inj ei3
  obtain ⟨w_0, ev_DigitOnes⟩ := exa_v (Cond.before_iff.mp (hsets _ (List.mem_of_getElem? (i := 12) rfl)))
  obtain ⟨w_1, ev_DigitTens⟩ := exa_v (Cond.before_iff.mp (hsets _ (List.mem_of_getElem? (i := 17) rfl)))
  obtain ⟨w_2, ev_COMPACT_STRINGS⟩ := is_v (Cond.before_iff.mp (hsets _ (List.mem_of_getElem? (i := 1) rfl)))
  obtain ⟨w_3, ev_SIOOBE_FORMATTER, rf_SIOOBE_FORMATTER⟩ := isR_v (Cond.before_iff.mp (hsets _ (List.mem_of_getElem? (i := 8) rfl)))
  have DG_DigitOnes : own_Dig s w_0 (fun j => 48 + j % 10) := own_digS (fun _ => ev_DigitOnes) (Cond.before_iff.mp (hsets _ (List.mem_of_getElem? (i := 12) rfl))) (ww14 hw) (Cond.before_iff.mp (hsets _ (List.mem_of_getElem? (i := 13) rfl))) (Cond.before_iff.mp (hsets _ (List.mem_of_getElem? (i := 14) rfl))) (fun j h0 => own_remF j h0)
  have DG_DigitTens : own_Dig s w_1 (fun j => 48 + j / 10) := own_digS (fun _ => ev_DigitTens) (Cond.before_iff.mp (hsets _ (List.mem_of_getElem? (i := 17) rfl))) (ww14 hw) (Cond.before_iff.mp (hsets _ (List.mem_of_getElem? (i := 18) rfl))) (Cond.before_iff.mp (hsets _ (List.mem_of_getElem? (i := 19) rfl))) (fun j h0 => own_divF j h0)
  have hCH : CHv s own_EL s.vm s.heap := CHv.start (own_EW hw) (fun p hp => (show Jvm.Lit.constsHeld consts_1 s from hcalls.1) p ((by decide : ∀ p ∈ own_EL, p ∈ consts_1) p hp)) (show Jvm.Lit.compactW.before _ s = true from hsets _ (List.mem_of_getElem? (i := 2) rfl)) (ww14 hw) (ww10 hw)
  obtain ⟨n, o, h1, h2, h3, _, L, rfl, ⟨rfl, N⟩, -, hq⟩ := rm_law l s _ hw tables_1 w_0 w_1 w_2 w_3 i0 i1 i2 i3 s.heap s.heap.size (Nat.le_refl _) ⟨Sta.start ev_DigitOnes (Or.inl (hsets _ (List.mem_of_getElem? (i := 11) rfl))), Exa.start ev_DigitOnes (Cond.before_iff.mp (hsets _ (List.mem_of_getElem? (i := 12) rfl))), Sta.start ev_DigitTens (Or.inl (hsets _ (List.mem_of_getElem? (i := 16) rfl))), Exa.start ev_DigitTens (Cond.before_iff.mp (hsets _ (List.mem_of_getElem? (i := 17) rfl))), Sta.start ev_COMPACT_STRINGS (Or.inl (hsets _ (List.mem_of_getElem? (i := 0) rfl))), Sta.start ev_SIOOBE_FORMATTER (Or.inl (hsets _ (List.mem_of_getElem? (i := 7) rfl))), rf_SIOOBE_FORMATTER, own_nz ev_COMPACT_STRINGS (Cond.before_iff.mp (hsets _ (List.mem_of_getElem? (i := 2) rfl))), DG_DigitOnes, DG_DigitTens⟩ (Old.start s)  p e ha hc hk s m _ below hf ((Spec.applies_iff_loose hf).mp happ).1 ⟨rfl, State.Warmed39.refl s, rfl, hCH⟩ trivial
  refine ⟨n, _, h1, h2, h3, hpost _ _ _ _ _ _ ⟨Cond.after_iff.mpr rfl, Cond.after_iff.mpr (eq_i res_at (Term.int_eval (1)) rfl), trivial⟩ ⟨hq.1, hq.2.1, hq.2.2.1, (hq.2.2.2.sift fun y hy => Or.inr (N y hy)).mono (by decide) (by decide)⟩⟩
theorem main_1_1 : Claimed_1_1 := comes_1 fun _ _ _ _ _ _ h hF => ⟨h.1, hF⟩
theorem main_1_2 : Claimed_1_2 := comes_1 fun _ _ _ _ _ _ h hF => ⟨h.2.1, hF⟩
end Jvm.Pilot.@@N@@
namespace Jvm.Pilot.@@N@@
open Jvm Jvm.ClassFile Sem Op Lib Jvm.Free Jvm.Stand Jvm.Pilot.@@N@@.Jvm.D
/-! MADE BY PROGRAM (witnessworld.py) out of the Statement's table words and the real class files: 26 classes; the members and pool entries that the words name. The judged class is class 1, her method 1. -/
namespace start1
open Jvm.ClassFile
abbrev fI (a n d : Nat) : FieldInfo := { accessFlags := a, nameIndex := n, descriptorIndex := d, attributes := #[] }
abbrev mI (a n d : Nat) : MethodInfo := { accessFlags := a, nameIndex := n, descriptorIndex := d, attributes := #[] }
def u (s : String) : CpInfo := .utf8 (stringToUtf16 s)
/-- a pool by its gaps: so many unusable entries, then the entry; so many at the end -/
def gap : Nat → List CpInfo → List CpInfo
  | 0, r => r
  | n + 1, r => .unusable :: gap n r
def poolList (es : List (Nat × CpInfo)) (last : Nat) : List CpInfo := es.foldr (fun e r => gap e.1 (e.2 :: r)) (gap last [])
def pool (es : List (Nat × CpInfo)) (last : Nat) : Array CpInfo := ⟨poolList es last⟩
def fileOf (pool : Array CpInfo) (this : Nat) (attrs : Array Attribute := #[]) (ms : Array MethodInfo := #[]) (fl : Nat := 33) (sup : Nat := 0) (ifs : Array Nat := #[]) (fds : Array FieldInfo := #[]) : ClassFile where
  minorVersion := 0
  majorVersion := 65
  constantPool := pool
  accessFlags := fl
  thisClass := this
  superClass := sup
  interfaces := ifs
  fields := fds
  methods := ms
  attributes := attrs
def plain (name : String) (sup : Option ClassId) : Class where
  name := name
  kind := .ordinary
  loader := none
  accessFlags := 33
  super := sup
  interfaces := #[]
  cf := none
  fields := #[]
  methods := #[]
  instanceTypes := #[]
  staticTypes := #[]
  resolved := #[]
  callSites := []
  init := .initialized
  statics := none
  mirror := none

def pool0 : Array CpInfo := pool [(5, u "<init>"), (0, u "()V"), (1, .class_ 10), (1, u "java/lang/Object"), (85, u "clone"), (0, u "()Ljava/lang/Object;")] 26

def k0c0 : Code := { maxStack := 0, maxLocals := 1, code := object_method_1_code, exceptionTable := #[], attributes := #[] }
def k0m0 : Method := { name := "<init>", desc := "()V", sig := { parameters := [], returnType := none }, accessFlags := 1, code := some k0c0 }
def k0m1 : Method := { name := "clone", desc := "()Ljava/lang/Object;", sig := { parameters := [], returnType := some (.object "java/lang/Object") }, accessFlags := 260, code := none }
/-- java/lang/Object -/
def k0 : Class := { plain "java/lang/Object" none with
  accessFlags := 33
  interfaces := #[]
  cf := some (fileOf pool0 8 #[] #[mI 1 5 6, mI 260 96 97] 33 0 #[] #[])
  fields := #[]
  methods := #[k0m0, k0m1]
  instanceTypes := #[]
  staticTypes := #[]
  resolved := Array.replicate 124 none
  statics := none }

def pool1 : Array CpInfo := pool [(2, .class_ 4), (1, u "java/lang/Object"), (0, u "<init>"), (0, u "()V"), (0, .methodref 8 9), (0, .class_ 10), (0, .nameAndType 11 12), (0, u "java/lang/String"), (0, u "valueOf"), (0, u "(C)Ljava/lang/String;"), (0, .methodref 14 15), (0, .class_ 16), (0, .nameAndType 17 18), (0, u "com/example/bordereau/bordereau/archive/Problem"), (0, u "atCell"), (0, u "(Ljava/lang/String;ILjava/lang/String;Ljava/lang/String;)Lcom/example/bordereau/bordereau/archive/Problem;"), (0, .methodref 14 20), (0, .nameAndType 21 22), (0, u "code"), (0, u "()Ljava/lang/String;"), (0, .methodref 8 24), (0, .nameAndType 25 26), (0, u "equals"), (0, u "(Ljava/lang/Object;)Z"), (0, .methodref 14 28), (0, .nameAndType 29 22), (0, u "message"), (0, .methodref 14 31), (0, .nameAndType 32 22), (0, u "toString"), (0, .methodref 34 35), (0, .class_ 36), (0, .nameAndType 37 38), (0, u "com/example/bordereau/bordereau/archive/ProblemAtCellPinLaw"), (0, u "digits"), (0, u "(I)I"), (0, .methodref 8 40), (0, .nameAndType 41 42), (0, u "length"), (0, u "()I"), (0, .methodref 34 44), (0, .nameAndType 45 46), (0, u "chk"), (0, u "(Ljava/lang/String;IICIICC)Z"), (0, .methodref 8 48), (0, .nameAndType 49 50), (0, u "charAt"), (0, u "(I)C"), (0, .methodref 34 52), (0, .nameAndType 53 54), (0, u "expected"), (0, u "(ICIICC)C"), (0, .string 56), (0, u " line "), (0, .methodref 34 58), (0, .nameAndType 59 60), (0, u "digit"), (0, u "(III)C"), (0, .string 62), (0, u " column "), (0, .methodref 34 64), (0, .nameAndType 65 38), (0, u "pow10"), (0, .integer 100000), (0, .integer 1000000), (0, .integer 10000000), (0, .integer 100000000), (0, .integer 1000000000), (2, u "law"), (0, u "(IIII)Z")] 3

def k1m0 : Method := { name := "<init>", desc := "()V", sig := { parameters := [], returnType := none }, accessFlags := 1, code := none }
def k1c1 : Code := { maxStack := 8, maxLocals := 14, code := code, exceptionTable := #[], attributes := #[] }
def k1m1 : Method := { name := "law", desc := "(IIII)Z", sig := { parameters := [.int, .int, .int, .int], returnType := some .boolean }, accessFlags := 9, code := some k1c1 }
def k1c2 : Code := { maxStack := 7, maxLocals := 8, code := method_3_code, exceptionTable := #[], attributes := #[] }
def k1m2 : Method := { name := "chk", desc := "(Ljava/lang/String;IICIICC)Z", sig := { parameters := [(.object "java/lang/String"), .int, .int, .char, .int, .int, .char, .char], returnType := some .boolean }, accessFlags := 10, code := some k1c2 }
def k1c3 : Code := { maxStack := 3, maxLocals := 7, code := method_4_code, exceptionTable := #[], attributes := #[] }
def k1m3 : Method := { name := "expected", desc := "(ICIICC)C", sig := { parameters := [.int, .char, .int, .int, .char, .char], returnType := some .char }, accessFlags := 10, code := some k1c3 }
def k1c4 : Code := { maxStack := 3, maxLocals := 4, code := method_5_code, exceptionTable := #[], attributes := #[] }
def k1m4 : Method := { name := "digit", desc := "(III)C", sig := { parameters := [.int, .int, .int], returnType := some .char }, accessFlags := 10, code := some k1c4 }
def k1c5 : Code := { maxStack := 2, maxLocals := 1, code := method_6_code, exceptionTable := #[], attributes := #[] }
def k1m5 : Method := { name := "pow10", desc := "(I)I", sig := { parameters := [.int], returnType := some .int }, accessFlags := 10, code := some k1c5 }
def k1c6 : Code := { maxStack := 2, maxLocals := 1, code := method_7_code, exceptionTable := #[], attributes := #[] }
def k1m6 : Method := { name := "digits", desc := "(I)I", sig := { parameters := [.int], returnType := some .int }, accessFlags := 10, code := some k1c6 }
/-- com/example/bordereau/bordereau/archive/ProblemAtCellPinLaw -/
def k1 : Class := { plain "com/example/bordereau/bordereau/archive/ProblemAtCellPinLaw" (some 0) with
  accessFlags := 49
  interfaces := #[]
  cf := some (fileOf pool1 34 #[] #[mI 1 5 6, mI 9 73 74, mI 10 45 46, mI 10 53 54, mI 10 59 60, mI 10 65 38, mI 10 37 38] 49 2 #[] #[])
  fields := #[]
  methods := #[k1m0, k1m1, k1m2, k1m3, k1m4, k1m5, k1m6]
  instanceTypes := #[]
  staticTypes := #[]
  resolved := Array.replicate 78 none
  statics := none }

def pool2 : Array CpInfo := pool [(1, .class_ 2), (0, u "java/io/Serializable"), (0, .class_ 4), (0, u "java/lang/Object")] 2

/-- java/io/Serializable -/
def k2 : Class := { plain "java/io/Serializable" (some 0) with
  accessFlags := 1537
  interfaces := #[]
  cf := some (fileOf pool2 1 #[] #[] 1537 3 #[] #[])
  fields := #[]
  methods := #[]
  instanceTypes := #[]
  staticTypes := #[]
  resolved := Array.replicate 7 none
  statics := none }

def pool3 : Array CpInfo := pool [(1, .class_ 2), (0, u "java/lang/Comparable"), (0, .class_ 4), (0, u "java/lang/Object")] 7

/-- java/lang/Comparable -/
def k3 : Class := { plain "java/lang/Comparable" (some 0) with
  accessFlags := 1537
  interfaces := #[]
  cf := some (fileOf pool3 1 #[] #[] 1537 3 #[] #[])
  fields := #[]
  methods := #[]
  instanceTypes := #[]
  staticTypes := #[]
  resolved := Array.replicate 12 none
  statics := none }

def pool4 : Array CpInfo := pool [(2, .class_ 4), (1, u "java/lang/CharSequence"), (42, .class_ 48), (0, u "java/lang/CharSequence$1CodePointIterator"), (10, .class_ 60), (0, u "java/lang/CharSequence$1CharIterator"), (5, .class_ 67), (0, u "java/lang/Object")] 63

/-- java/lang/CharSequence -/
def k4 : Class := { plain "java/lang/CharSequence" (some 0) with
  accessFlags := 1537
  interfaces := #[]
  cf := some (fileOf pool4 2 #[.nestMembers #[47, 59]] #[] 1537 66 #[] #[])
  fields := #[]
  methods := #[]
  instanceTypes := #[]
  staticTypes := #[]
  resolved := Array.replicate 131 none
  statics := none }

def pool5 : Array CpInfo := pool [(1, .class_ 2), (0, u "java/lang/constant/Constable"), (0, .class_ 4), (0, u "java/lang/Object")] 6

/-- java/lang/constant/Constable -/
def k5 : Class := { plain "java/lang/constant/Constable" (some 0) with
  accessFlags := 1537
  interfaces := #[]
  cf := some (fileOf pool5 1 #[] #[] 1537 3 #[] #[])
  fields := #[]
  methods := #[]
  instanceTypes := #[]
  staticTypes := #[]
  resolved := Array.replicate 11 none
  statics := none }

def pool6 : Array CpInfo := pool [(1, .class_ 2), (0, u "java/lang/constant/ConstantDesc"), (0, .class_ 4), (0, u "java/lang/Object")] 32

/-- java/lang/constant/ConstantDesc -/
def k6 : Class := { plain "java/lang/constant/ConstantDesc" (some 0) with
  accessFlags := 1537
  interfaces := #[]
  cf := some (fileOf pool6 1 #[] #[] 1537 3 #[] #[])
  fields := #[]
  methods := #[]
  instanceTypes := #[]
  staticTypes := #[]
  resolved := Array.replicate 37 none
  statics := none }

def pool7 : Array CpInfo := pool [(1, .methodref 2 3), (0, .class_ 4), (0, .nameAndType 5 6), (0, u "java/lang/Object"), (0, u "<init>"), (0, u "()V"), (2, .fieldref 10 11), (0, .class_ 12), (0, .nameAndType 13 14), (0, u "java/lang/String"), (0, u "value"), (0, u "[B"), (0, .fieldref 10 16), (0, .nameAndType 17 18), (0, u "coder"), (0, u "B"), (2, u "hash"), (0, u "I"), (2, u "hashIsZero"), (0, u "Z"), (11, .fieldref 10 39), (0, .nameAndType 40 26), (0, u "COMPACT_STRINGS"), (12, u "toBytes"), (0, .methodref 55 56), (0, .class_ 57), (0, .nameAndType 58 59), (0, u "java/util/Arrays"), (0, u "copyOfRange"), (0, u "([BII)[B"), (47, .class_ 109), (1, u "java/lang/StringLatin1"), (32, u "()Z"), (50, .class_ 195), (1, u "java/lang/System"), (13, .methodref 10 210), (0, .nameAndType 5 211), (0, u "([BB)V"), (0, .methodref 193 213), (0, .nameAndType 214 215), (0, u "arraycopy"), (0, u "(Ljava/lang/Object;ILjava/lang/Object;II)V"), (118, u "()I"), (0, .methodref 10 336), (0, .nameAndType 17 337), (0, u "()B"), (2, u "()[B"), (22, u "([BI)C"), (5, u "(C)Z"), (21, u "(II)V"), (35, u "(I)C"), (61, .methodref 10 490), (0, .nameAndType 5 491), (0, u "(Ljava/lang/AbstractStringBuilder;Ljava/lang/Void;)V"), (0, .methodref 10 493), (0, .nameAndType 494 142), (0, u "isLatin1"), (0, .methodref 107 496), (0, .nameAndType 497 363), (0, u "charAt"), (3, u "checkIndex"), (4, .nameAndType 507 334), (0, u "length"), (24, u "getBytes"), (10, u "equals"), (5, .methodref 550 506), (0, .class_ 551), (0, u "java/lang/AbstractStringBuilder"), (0, .methodref 550 553), (0, .nameAndType 554 340), (0, u "getValue"), (18, u "(Ljava/lang/Object;)Z"), (1, .class_ 576), (0, u "java/lang/CharSequence"), (22, u "CASE_INSENSITIVE_ORDER"), (0, u "Ljava/util/Comparator;"), (181, u "valueOf"), (0, u "(C)Ljava/lang/String;"), (37, u "([BIB)V"), (193, .methodref 107 1016), (0, .nameAndType 1017 369), (0, u "canEncode"), (0, .methodref 107 1019), (0, .nameAndType 53 1020), (0, u "(C)[B"), (26, .methodref 550 493), (5, .fieldref 1054 1055), (0, .class_ 1056), (0, .nameAndType 1057 1058), (0, u "jdk/internal/util/Preconditions"), (0, u "SIOOBE_FORMATTER"), (0, u "Ljava/util/function/BiFunction;"), (0, .methodref 1054 1060), (0, .nameAndType 501 1061), (0, u "(IILjava/util/function/BiFunction;)I"), (39, u "serialPersistentFields"), (0, u "[Ljava/io/ObjectStreamField;"), (0, .class_ 1104), (0, u "java/lang/String$CaseInsensitiveComparator"), (1, .class_ 1107), (0, u "java/io/Serializable"), (0, .class_ 1109), (0, u "java/lang/Comparable"), (0, .class_ 1111), (0, u "java/lang/constant/Constable"), (0, .class_ 1113), (0, u "java/lang/constant/ConstantDesc"), (2, u "serialVersionUID"), (0, u "J"), (3, u "REPL"), (0, u "C"), (2, u "LATIN1"), (1, u "UTF16"), (105, u "(Ljava/lang/StringBuilder;)V")] 217

def k7m0 : Method := { name := "<init>", desc := "()V", sig := { parameters := [], returnType := none }, accessFlags := 1, code := none }
def k7c1 : Code := { maxStack := 3, maxLocals := 2, code := jdk_42_method_53_code, exceptionTable := #[], attributes := #[] }
def k7m1 : Method := { name := "<init>", desc := "(Ljava/lang/StringBuilder;)V", sig := { parameters := [(.object "java/lang/StringBuilder")], returnType := none }, accessFlags := 1, code := some k7c1 }
def k7c2 : Code := { maxStack := 2, maxLocals := 1, code := jdk_42_method_54_code, exceptionTable := #[], attributes := #[] }
def k7m2 : Method := { name := "length", desc := "()I", sig := { parameters := [], returnType := some .int }, accessFlags := 1, code := some k7c2 }
def k7c3 : Code := { maxStack := 2, maxLocals := 2, code := jdk_42_method_56_code, exceptionTable := #[], attributes := #[] }
def k7m3 : Method := { name := "charAt", desc := "(I)C", sig := { parameters := [.int], returnType := some .char }, accessFlags := 1, code := some k7c3 }
def k7c4 : Code := { maxStack := 2, maxLocals := 3, code := jdk_42_method_66_code, exceptionTable := #[], attributes := #[] }
def k7m4 : Method := { name := "equals", desc := "(Ljava/lang/Object;)Z", sig := { parameters := [(.object "java/lang/Object")], returnType := some .boolean }, accessFlags := 1, code := some k7c4 }
def k7c5 : Code := { maxStack := 4, maxLocals := 1, code := jdk_42_method_139_code, exceptionTable := #[], attributes := #[] }
def k7m5 : Method := { name := "valueOf", desc := "(C)Ljava/lang/String;", sig := { parameters := [.char], returnType := some (.object "java/lang/String") }, accessFlags := 9, code := some k7c5 }
def k7c6 : Code := { maxStack := 5, maxLocals := 4, code := jdk_42_method_147_code, exceptionTable := #[], attributes := #[] }
def k7m6 : Method := { name := "getBytes", desc := "([BIB)V", sig := { parameters := [(.array .byte), .int, .byte], returnType := none }, accessFlags := 0, code := some k7c6 }
def k7c7 : Code := { maxStack := 5, maxLocals := 5, code := jdk_42_method_150_code, exceptionTable := #[], attributes := #[] }
def k7m7 : Method := { name := "<init>", desc := "(Ljava/lang/AbstractStringBuilder;Ljava/lang/Void;)V", sig := { parameters := [(.object "java/lang/AbstractStringBuilder"), (.object "java/lang/Void")], returnType := none }, accessFlags := 0, code := some k7c7 }
def k7c8 : Code := { maxStack := 2, maxLocals := 3, code := jdk_42_method_151_code, exceptionTable := #[], attributes := #[] }
def k7m8 : Method := { name := "<init>", desc := "([BB)V", sig := { parameters := [(.array .byte), .byte], returnType := none }, accessFlags := 0, code := some k7c8 }
def k7c9 : Code := { maxStack := 1, maxLocals := 1, code := jdk_42_method_152_code, exceptionTable := #[], attributes := #[] }
def k7m9 : Method := { name := "coder", desc := "()B", sig := { parameters := [], returnType := some .byte }, accessFlags := 0, code := some k7c9 }
def k7c10 : Code := { maxStack := 1, maxLocals := 1, code := jdk_42_method_154_code, exceptionTable := #[], attributes := #[] }
def k7m10 : Method := { name := "isLatin1", desc := "()Z", sig := { parameters := [], returnType := some .boolean }, accessFlags := 0, code := some k7c10 }
def k7c11 : Code := { maxStack := 3, maxLocals := 2, code := jdk_42_method_155_code, exceptionTable := #[], attributes := #[] }
def k7m11 : Method := { name := "checkIndex", desc := "(II)V", sig := { parameters := [.int, .int], returnType := none }, accessFlags := 8, code := some k7c11 }
/-- java/lang/String -/
def k7 : Class := { plain "java/lang/String" (some 0) with
  accessFlags := 49
  interfaces := #[2, 3, 4, 5, 6]
  cf := some (fileOf pool7 10 #[.nestMembers #[1103]] #[mI 1 5 6, mI 1 5 1233, mI 1 507 334, mI 1 497 427, mI 1 543 573, mI 9 782 783, mI 0 532 821, mI 0 5 491, mI 0 5 211, mI 0 17 337, mI 0 494 142, mI 8 501 391] 49 2 #[1106, 1108, 575, 1110, 1112] #[fI 18 13 14, fI 18 17 18, fI 2 21 22, fI 2 25 26, fI 26 1116 1117, fI 24 40 26, fI 26 1101 1102, fI 26 1121 1122, fI 25 599 600, fI 24 1125 18, fI 24 1127 18])
  fields := #[{ name := "value", type := (.array .byte), accessFlags := 18, slot := 0, constantValue := 0 }, { name := "coder", type := .byte, accessFlags := 18, slot := 1, constantValue := 0 }, { name := "hash", type := .int, accessFlags := 2, slot := 2, constantValue := 0 }, { name := "hashIsZero", type := .boolean, accessFlags := 2, slot := 3, constantValue := 0 }, { name := "serialVersionUID", type := .long, accessFlags := 26, slot := 0, constantValue := 0 }, { name := "COMPACT_STRINGS", type := .boolean, accessFlags := 24, slot := 1, constantValue := 0 }, { name := "serialPersistentFields", type := (.array (.object "java/io/ObjectStreamField")), accessFlags := 26, slot := 2, constantValue := 0 }, { name := "REPL", type := .char, accessFlags := 26, slot := 3, constantValue := 0 }, { name := "CASE_INSENSITIVE_ORDER", type := (.object "java/util/Comparator"), accessFlags := 25, slot := 4, constantValue := 0 }, { name := "LATIN1", type := .byte, accessFlags := 24, slot := 5, constantValue := 0 }, { name := "UTF16", type := .byte, accessFlags := 24, slot := 6, constantValue := 0 }]
  methods := #[k7m0, k7m1, k7m2, k7m3, k7m4, k7m5, k7m6, k7m7, k7m8, k7m9, k7m10, k7m11]
  instanceTypes := #[(.array .byte), .byte, .int, .boolean]
  staticTypes := #[.long, .boolean, (.array (.object "java/io/ObjectStreamField")), .char, (.object "java/util/Comparator"), .byte, .byte]
  resolved := Array.replicate 1451 none
  statics := some 0 }

def pool8 : Array CpInfo := pool [(1, .class_ 2), (0, u "java/lang/String"), (1, .class_ 6), (1, u "java/lang/Object"), (0, u "<init>"), (0, u "()V"), (0, .methodref 1 10), (0, .nameAndType 11 12), (0, u "checkIndex"), (0, u "(II)V"), (1, .class_ 16), (1, u "java/lang/StringLatin1"), (36, u "([BI)C"), (36, u "canEncode"), (14, u "(C)Z"), (15, u "$assertionsDisabled"), (0, u "Z"), (98, .class_ 223), (1, u "java/lang/StringLatin1$LinesSpliterator"), (28, u "charAt"), (127, u "toBytes"), (1, u "(C)[B"), (7, .class_ 391), (0, u "java/lang/StringLatin1$CharsSpliterator")] 3

def k8m0 : Method := { name := "<init>", desc := "()V", sig := { parameters := [], returnType := none }, accessFlags := 0, code := none }
def k8c1 : Code := { maxStack := 2, maxLocals := 2, code := jdk_43_method_2_code, exceptionTable := #[], attributes := #[] }
def k8m1 : Method := { name := "charAt", desc := "([BI)C", sig := { parameters := [(.array .byte), .int], returnType := some .char }, accessFlags := 9, code := some k8c1 }
def k8c2 : Code := { maxStack := 2, maxLocals := 1, code := jdk_43_method_3_code, exceptionTable := #[], attributes := #[] }
def k8m2 : Method := { name := "canEncode", desc := "(C)Z", sig := { parameters := [.char], returnType := some .boolean }, accessFlags := 9, code := some k8c2 }
def k8c3 : Code := { maxStack := 4, maxLocals := 1, code := jdk_43_method_46_code, exceptionTable := #[], attributes := #[] }
def k8m3 : Method := { name := "toBytes", desc := "(C)[B", sig := { parameters := [.char], returnType := some (.array .byte) }, accessFlags := 9, code := some k8c3 }
/-- java/lang/StringLatin1 -/
def k8 : Class := { plain "java/lang/StringLatin1" (some 0) with
  accessFlags := 48
  interfaces := #[]
  cf := some (fileOf pool8 14 #[.nestMembers #[390, 221]] #[mI 0 7 8, mI 9 252 53, mI 9 90 105, mI 9 380 382] 48 4 #[] #[fI 4120 121 122])
  fields := #[{ name := "$assertionsDisabled", type := .boolean, accessFlags := 4120, slot := 0, constantValue := 0 }]
  methods := #[k8m0, k8m1, k8m2, k8m3]
  instanceTypes := #[]
  staticTypes := #[.boolean]
  resolved := Array.replicate 395 none
  statics := none }

def pool9 : Array CpInfo := pool [(1, .methodref 2 3), (0, .class_ 4), (0, .nameAndType 5 6), (0, u "java/lang/Object"), (0, u "<init>"), (0, u "()V"), (0, .string 8), (0, u "code"), (0, .methodref 10 11), (0, .class_ 12), (0, .nameAndType 13 14), (0, u "java/util/Objects"), (0, u "requireNonNull"), (0, u "(Ljava/lang/Object;Ljava/lang/String;)Ljava/lang/Object;"), (0, .class_ 16), (0, u "java/lang/String"), (0, .fieldref 18 19), (0, .class_ 20), (0, .nameAndType 8 21), (0, u "com/example/bordereau/bordereau/archive/Problem"), (0, u "Ljava/lang/String;"), (0, .string 23), (0, u "message"), (0, .fieldref 18 25), (0, .nameAndType 23 21), (0, .fieldref 18 27), (0, .nameAndType 28 29), (0, u "line"), (0, u "I"), (0, .fieldref 18 31), (0, .nameAndType 32 21), (0, u "column"), (0, .fieldref 18 34), (0, .nameAndType 35 21), (0, u "detail"), (0, .methodref 18 37), (0, .nameAndType 5 38), (0, u "(Ljava/lang/String;Ljava/lang/String;ILjava/lang/String;Ljava/lang/String;)V"), (0, .string 32), (16, .class_ 57), (0, u "java/lang/StringBuilder"), (0, .methodref 56 3), (0, .methodref 56 60), (0, .nameAndType 61 62), (0, u "append"), (0, u "(Ljava/lang/String;)Ljava/lang/StringBuilder;"), (0, .string 64), (0, u " line "), (0, .methodref 56 66), (0, .nameAndType 61 67), (0, u "(I)Ljava/lang/StringBuilder;"), (0, .methodref 56 69), (0, .nameAndType 70 71), (0, u "toString"), (0, u "()Ljava/lang/String;"), (0, .string 73), (0, u ""), (0, .string 75), (0, u " column "), (0, .string 77), (0, u ": "), (9, u "atCell"), (0, u "(Ljava/lang/String;ILjava/lang/String;Ljava/lang/String;)Lcom/example/bordereau/bordereau/archive/Problem;")] 7

def k9c0 : Code := { maxStack := 3, maxLocals := 6, code := prog_12_method_1_code, exceptionTable := #[], attributes := #[] }
def k9m0 : Method := { name := "<init>", desc := "(Ljava/lang/String;Ljava/lang/String;ILjava/lang/String;Ljava/lang/String;)V", sig := { parameters := [(.object "java/lang/String"), (.object "java/lang/String"), .int, (.object "java/lang/String"), (.object "java/lang/String")], returnType := none }, accessFlags := 2, code := some k9c0 }
def k9c1 : Code := { maxStack := 7, maxLocals := 4, code := prog_12_method_4_code, exceptionTable := #[], attributes := #[] }
def k9m1 : Method := { name := "atCell", desc := "(Ljava/lang/String;ILjava/lang/String;Ljava/lang/String;)Lcom/example/bordereau/bordereau/archive/Problem;", sig := { parameters := [(.object "java/lang/String"), .int, (.object "java/lang/String"), (.object "java/lang/String")], returnType := some (.object "com/example/bordereau/bordereau/archive/Problem") }, accessFlags := 9, code := some k9c1 }
def k9c2 : Code := { maxStack := 1, maxLocals := 1, code := prog_12_method_6_code, exceptionTable := #[], attributes := #[] }
def k9m2 : Method := { name := "code", desc := "()Ljava/lang/String;", sig := { parameters := [], returnType := some (.object "java/lang/String") }, accessFlags := 1, code := some k9c2 }
def k9c3 : Code := { maxStack := 1, maxLocals := 1, code := prog_12_method_7_code, exceptionTable := #[], attributes := #[] }
def k9m3 : Method := { name := "message", desc := "()Ljava/lang/String;", sig := { parameters := [], returnType := some (.object "java/lang/String") }, accessFlags := 1, code := some k9c3 }
def k9c4 : Code := { maxStack := 3, maxLocals := 1, code := prog_12_method_11_code, exceptionTable := #[], attributes := #[] }
def k9m4 : Method := { name := "toString", desc := "()Ljava/lang/String;", sig := { parameters := [], returnType := some (.object "java/lang/String") }, accessFlags := 1, code := some k9c4 }
/-- com/example/bordereau/bordereau/archive/Problem -/
def k9 : Class := { plain "com/example/bordereau/bordereau/archive/Problem" (some 0) with
  accessFlags := 49
  interfaces := #[]
  cf := some (fileOf pool9 18 #[] #[mI 2 5 38, mI 9 87 88, mI 1 8 71, mI 1 23 71, mI 1 70 71] 49 2 #[] #[fI 18 8 21, fI 18 23 21, fI 18 28 29, fI 18 32 21, fI 18 35 21])
  fields := #[{ name := "code", type := (.object "java/lang/String"), accessFlags := 18, slot := 0, constantValue := 0 }, { name := "message", type := (.object "java/lang/String"), accessFlags := 18, slot := 1, constantValue := 0 }, { name := "line", type := .int, accessFlags := 18, slot := 2, constantValue := 0 }, { name := "column", type := (.object "java/lang/String"), accessFlags := 18, slot := 3, constantValue := 0 }, { name := "detail", type := (.object "java/lang/String"), accessFlags := 18, slot := 4, constantValue := 0 }]
  methods := #[k9m0, k9m1, k9m2, k9m3, k9m4]
  instanceTypes := #[(.object "java/lang/String"), (.object "java/lang/String"), .int, (.object "java/lang/String"), (.object "java/lang/String")]
  staticTypes := #[]
  resolved := Array.replicate 96 none
  statics := none }

def pool10 : Array CpInfo := pool [(2, .class_ 4), (1, u "java/lang/Object"), (0, u "<init>"), (0, u "()V"), (35, .class_ 44), (1, u "java/util/Objects"), (0, u "requireNonNull"), (48, u "(Ljava/lang/Object;Ljava/lang/String;)Ljava/lang/Object;")] 89

def k10m0 : Method := { name := "<init>", desc := "()V", sig := { parameters := [], returnType := none }, accessFlags := 2, code := none }
def k10c1 : Code := { maxStack := 3, maxLocals := 2, code := jdk_31_method_11_code, exceptionTable := #[], attributes := #[] }
def k10m1 : Method := { name := "requireNonNull", desc := "(Ljava/lang/Object;Ljava/lang/String;)Ljava/lang/Object;", sig := { parameters := [(.object "java/lang/Object"), (.object "java/lang/String")], returnType := some (.object "java/lang/Object") }, accessFlags := 9, code := some k10c1 }
/-- java/util/Objects -/
def k10 : Class := { plain "java/util/Objects" (some 0) with
  accessFlags := 49
  interfaces := #[]
  cf := some (fileOf pool10 42 #[] #[mI 2 5 6, mI 9 45 94] 49 2 #[] #[])
  fields := #[]
  methods := #[k10m0, k10m1]
  instanceTypes := #[]
  staticTypes := #[]
  resolved := Array.replicate 184 none
  statics := none }

def pool11 : Array CpInfo := pool [(1, .class_ 2), (0, u "java/lang/Appendable"), (0, .class_ 4), (0, u "java/lang/Object")] 9

/-- java/lang/Appendable -/
def k11 : Class := { plain "java/lang/Appendable" (some 0) with
  accessFlags := 1537
  interfaces := #[]
  cf := some (fileOf pool11 1 #[] #[] 1537 3 #[] #[])
  fields := #[]
  methods := #[]
  instanceTypes := #[]
  staticTypes := #[]
  resolved := Array.replicate 14 none
  statics := none }

def pool12 : Array CpInfo := pool [(1, .class_ 2), (0, u "java/lang/String"), (0, .methodref 4 5), (0, .class_ 6), (0, .nameAndType 7 8), (0, u "java/lang/Object"), (0, u "<init>"), (0, u "()V"), (1, .class_ 12), (1, u "java/lang/AbstractStringBuilder"), (0, u "EMPTYVALUE"), (0, u "[B"), (0, .fieldref 10 16), (0, .nameAndType 17 14), (0, u "value"), (0, .fieldref 1 19), (0, .nameAndType 20 21), (0, u "COMPACT_STRINGS"), (0, u "Z"), (0, .fieldref 10 23), (0, .nameAndType 24 25), (0, u "coder"), (0, u "B"), (6, .methodref 1 33), (0, .nameAndType 34 35), (0, u "length"), (0, u "()I"), (0, .class_ 37), (0, u "java/lang/Integer"), (1, .integer 2147483647), (0, .methodref 1 41), (0, .nameAndType 24 42), (0, u "()B"), (2, u "append"), (0, u "(Ljava/lang/String;)Ljava/lang/AbstractStringBuilder;"), (1, .class_ 49), (0, u "java/lang/CharSequence"), (19, u "(Ljava/lang/String;)V"), (5, u "maybeLatin1"), (3, .fieldref 10 80), (0, .nameAndType 81 82), (0, u "count"), (0, u "I"), (0, .methodref 10 84), (0, .nameAndType 85 86), (0, u "isLatin1"), (0, u "()Z"), (13, .methodref 10 101), (0, .nameAndType 102 103), (0, u "ensureCapacityInternal"), (0, u "(I)V"), (0, .methodref 10 105), (0, .nameAndType 106 107), (0, u "newCapacity"), (0, u "(I)I"), (0, .methodref 109 110), (0, .class_ 111), (0, .nameAndType 112 113), (0, u "java/util/Arrays"), (0, u "copyOf"), (0, u "([BI)[B"), (0, .methodref 115 116), (0, .class_ 117), (0, .nameAndType 118 119), (0, u "jdk/internal/util/ArraysSupport"), (0, u "newLength"), (0, u "(III)I"), (68, u "getChars"), (19, .methodref 10 209), (0, .nameAndType 210 211), (0, u "putStringAt"), (0, u "(ILjava/lang/String;)V"), (5, u "inflateIfNeededFor"), (2, .nameAndType 221 222), (0, u "getBytes"), (0, u "([BIB)V"), (22, .methodref 36 246), (0, .nameAndType 247 107), (0, u "stringSize"), (0, .methodref 36 249), (0, .nameAndType 188 250), (0, u "(II[B)I"), (146, .methodref 10 398), (0, .nameAndType 217 69), (0, .methodref 1 220), (3, u "()[B"), (40, .class_ 445), (0, u "java/lang/Appendable"), (65, u "(I)Ljava/lang/AbstractStringBuilder;"), (40, u "getValue")] 56

def k12m0 : Method := { name := "<init>", desc := "()V", sig := { parameters := [], returnType := none }, accessFlags := 0, code := none }
def k12c1 : Code := { maxStack := 2, maxLocals := 2, code := jdk_68_method_2_code, exceptionTable := #[], attributes := #[] }
def k12m1 : Method := { name := "<init>", desc := "(I)V", sig := { parameters := [.int], returnType := none }, accessFlags := 0, code := some k12c1 }
def k12c2 : Code := { maxStack := 1, maxLocals := 1, code := jdk_68_method_6_code, exceptionTable := #[], attributes := #[] }
def k12m2 : Method := { name := "length", desc := "()I", sig := { parameters := [], returnType := some .int }, accessFlags := 1, code := some k12c2 }
def k12c3 : Code := { maxStack := 4, maxLocals := 3, code := jdk_68_method_9_code, exceptionTable := #[], attributes := #[] }
def k12m3 : Method := { name := "ensureCapacityInternal", desc := "(I)V", sig := { parameters := [.int], returnType := none }, accessFlags := 2, code := some k12c3 }
def k12c4 : Code := { maxStack := 5, maxLocals := 6, code := jdk_68_method_10_code, exceptionTable := #[], attributes := #[] }
def k12m4 : Method := { name := "newCapacity", desc := "(I)I", sig := { parameters := [.int], returnType := some .int }, accessFlags := 2, code := some k12c4 }
def k12c5 : Code := { maxStack := 3, maxLocals := 3, code := jdk_68_method_22_code, exceptionTable := #[], attributes := #[] }
def k12m5 : Method := { name := "append", desc := "(Ljava/lang/String;)Ljava/lang/AbstractStringBuilder;", sig := { parameters := [(.object "java/lang/String")], returnType := some (.object "java/lang/AbstractStringBuilder") }, accessFlags := 1, code := some k12c5 }
def k12c6 : Code := { maxStack := 4, maxLocals := 4, code := jdk_68_method_32_code, exceptionTable := #[], attributes := #[] }
def k12m6 : Method := { name := "append", desc := "(I)Ljava/lang/AbstractStringBuilder;", sig := { parameters := [.int], returnType := some (.object "java/lang/AbstractStringBuilder") }, accessFlags := 1, code := some k12c6 }
def k12c7 : Code := { maxStack := 1, maxLocals := 1, code := jdk_68_method_64_code, exceptionTable := #[], attributes := #[] }
def k12m7 : Method := { name := "getValue", desc := "()[B", sig := { parameters := [], returnType := some (.array .byte) }, accessFlags := 16, code := some k12c7 }
def k12c8 : Code := { maxStack := 1, maxLocals := 1, code := jdk_68_method_68_code, exceptionTable := #[], attributes := #[] }
def k12m8 : Method := { name := "isLatin1", desc := "()Z", sig := { parameters := [], returnType := some .boolean }, accessFlags := 16, code := some k12c8 }
def k12c9 : Code := { maxStack := 2, maxLocals := 2, code := jdk_68_method_71_code, exceptionTable := #[], attributes := #[] }
def k12m9 : Method := { name := "inflateIfNeededFor", desc := "(Ljava/lang/String;)V", sig := { parameters := [(.object "java/lang/String")], returnType := none }, accessFlags := 2, code := some k12c9 }
def k12c10 : Code := { maxStack := 4, maxLocals := 3, code := jdk_68_method_73_code, exceptionTable := #[], attributes := #[] }
def k12m10 : Method := { name := "putStringAt", desc := "(ILjava/lang/String;)V", sig := { parameters := [.int, (.object "java/lang/String")], returnType := none }, accessFlags := 2, code := some k12c10 }
/-- java/lang/AbstractStringBuilder -/
def k12 : Class := { plain "java/lang/AbstractStringBuilder" (some 0) with
  accessFlags := 1056
  interfaces := #[11, 4]
  cf := some (fileOf pool12 10 #[] #[mI 0 7 8, mI 0 7 103, mI 1 34 35, mI 2 102 103, mI 2 106 107, mI 1 45 46, mI 1 45 511, mI 16 552 403, mI 16 85 86, mI 2 217 69, mI 2 210 211] 1056 4 #[444, 48] #[fI 0 17 14, fI 0 24 25, fI 0 75 21, fI 0 81 82, fI 26 13 14])
  fields := #[{ name := "value", type := (.array .byte), accessFlags := 0, slot := 0, constantValue := 0 }, { name := "coder", type := .byte, accessFlags := 0, slot := 1, constantValue := 0 }, { name := "maybeLatin1", type := .boolean, accessFlags := 0, slot := 2, constantValue := 0 }, { name := "count", type := .int, accessFlags := 0, slot := 3, constantValue := 0 }, { name := "EMPTYVALUE", type := (.array .byte), accessFlags := 26, slot := 0, constantValue := 0 }]
  methods := #[k12m0, k12m1, k12m2, k12m3, k12m4, k12m5, k12m6, k12m7, k12m8, k12m9, k12m10]
  instanceTypes := #[(.array .byte), .byte, .boolean, .int]
  staticTypes := #[(.array .byte)]
  resolved := Array.replicate 609 none
  statics := none }

def pool13 : Array CpInfo := pool [(1, .methodref 2 3), (0, .class_ 4), (0, .nameAndType 5 6), (0, u "java/lang/AbstractStringBuilder"), (0, u "<init>"), (0, u "(I)V"), (11, .class_ 20), (1, u "java/lang/String"), (3, .class_ 26), (1, u "java/lang/StringBuilder"), (0, u "append"), (0, u "(Ljava/lang/String;)Ljava/lang/StringBuilder;"), (0, .methodref 2 30), (0, .nameAndType 27 31), (0, u "(Ljava/lang/String;)Ljava/lang/AbstractStringBuilder;"), (21, .methodref 2 54), (0, .nameAndType 27 55), (0, u "(I)Ljava/lang/AbstractStringBuilder;"), (81, .methodref 18 138), (0, .nameAndType 5 139), (0, u "(Ljava/lang/StringBuilder;)V"), (5, u "()V"), (10, u "()I"), (111, u "(I)Ljava/lang/StringBuilder;"), (74, .methodref 2 344), (0, .nameAndType 345 156), (0, u "length"), (3, .class_ 350), (0, u "java/lang/Appendable"), (0, .class_ 352), (0, u "java/io/Serializable"), (0, .class_ 354), (0, u "java/lang/Comparable"), (0, .class_ 356), (0, u "java/lang/CharSequence"), (0, u "serialVersionUID"), (0, u "J"), (40, u "toString"), (0, u "()Ljava/lang/String;")] 21

def k13c0 : Code := { maxStack := 2, maxLocals := 1, code := jdk_67_method_1_code, exceptionTable := #[], attributes := #[] }
def k13m0 : Method := { name := "<init>", desc := "()V", sig := { parameters := [], returnType := none }, accessFlags := 1, code := some k13c0 }
def k13c1 : Code := { maxStack := 2, maxLocals := 2, code := jdk_67_method_7_code, exceptionTable := #[], attributes := #[] }
def k13m1 : Method := { name := "append", desc := "(Ljava/lang/String;)Ljava/lang/StringBuilder;", sig := { parameters := [(.object "java/lang/String")], returnType := some (.object "java/lang/StringBuilder") }, accessFlags := 1, code := some k13c1 }
def k13c2 : Code := { maxStack := 2, maxLocals := 2, code := jdk_67_method_15_code, exceptionTable := #[], attributes := #[] }
def k13m2 : Method := { name := "append", desc := "(I)Ljava/lang/StringBuilder;", sig := { parameters := [.int], returnType := some (.object "java/lang/StringBuilder") }, accessFlags := 1, code := some k13c2 }
def k13c3 : Code := { maxStack := 3, maxLocals := 1, code := jdk_67_method_42_code, exceptionTable := #[], attributes := #[] }
def k13m3 : Method := { name := "toString", desc := "()Ljava/lang/String;", sig := { parameters := [], returnType := some (.object "java/lang/String") }, accessFlags := 1, code := some k13c3 }
def k13c4 : Code := { maxStack := 1, maxLocals := 1, code := jdk_67_method_93_code, exceptionTable := #[], attributes := #[] }
def k13m4 : Method := { name := "length", desc := "()I", sig := { parameters := [], returnType := some .int }, accessFlags := 4161, code := some k13c4 }
/-- java/lang/StringBuilder -/
def k13 : Class := { plain "java/lang/StringBuilder" (some 12) with
  accessFlags := 49
  interfaces := #[11, 2, 3, 4]
  cf := some (fileOf pool13 24 #[] #[mI 1 5 145, mI 1 27 28, mI 1 27 268, mI 1 399 400, mI 4161 345 156] 49 2 #[349, 351, 353, 355] #[fI 24 357 358])
  fields := #[{ name := "serialVersionUID", type := .long, accessFlags := 24, slot := 0, constantValue := 0 }]
  methods := #[k13m0, k13m1, k13m2, k13m3, k13m4]
  instanceTypes := #[(.array .byte), .byte, .boolean, .int]
  staticTypes := #[.long]
  resolved := Array.replicate 422 none
  statics := none }

def pool14 : Array CpInfo := pool [(2, .class_ 4), (1, u "java/lang/Object"), (0, u "<init>"), (0, u "()V"), (1, .class_ 10), (1, u "java/lang/System"), (0, u "allowSecurityManager"), (0, u "I"), (16, u "cons"), (0, u "Ljava/io/Console;"), (77, .class_ 110), (1, u "java/lang/System$CallersHolder"), (43, u "initialErrStream"), (0, u "Ljava/io/PrintStream;"), (19, u "security"), (0, u "Ljava/lang/SecurityManager;"), (31, .class_ 209), (0, u "java/lang/System$1"), (7, u "props"), (0, u "Ljava/util/Properties;"), (2, u "lineSeparator"), (0, u "Ljava/lang/String;"), (96, .class_ 321), (1, u "java/lang/System$LoggerFinder"), (5, .class_ 328), (0, u "java/lang/System$Logger"), (67, u "err"), (2, u "out"), (91, u "notSupportedJnuEncoding"), (15, u "in"), (17, u "initialIn"), (0, u "Ljava/io/InputStream;"), (35, u "bootLayer"), (0, u "Ljava/lang/ModuleLayer;"), (99, .class_ 664), (0, u "java/lang/System$2"), (9, u "NEVER"), (2, u "MAYBE"), (49, u "arraycopy"), (0, u "(Ljava/lang/Object;ILjava/lang/Object;II)V"), (72, .class_ 802), (0, u "java/lang/System$Logger$Level")] 31

def k14m0 : Method := { name := "<init>", desc := "()V", sig := { parameters := [], returnType := none }, accessFlags := 2, code := none }
def k14m1 : Method := { name := "arraycopy", desc := "(Ljava/lang/Object;ILjava/lang/Object;II)V", sig := { parameters := [(.object "java/lang/Object"), .int, (.object "java/lang/Object"), .int, .int], returnType := none }, accessFlags := 265, code := none }
/-- java/lang/System -/
def k14 : Class := { plain "java/lang/System" (some 0) with
  accessFlags := 49
  interfaces := #[]
  cf := some (fileOf pool14 8 #[.nestMembers #[319, 327, 801, 108, 663, 208]] #[mI 2 5 6, mI 265 727 728] 49 2 #[] #[fI 25 507 526, fI 25 399 155, fI 25 396 155, fI 10 525 526, fI 26 674 12, fI 26 677 12, fI 10 11 12, fI 74 175 176, fI 10 491 222, fI 74 29 30, fI 74 154 155, fI 10 217 218, fI 10 221 222, fI 8 562 563])
  fields := #[{ name := "in", type := (.object "java/io/InputStream"), accessFlags := 25, slot := 0, constantValue := 0 }, { name := "out", type := (.object "java/io/PrintStream"), accessFlags := 25, slot := 1, constantValue := 0 }, { name := "err", type := (.object "java/io/PrintStream"), accessFlags := 25, slot := 2, constantValue := 0 }, { name := "initialIn", type := (.object "java/io/InputStream"), accessFlags := 10, slot := 3, constantValue := 0 }, { name := "NEVER", type := .int, accessFlags := 26, slot := 4, constantValue := 0 }, { name := "MAYBE", type := .int, accessFlags := 26, slot := 5, constantValue := 0 }, { name := "allowSecurityManager", type := .int, accessFlags := 10, slot := 6, constantValue := 0 }, { name := "security", type := (.object "java/lang/SecurityManager"), accessFlags := 74, slot := 7, constantValue := 0 }, { name := "notSupportedJnuEncoding", type := (.object "java/lang/String"), accessFlags := 10, slot := 8, constantValue := 0 }, { name := "cons", type := (.object "java/io/Console"), accessFlags := 74, slot := 9, constantValue := 0 }, { name := "initialErrStream", type := (.object "java/io/PrintStream"), accessFlags := 74, slot := 10, constantValue := 0 }, { name := "props", type := (.object "java/util/Properties"), accessFlags := 10, slot := 11, constantValue := 0 }, { name := "lineSeparator", type := (.object "java/lang/String"), accessFlags := 10, slot := 12, constantValue := 0 }, { name := "bootLayer", type := (.object "java/lang/ModuleLayer"), accessFlags := 8, slot := 13, constantValue := 0 }]
  methods := #[k14m0, k14m1]
  instanceTypes := #[]
  staticTypes := #[(.object "java/io/InputStream"), (.object "java/io/PrintStream"), (.object "java/io/PrintStream"), (.object "java/io/InputStream"), .int, .int, .int, (.object "java/lang/SecurityManager"), (.object "java/lang/String"), (.object "java/io/Console"), (.object "java/io/PrintStream"), (.object "java/util/Properties"), (.object "java/lang/String"), (.object "java/lang/ModuleLayer")]
  resolved := Array.replicate 834 none
  statics := none }

def pool15 : Array CpInfo := pool [(2, .class_ 4), (1, u "java/lang/Object"), (0, u "<init>"), (0, u "()V"), (7, .class_ 16), (1, u "java/util/Arrays"), (57, .class_ 76), (1, u "java/util/Arrays$NaturalOrder"), (32, u "()Ljava/lang/Object;"), (3, .class_ 115), (1, u "java/util/Arrays$LegacyMergeSort"), (1, u "Z"), (10, .nameAndType 129 109), (0, u "clone"), (9, u "copyOfRange"), (10, .methodref 151 152), (0, .class_ 153), (0, .nameAndType 154 155), (0, u "java/lang/System"), (0, u "arraycopy"), (0, u "(Ljava/lang/Object;ILjava/lang/Object;II)V"), (146, u "copyOf"), (1, .methodref 305 306), (0, .class_ 307), (0, .nameAndType 308 309), (0, u "java/lang/Math"), (0, u "min"), (0, u "(II)I"), (0, .methodref 311 128), (0, .class_ 312), (0, u "[B"), (26, .methodref 14 340), (0, .nameAndType 341 342), (0, u "copyOfRangeByte"), (0, u "([BII)[B"), (0, .methodref 14 344), (0, .nameAndType 345 346), (0, u "checkLength"), (0, u "(II)V"), (28, .class_ 376), (0, u "java/util/Arrays$ArrayList"), (68, u "$assertionsDisabled"), (269, u "MIN_ARRAY_SORT_GRAN"), (0, u "I"), (2, u "INSERTIONSORT_THRESHOLD"), (149, u "([BI)[B"), (105, .class_ 976), (0, u "java/util/Arrays$ArrayItr")] 52

def k15m0 : Method := { name := "<init>", desc := "()V", sig := { parameters := [], returnType := none }, accessFlags := 2, code := none }
def k15c1 : Code := { maxStack := 6, maxLocals := 3, code := jdk_65_method_121_code, exceptionTable := #[], attributes := #[] }
def k15m1 : Method := { name := "copyOf", desc := "([BI)[B", sig := { parameters := [(.array .byte), .int], returnType := some (.array .byte) }, accessFlags := 9, code := some k15c1 }
def k15c2 : Code := { maxStack := 4, maxLocals := 2, code := jdk_65_method_131_code, exceptionTable := #[], attributes := #[] }
def k15m2 : Method := { name := "checkLength", desc := "(II)V", sig := { parameters := [.int, .int], returnType := none }, accessFlags := 10, code := some k15c2 }
def k15c3 : Code := { maxStack := 3, maxLocals := 3, code := jdk_65_method_132_code, exceptionTable := #[], attributes := #[] }
def k15m3 : Method := { name := "copyOfRange", desc := "([BII)[B", sig := { parameters := [(.array .byte), .int, .int], returnType := some (.array .byte) }, accessFlags := 9, code := some k15c3 }
def k15c4 : Code := { maxStack := 6, maxLocals := 5, code := jdk_65_method_133_code, exceptionTable := #[], attributes := #[] }
def k15m4 : Method := { name := "copyOfRangeByte", desc := "([BII)[B", sig := { parameters := [(.array .byte), .int, .int], returnType := some (.array .byte) }, accessFlags := 10, code := some k15c4 }
/-- java/util/Arrays -/
def k15 : Class := { plain "java/util/Arrays" (some 0) with
  accessFlags := 49
  interfaces := #[]
  cf := some (fileOf pool15 14 #[.nestMembers #[975, 375, 113, 74]] #[mI 2 5 6, mI 9 302 869, mI 10 345 346, mI 9 139 342, mI 10 341 342] 49 2 #[] #[fI 26 715 716, fI 26 719 716, fI 4120 445 117])
  fields := #[{ name := "MIN_ARRAY_SORT_GRAN", type := .int, accessFlags := 26, slot := 0, constantValue := 0 }, { name := "INSERTIONSORT_THRESHOLD", type := .int, accessFlags := 26, slot := 1, constantValue := 0 }, { name := "$assertionsDisabled", type := .boolean, accessFlags := 4120, slot := 2, constantValue := 0 }]
  methods := #[k15m0, k15m1, k15m2, k15m3, k15m4]
  instanceTypes := #[]
  staticTypes := #[.int, .int, .boolean]
  resolved := Array.replicate 1029 none
  statics := none }

def pool16 : Array CpInfo := pool [(1, .class_ 2), (0, u "java/lang/Math"), (1, .class_ 6), (1, u "java/lang/Object"), (0, u "<init>"), (0, u "()V"), (89, .class_ 100), (1, u "java/lang/Math$RandomNumberGeneratorHolder"), (71, u "negativeZeroFloatBits"), (0, u "J"), (2, u "negativeZeroDoubleBits"), (21, u "max"), (2, u "min"), (43, u "$assertionsDisabled"), (0, u "Z"), (88, u "(II)I"), (2, u "twoToTheDoubleScaleDown"), (0, u "D"), (4, u "twoToTheDoubleScaleUp"), (9, u "E"), (3, u "PI"), (2, u "TAU"), (2, u "DEGREES_TO_RADIANS"), (0, u "RADIANS_TO_DEGREES")] 94

def k16m0 : Method := { name := "<init>", desc := "()V", sig := { parameters := [], returnType := none }, accessFlags := 2, code := none }
def k16c1 : Code := { maxStack := 2, maxLocals := 2, code := jdk_29_method_65_code, exceptionTable := #[], attributes := #[] }
def k16m1 : Method := { name := "max", desc := "(II)I", sig := { parameters := [.int, .int], returnType := some .int }, accessFlags := 9, code := some k16c1 }
def k16c2 : Code := { maxStack := 2, maxLocals := 2, code := jdk_29_method_69_code, exceptionTable := #[], attributes := #[] }
def k16m2 : Method := { name := "min", desc := "(II)I", sig := { parameters := [.int, .int], returnType := some .int }, accessFlags := 9, code := some k16c2 }
/-- java/lang/Math -/
def k16 : Class := { plain "java/lang/Math" (some 0) with
  accessFlags := 49
  interfaces := #[]
  cf := some (fileOf pool16 1 #[.nestMembers #[98]] #[mI 2 7 8, mI 9 198 335, mI 9 201 335] 49 4 #[] #[fI 25 354 339, fI 25 358 339, fI 25 361 339, fI 26 364 339, fI 26 365 339, fI 26 172 173, fI 26 176 173, fI 8 344 339, fI 8 338 339, fI 4120 245 246])
  fields := #[{ name := "E", type := .double, accessFlags := 25, slot := 0, constantValue := 0 }, { name := "PI", type := .double, accessFlags := 25, slot := 1, constantValue := 0 }, { name := "TAU", type := .double, accessFlags := 25, slot := 2, constantValue := 0 }, { name := "DEGREES_TO_RADIANS", type := .double, accessFlags := 26, slot := 3, constantValue := 0 }, { name := "RADIANS_TO_DEGREES", type := .double, accessFlags := 26, slot := 4, constantValue := 0 }, { name := "negativeZeroFloatBits", type := .long, accessFlags := 26, slot := 5, constantValue := 0 }, { name := "negativeZeroDoubleBits", type := .long, accessFlags := 26, slot := 6, constantValue := 0 }, { name := "twoToTheDoubleScaleUp", type := .double, accessFlags := 8, slot := 7, constantValue := 0 }, { name := "twoToTheDoubleScaleDown", type := .double, accessFlags := 8, slot := 8, constantValue := 0 }, { name := "$assertionsDisabled", type := .boolean, accessFlags := 4120, slot := 9, constantValue := 0 }]
  methods := #[k16m0, k16m1, k16m2]
  instanceTypes := #[]
  staticTypes := #[.double, .double, .double, .double, .double, .long, .long, .double, .double, .boolean]
  resolved := Array.replicate 460 none
  statics := none }

def pool17 : Array CpInfo := pool [(2, .class_ 4), (1, u "java/lang/Object"), (0, u "<init>"), (0, u "()V"), (17, .class_ 26), (1, u "jdk/internal/util/Preconditions"), (6, u "checkIndex"), (21, .class_ 56), (0, u "jdk/internal/util/Preconditions$4"), (57, .class_ 115), (0, u "jdk/internal/util/Preconditions$1"), (7, u "SIOOBE_FORMATTER"), (0, u "Ljava/util/function/BiFunction;"), (0, .class_ 126), (0, u "jdk/internal/util/Preconditions$2"), (3, u "AIOOBE_FORMATTER"), (0, .class_ 132), (0, u "jdk/internal/util/Preconditions$3"), (3, u "IOOBE_FORMATTER"), (41, u "(IILjava/util/function/BiFunction;)I")] 15

def k17m0 : Method := { name := "<init>", desc := "()V", sig := { parameters := [], returnType := none }, accessFlags := 1, code := none }
def k17c1 : Code := { maxStack := 3, maxLocals := 3, code := jdk_41_method_11_code, exceptionTable := #[], attributes := #[] }
def k17m1 : Method := { name := "checkIndex", desc := "(IILjava/util/function/BiFunction;)I", sig := { parameters := [.int, .int, (.object "java/util/function/BiFunction")], returnType := some .int }, accessFlags := 9, code := some k17c1 }
/-- jdk/internal/util/Preconditions -/
def k17 : Class := { plain "jdk/internal/util/Preconditions" (some 0) with
  accessFlags := 33
  interfaces := #[]
  cf := some (fileOf pool17 24 #[.nestMembers #[55, 131, 125, 114]] #[mI 1 5 6, mI 9 33 178] 33 2 #[] #[fI 25 123 124, fI 25 130 124, fI 25 136 124])
  fields := #[{ name := "SIOOBE_FORMATTER", type := (.object "java/util/function/BiFunction"), accessFlags := 25, slot := 0, constantValue := 0 }, { name := "AIOOBE_FORMATTER", type := (.object "java/util/function/BiFunction"), accessFlags := 25, slot := 1, constantValue := 0 }, { name := "IOOBE_FORMATTER", type := (.object "java/util/function/BiFunction"), accessFlags := 25, slot := 2, constantValue := 0 }]
  methods := #[k17m0, k17m1]
  instanceTypes := #[]
  staticTypes := #[(.object "java/util/function/BiFunction"), (.object "java/util/function/BiFunction"), (.object "java/util/function/BiFunction")]
  resolved := Array.replicate 194 none
  statics := some 1 }

def pool18 : Array CpInfo := pool [(2, .class_ 4), (1, u "java/lang/Object"), (0, u "<init>"), (0, u "()V"), (1, .class_ 10), (1, u "java/lang/Number"), (2, .class_ 14), (0, u "java/io/Serializable"), (0, u "serialVersionUID"), (0, u "J")] 20

def k18m0 : Method := { name := "<init>", desc := "()V", sig := { parameters := [], returnType := none }, accessFlags := 1, code := none }
/-- java/lang/Number -/
def k18 : Class := { plain "java/lang/Number" (some 0) with
  accessFlags := 1057
  interfaces := #[2]
  cf := some (fileOf pool18 8 #[] #[mI 1 5 6] 1057 2 #[13] #[fI 26 15 16])
  fields := #[{ name := "serialVersionUID", type := .long, accessFlags := 26, slot := 0, constantValue := 0 }]
  methods := #[k18m0]
  instanceTypes := #[]
  staticTypes := #[.long]
  resolved := Array.replicate 37 none
  statics := none }

def pool19 : Array CpInfo := pool [(1, .class_ 2), (0, u "java/lang/Integer"), (16, u "digits"), (0, u "[C"), (33, u "(I)I"), (19, u "stringSize"), (2, u "getChars"), (0, u "(II[B)I"), (4, .fieldref 1 84), (0, .nameAndType 85 86), (0, u "DigitOnes"), (0, u "[B"), (0, .fieldref 1 88), (0, .nameAndType 89 86), (0, u "DigitTens"), (99, .class_ 190), (0, u "java/lang/Integer$IntegerCache"), (3, u "I"), (8, .class_ 204), (0, u "java/lang/Number"), (2, u "value"), (94, u "TYPE"), (0, u "Ljava/lang/Class;"), (0, .class_ 305), (0, u "java/lang/Comparable"), (0, .class_ 307), (0, u "java/lang/constant/Constable"), (0, .class_ 309), (0, u "java/lang/constant/ConstantDesc"), (0, u "MIN_VALUE"), (1, u "MAX_VALUE"), (3, u "SIZE"), (1, u "BYTES"), (1, u "serialVersionUID"), (0, u "J")] 131

def k19c0 : Code := { maxStack := 4, maxLocals := 7, code := jdk_33_method_12_code, exceptionTable := #[], attributes := #[] }
def k19m0 : Method := { name := "getChars", desc := "(II[B)I", sig := { parameters := [.int, .int, (.array .byte)], returnType := some .int }, accessFlags := 8, code := some k19c0 }
def k19c1 : Code := { maxStack := 2, maxLocals := 4, code := jdk_33_method_13_code, exceptionTable := #[], attributes := #[] }
def k19m1 : Method := { name := "stringSize", desc := "(I)I", sig := { parameters := [.int], returnType := some .int }, accessFlags := 8, code := some k19c1 }
/-- java/lang/Integer -/
def k19 : Class := { plain "java/lang/Integer" (some 18) with
  accessFlags := 49
  interfaces := #[3, 5, 6]
  cf := some (fileOf pool19 1 #[.nestMembers #[189]] #[mI 8 77 78, mI 8 74 54] 49 203 #[304, 306, 308] #[fI 25 310 194, fI 25 312 194, fI 25 302 303, fI 24 19 20, fI 24 89 86, fI 24 85 86, fI 18 207 194, fI 25 316 194, fI 25 318 194, fI 26 320 321])
  fields := #[{ name := "MIN_VALUE", type := .int, accessFlags := 25, slot := 0, constantValue := 0 }, { name := "MAX_VALUE", type := .int, accessFlags := 25, slot := 1, constantValue := 0 }, { name := "TYPE", type := (.object "java/lang/Class"), accessFlags := 25, slot := 2, constantValue := 0 }, { name := "digits", type := (.array .char), accessFlags := 24, slot := 3, constantValue := 0 }, { name := "DigitTens", type := (.array .byte), accessFlags := 24, slot := 4, constantValue := 0 }, { name := "DigitOnes", type := (.array .byte), accessFlags := 24, slot := 5, constantValue := 0 }, { name := "value", type := .int, accessFlags := 18, slot := 0, constantValue := 0 }, { name := "SIZE", type := .int, accessFlags := 25, slot := 6, constantValue := 0 }, { name := "BYTES", type := .int, accessFlags := 25, slot := 7, constantValue := 0 }, { name := "serialVersionUID", type := .long, accessFlags := 26, slot := 8, constantValue := 0 }]
  methods := #[k19m0, k19m1]
  instanceTypes := #[.int]
  staticTypes := #[.int, .int, (.object "java/lang/Class"), (.array .char), (.array .byte), (.array .byte), .int, .int, .long]
  resolved := Array.replicate 453 none
  statics := some 2 }

def pool20 : Array CpInfo := pool [(9, u "<init>"), (6, .class_ 18), (1, u "java/lang/Object"), (0, u "()V"), (1, .class_ 23), (1, u "jdk/internal/util/ArraysSupport"), (0, u "LOG2_ARRAY_LONG_INDEX_SCALE"), (0, u "I"), (2, u "U"), (0, u "Ljdk/internal/misc/Unsafe;"), (8, u "BIG_ENDIAN"), (0, u "Z"), (8, u "LOG2_BYTE_BIT_SIZE"), (4, u "LOG2_ARRAY_INT_INDEX_SCALE"), (54, u "JLA"), (0, u "Ljdk/internal/access/JavaLangAccess;"), (11, u "LOG2_ARRAY_BOOLEAN_INDEX_SCALE"), (9, u "LOG2_ARRAY_BYTE_INDEX_SCALE"), (5, u "LOG2_ARRAY_CHAR_INDEX_SCALE"), (5, u "LOG2_ARRAY_SHORT_INDEX_SCALE"), (18, u "LOG2_ARRAY_FLOAT_INDEX_SCALE"), (24, u "LOG2_ARRAY_DOUBLE_INDEX_SCALE"), (6, .methodref 195 196), (0, .class_ 197), (0, .nameAndType 198 199), (0, u "java/lang/Math"), (0, u "max"), (0, u "(II)I"), (0, .integer 2147483639), (76, u "T_BOOLEAN"), (2, u "T_CHAR"), (1, u "T_FLOAT"), (1, u "T_DOUBLE"), (1, u "T_BYTE"), (1, u "T_SHORT"), (1, u "T_INT"), (1, u "T_LONG"), (1, u "SOFT_MAX_ARRAY_LENGTH"), (56, u "newLength"), (0, u "(III)I")] 25

def k20m0 : Method := { name := "<init>", desc := "()V", sig := { parameters := [], returnType := none }, accessFlags := 2, code := none }
def k20c1 : Code := { maxStack := 3, maxLocals := 4, code := jdk_48_method_27_code, exceptionTable := #[], attributes := #[] }
def k20m1 : Method := { name := "newLength", desc := "(III)I", sig := { parameters := [.int, .int, .int], returnType := some .int }, accessFlags := 9, code := some k20c1 }
/-- jdk/internal/util/ArraysSupport -/
def k20 : Class := { plain "jdk/internal/util/ArraysSupport" (some 0) with
  accessFlags := 33
  interfaces := #[]
  cf := some (fileOf pool20 21 #[] #[mI 2 9 19, mI 9 351 352] 33 16 #[] #[fI 24 28 29, fI 26 38 39, fI 25 121 25, fI 25 131 25, fI 25 137 25, fI 25 143 25, fI 25 53 25, fI 25 24 25, fI 25 162 25, fI 25 187 25, fI 26 48 25, fI 25 277 25, fI 25 280 25, fI 25 282 25, fI 25 284 25, fI 25 286 25, fI 25 288 25, fI 25 290 25, fI 25 292 25, fI 26 108 109, fI 25 294 25])
  fields := #[{ name := "U", type := (.object "jdk/internal/misc/Unsafe"), accessFlags := 24, slot := 0, constantValue := 0 }, { name := "BIG_ENDIAN", type := .boolean, accessFlags := 26, slot := 1, constantValue := 0 }, { name := "LOG2_ARRAY_BOOLEAN_INDEX_SCALE", type := .int, accessFlags := 25, slot := 2, constantValue := 0 }, { name := "LOG2_ARRAY_BYTE_INDEX_SCALE", type := .int, accessFlags := 25, slot := 3, constantValue := 0 }, { name := "LOG2_ARRAY_CHAR_INDEX_SCALE", type := .int, accessFlags := 25, slot := 4, constantValue := 0 }, { name := "LOG2_ARRAY_SHORT_INDEX_SCALE", type := .int, accessFlags := 25, slot := 5, constantValue := 0 }, { name := "LOG2_ARRAY_INT_INDEX_SCALE", type := .int, accessFlags := 25, slot := 6, constantValue := 0 }, { name := "LOG2_ARRAY_LONG_INDEX_SCALE", type := .int, accessFlags := 25, slot := 7, constantValue := 0 }, { name := "LOG2_ARRAY_FLOAT_INDEX_SCALE", type := .int, accessFlags := 25, slot := 8, constantValue := 0 }, { name := "LOG2_ARRAY_DOUBLE_INDEX_SCALE", type := .int, accessFlags := 25, slot := 9, constantValue := 0 }, { name := "LOG2_BYTE_BIT_SIZE", type := .int, accessFlags := 26, slot := 10, constantValue := 0 }, { name := "T_BOOLEAN", type := .int, accessFlags := 25, slot := 11, constantValue := 0 }, { name := "T_CHAR", type := .int, accessFlags := 25, slot := 12, constantValue := 0 }, { name := "T_FLOAT", type := .int, accessFlags := 25, slot := 13, constantValue := 0 }, { name := "T_DOUBLE", type := .int, accessFlags := 25, slot := 14, constantValue := 0 }, { name := "T_BYTE", type := .int, accessFlags := 25, slot := 15, constantValue := 0 }, { name := "T_SHORT", type := .int, accessFlags := 25, slot := 16, constantValue := 0 }, { name := "T_INT", type := .int, accessFlags := 25, slot := 17, constantValue := 0 }, { name := "T_LONG", type := .int, accessFlags := 25, slot := 18, constantValue := 0 }, { name := "JLA", type := (.object "jdk/internal/access/JavaLangAccess"), accessFlags := 26, slot := 19, constantValue := 0 }, { name := "SOFT_MAX_ARRAY_LENGTH", type := .int, accessFlags := 25, slot := 20, constantValue := 0 }]
  methods := #[k20m0, k20m1]
  instanceTypes := #[]
  staticTypes := #[(.object "jdk/internal/misc/Unsafe"), .boolean, .int, .int, .int, .int, .int, .int, .int, .int, .int, .int, .int, .int, .int, .int, .int, .int, .int, (.object "jdk/internal/access/JavaLangAccess"), .int]
  resolved := Array.replicate 378 none
  statics := none }

def pool21 : Array CpInfo := pool [(1, .class_ 2), (0, u "java/lang/Cloneable"), (0, .class_ 4), (0, u "java/lang/Object")] 2

/-- java/lang/Cloneable -/
def k21 : Class := { plain "java/lang/Cloneable" (some 0) with
  accessFlags := 1537
  interfaces := #[]
  cf := some (fileOf pool21 1 #[] #[] 1537 3 #[] #[])
  fields := #[]
  methods := #[]
  instanceTypes := #[]
  staticTypes := #[]
  resolved := Array.replicate 7 none
  statics := none }

/-- the primitive byte -/
def k22 : Class := { plain "byte" none with kind := .primitive 'B', accessFlags := 0x411 }
/-- [B -/
def k23 : Class := { plain "[B" (some 0) with kind := .array 22 .byte, interfaces := #[21, 2], accessFlags := 1041 }

/-- the primitive int -/
def k24 : Class := { plain "int" none with kind := .primitive 'I', accessFlags := 0x411 }
/-- [I -/
def k25 : Class := { plain "[I" (some 0) with kind := .array 24 .int, interfaces := #[21, 2], accessFlags := 1041 }

def heap : Heap := #[{ cls := 7, slots := #[.long 0, .int 1, .null, .int 0, .null, .int 0, .int 0], vm := .statics 7 },
  { cls := 17, slots := #[.null, .null, .null], vm := .statics 17 },
  { cls := 19, slots := #[.int 0, .int 0, .null, .null, .ref 4, .ref 3, .int 0, .int 0, .long 0], vm := .statics 19 },
  { cls := 23, slots := #[.int 48, .int 49, .int 50, .int 51, .int 52, .int 53, .int 54, .int 55, .int 56, .int 57, .int 48, .int 49, .int 50, .int 51, .int 52, .int 53, .int 54, .int 55, .int 56, .int 57, .int 48, .int 49, .int 50, .int 51, .int 52, .int 53, .int 54, .int 55, .int 56, .int 57, .int 48, .int 49, .int 50, .int 51, .int 52, .int 53, .int 54, .int 55, .int 56, .int 57, .int 48, .int 49, .int 50, .int 51, .int 52, .int 53, .int 54, .int 55, .int 56, .int 57, .int 48, .int 49, .int 50, .int 51, .int 52, .int 53, .int 54, .int 55, .int 56, .int 57, .int 48, .int 49, .int 50, .int 51, .int 52, .int 53, .int 54, .int 55, .int 56, .int 57, .int 48, .int 49, .int 50, .int 51, .int 52, .int 53, .int 54, .int 55, .int 56, .int 57, .int 48, .int 49, .int 50, .int 51, .int 52, .int 53, .int 54, .int 55, .int 56, .int 57, .int 48, .int 49, .int 50, .int 51, .int 52, .int 53, .int 54, .int 55, .int 56, .int 57], vm := .none },
  { cls := 23, slots := #[.int 48, .int 48, .int 48, .int 48, .int 48, .int 48, .int 48, .int 48, .int 48, .int 48, .int 49, .int 49, .int 49, .int 49, .int 49, .int 49, .int 49, .int 49, .int 49, .int 49, .int 50, .int 50, .int 50, .int 50, .int 50, .int 50, .int 50, .int 50, .int 50, .int 50, .int 51, .int 51, .int 51, .int 51, .int 51, .int 51, .int 51, .int 51, .int 51, .int 51, .int 52, .int 52, .int 52, .int 52, .int 52, .int 52, .int 52, .int 52, .int 52, .int 52, .int 53, .int 53, .int 53, .int 53, .int 53, .int 53, .int 53, .int 53, .int 53, .int 53, .int 54, .int 54, .int 54, .int 54, .int 54, .int 54, .int 54, .int 54, .int 54, .int 54, .int 55, .int 55, .int 55, .int 55, .int 55, .int 55, .int 55, .int 55, .int 55, .int 55, .int 56, .int 56, .int 56, .int 56, .int 56, .int 56, .int 56, .int 56, .int 56, .int 56, .int 57, .int 57, .int 57, .int 57, .int 57, .int 57, .int 57, .int 57, .int 57, .int 57], vm := .none }]
def classes : Array Class := #[k0, k1, k2, k3, k4, k5, k6, k7, k8, k9, k10, k11, k12, k13, k14, k15, k16, k17, k18, k19, k20, k21, k22, k23, k24, k25]
def interned : List (Array UInt16 × Addr) := []
def slotsUsed : Nat := 219
def theMethod : MethodId := ⟨1, 1⟩
def args0 : Array Value := #[.int 5, .int 65, .int 66, .int 67]
def aboutOver (below : List Frame) : State where
  vm := { classes := classes, interned := interned.toArray }
  heap := heap
  slotsUsed := slotsUsed
  threads := #[{ frames := .invoking theMethod args0 :: below }]
def below0 : List Frame := [.native { method := ⟨0, 0⟩, args := #[] }]
def about1 : State := aboutOver below0
def p0 : Program := .bare "" "" ""
def e0 : Env := launch0.env 0 0 0
theorem w_frames : about1.frames = Frame.invoking theMethod args0 :: below0 := rfl
set_option maxRecDepth 65536 in
theorem w_args : argsFit about1.vm theMethod args0 = true := by decide +kernel
set_option maxRecDepth 65536 in
theorem w_heap : heapFits about1 = true := by decide +kernel
set_option maxRecDepth 65536 in
theorem w_runnable : about1.curStatus? = some .runnable := by decide +kernel
set_option maxRecDepth 65536 in
theorem w_alone : about1.alone = true := by decide +kernel
set_option maxRecDepth 65536 in
theorem w_named : about1.methodNamed? x = some theMethod := by decide +kernel
set_option maxRecDepth 65536 in
theorem w_hears : about1.hears theMethod below0 = true := by decide +kernel
set_option maxRecDepth 65536 in
theorem w_ripe : about1.ripe theMethod args0 below0 = true := by decide +kernel
theorem w_running : about1.status = .running := rfl
set_option maxRecDepth 65536 in
theorem w_room : about1.hasRoom e0.platform room_1 = true :=
  launch0.hasRoom_least _ room_1 (by decide +kernel) (by decide +kernel) (by decide +kernel) (by decide +kernel) (by decide +kernel) (by decide +kernel)
theorem allAtoms_all (ts : List Jvm.Cond) (a : Array Jvm.Value) (st : Jvm.State) : (allAtoms ts).before a st = ts.all (fun c => c.before a st) := by
  induction ts with
  | nil => rfl
  | cons c t ih =>
    show (Jvm.Cond.and c (allAtoms t)).before a st = _
    rw [Jvm.Cond.before_and, ih, List.all_cons]
def words1 : List Jvm.Cond := Jvm.Cond.code x code maxLocals ret :: tables_1
/-- a 'code' word, met by the world's own term for the bytes: nothing is compared byte by byte -/
theorem code_word {y : MethodName} {bytes : ByteArray} {mx : Nat} {rt : Option FieldType} {a : Array Value} {s : State} {m : MethodId} {meth : Method} {c : Code} (h1 : s.methodNamed? y = some m) (h2 : s.vm.method? m = some meth) (h3 : meth.code = some c) (h4 : c.code = bytes)
    (h5 : (c.maxLocals == mx && c.exceptionTable.isEmpty && decide (c.maxStack ≤ mostOperands) && decide (meth.sig.returnType = rt) && !meth.locks && decide (parseMethodDescriptor y.desc = some meth.sig)) = true) : (Jvm.Cond.code y bytes mx rt).before a s = true := by
  simp only [Bool.and_eq_true, beq_iff_eq, Bool.not_eq_true', decide_eq_true_eq] at h5
  obtain ⟨⟨⟨⟨⟨g1, g2⟩, g3⟩, g4⟩, g5⟩, g6⟩ := h5
  simp [Cond.before, Cond.holds, Cond.value, h1, h2, h3, h4, g1, g2, g3, g4, g5, g6]
def isCode : Jvm.Cond → Bool
  | .code _ _ _ _ => true
  | _ => false
theorem all_split {L : List Jvm.Cond} {P : Jvm.Cond → Bool} (h1 : L.all (fun c => isCode c || P c) = true) (h2 : ∀ c ∈ L.filter isCode, P c = true) : L.all P = true := by
  refine List.all_eq_true.mpr fun c hc => ?_
  have h := List.all_eq_true.mp h1 c hc
  rcases Bool.eq_false_or_eq_true (isCode c) with hi | hi
  · exact h2 c (List.mem_filter.mpr ⟨hc, hi⟩)
  · simpa [hi] using h
set_option maxRecDepth 65536 in
theorem w_c0 : (Jvm.Cond.code x code maxLocals ret).before args0 about1 = true := code_word (m := ⟨1, 1⟩) (meth := k1m1) (c := k1c1) (by decide +kernel) rfl rfl rfl (by decide +kernel)
set_option maxRecDepth 65536 in
theorem w_c1 : (Jvm.Cond.code ⟨"java/lang/String", "valueOf", "(C)Ljava/lang/String;"⟩ jdk_42_method_139_code (1 : Nat) (Option.some (Jvm.ClassFile.FieldType.object "java/lang/String"))).before args0 about1 = true := code_word (m := ⟨7, 5⟩) (meth := k7m5) (c := k7c5) (by decide +kernel) rfl rfl rfl (by decide +kernel)
set_option maxRecDepth 65536 in
theorem w_c2 : (Jvm.Cond.code ⟨"java/lang/StringLatin1", "canEncode", "(C)Z"⟩ jdk_43_method_3_code (1 : Nat) (Option.some Jvm.ClassFile.FieldType.boolean)).before args0 about1 = true := code_word (m := ⟨8, 2⟩) (meth := k8m2) (c := k8c2) (by decide +kernel) rfl rfl rfl (by decide +kernel)
set_option maxRecDepth 65536 in
theorem w_c3 : (Jvm.Cond.code ⟨"java/lang/StringLatin1", "toBytes", "(C)[B"⟩ jdk_43_method_46_code (1 : Nat) (Option.some (Jvm.ClassFile.FieldType.array Jvm.ClassFile.FieldType.byte))).before args0 about1 = true := code_word (m := ⟨8, 3⟩) (meth := k8m3) (c := k8c3) (by decide +kernel) rfl rfl rfl (by decide +kernel)
set_option maxRecDepth 65536 in
theorem w_c4 : (Jvm.Cond.code ⟨"java/lang/String", "<init>", "([BB)V"⟩ jdk_42_method_151_code (3 : Nat) (Option.none : Option Jvm.ClassFile.FieldType)).before args0 about1 = true := code_word (m := ⟨7, 8⟩) (meth := k7m8) (c := k7c8) (by decide +kernel) rfl rfl rfl (by decide +kernel)
set_option maxRecDepth 65536 in
theorem w_c5 : (Jvm.Cond.code ⟨"java/lang/Object", "<init>", "()V"⟩ object_method_1_code (1 : Nat) (Option.none : Option Jvm.ClassFile.FieldType)).before args0 about1 = true := code_word (m := ⟨0, 0⟩) (meth := k0m0) (c := k0c0) (by decide +kernel) rfl rfl rfl (by decide +kernel)
set_option maxRecDepth 65536 in
theorem w_c6 : (Jvm.Cond.code ⟨"com/example/bordereau/bordereau/archive/Problem", "atCell", "(Ljava/lang/String;ILjava/lang/String;Ljava/lang/String;)Lcom/example/bordereau/bordereau/archive/Problem;"⟩ prog_12_method_4_code (4 : Nat) (Option.some (Jvm.ClassFile.FieldType.object "com/example/bordereau/bordereau/archive/Problem"))).before args0 about1 = true := code_word (m := ⟨9, 1⟩) (meth := k9m1) (c := k9c1) (by decide +kernel) rfl rfl rfl (by decide +kernel)
set_option maxRecDepth 65536 in
theorem w_c7 : (Jvm.Cond.code ⟨"java/util/Objects", "requireNonNull", "(Ljava/lang/Object;Ljava/lang/String;)Ljava/lang/Object;"⟩ jdk_31_method_11_code (2 : Nat) (Option.some (Jvm.ClassFile.FieldType.object "java/lang/Object"))).before args0 about1 = true := code_word (m := ⟨10, 1⟩) (meth := k10m1) (c := k10c1) (by decide +kernel) rfl rfl rfl (by decide +kernel)
set_option maxRecDepth 65536 in
theorem w_c8 : (Jvm.Cond.code ⟨"com/example/bordereau/bordereau/archive/Problem", "<init>", "(Ljava/lang/String;Ljava/lang/String;ILjava/lang/String;Ljava/lang/String;)V"⟩ prog_12_method_1_code (6 : Nat) (Option.none : Option Jvm.ClassFile.FieldType)).before args0 about1 = true := code_word (m := ⟨9, 0⟩) (meth := k9m0) (c := k9c0) (by decide +kernel) rfl rfl rfl (by decide +kernel)
set_option maxRecDepth 65536 in
theorem w_c9 : (Jvm.Cond.code ⟨"com/example/bordereau/bordereau/archive/Problem", "code", "()Ljava/lang/String;"⟩ prog_12_method_6_code (1 : Nat) (Option.some (Jvm.ClassFile.FieldType.object "java/lang/String"))).before args0 about1 = true := code_word (m := ⟨9, 2⟩) (meth := k9m2) (c := k9c2) (by decide +kernel) rfl rfl rfl (by decide +kernel)
set_option maxRecDepth 65536 in
theorem w_c10 : (Jvm.Cond.code ⟨"java/lang/String", "equals", "(Ljava/lang/Object;)Z"⟩ jdk_42_method_66_code (3 : Nat) (Option.some Jvm.ClassFile.FieldType.boolean)).before args0 about1 = true := code_word (m := ⟨7, 4⟩) (meth := k7m4) (c := k7c4) (by decide +kernel) rfl rfl rfl (by decide +kernel)
set_option maxRecDepth 65536 in
theorem w_c11 : (Jvm.Cond.code ⟨"com/example/bordereau/bordereau/archive/Problem", "message", "()Ljava/lang/String;"⟩ prog_12_method_7_code (1 : Nat) (Option.some (Jvm.ClassFile.FieldType.object "java/lang/String"))).before args0 about1 = true := code_word (m := ⟨9, 3⟩) (meth := k9m3) (c := k9c3) (by decide +kernel) rfl rfl rfl (by decide +kernel)
set_option maxRecDepth 65536 in
theorem w_c12 : (Jvm.Cond.code ⟨"com/example/bordereau/bordereau/archive/Problem", "toString", "()Ljava/lang/String;"⟩ prog_12_method_11_code (1 : Nat) (Option.some (Jvm.ClassFile.FieldType.object "java/lang/String"))).before args0 about1 = true := code_word (m := ⟨9, 4⟩) (meth := k9m4) (c := k9c4) (by decide +kernel) rfl rfl rfl (by decide +kernel)
set_option maxRecDepth 65536 in
theorem w_c13 : (Jvm.Cond.code ⟨"java/lang/StringBuilder", "<init>", "()V"⟩ jdk_67_method_1_code (1 : Nat) (Option.none : Option Jvm.ClassFile.FieldType)).before args0 about1 = true := code_word (m := ⟨13, 0⟩) (meth := k13m0) (c := k13c0) (by decide +kernel) rfl rfl rfl (by decide +kernel)
set_option maxRecDepth 65536 in
theorem w_c14 : (Jvm.Cond.code ⟨"java/lang/AbstractStringBuilder", "<init>", "(I)V"⟩ jdk_68_method_2_code (2 : Nat) (Option.none : Option Jvm.ClassFile.FieldType)).before args0 about1 = true := code_word (m := ⟨12, 1⟩) (meth := k12m1) (c := k12c1) (by decide +kernel) rfl rfl rfl (by decide +kernel)
set_option maxRecDepth 65536 in
theorem w_c15 : (Jvm.Cond.code ⟨"java/lang/StringBuilder", "append", "(Ljava/lang/String;)Ljava/lang/StringBuilder;"⟩ jdk_67_method_7_code (2 : Nat) (Option.some (Jvm.ClassFile.FieldType.object "java/lang/StringBuilder"))).before args0 about1 = true := code_word (m := ⟨13, 1⟩) (meth := k13m1) (c := k13c1) (by decide +kernel) rfl rfl rfl (by decide +kernel)
set_option maxRecDepth 65536 in
theorem w_c16 : (Jvm.Cond.code ⟨"java/lang/AbstractStringBuilder", "append", "(Ljava/lang/String;)Ljava/lang/AbstractStringBuilder;"⟩ jdk_68_method_22_code (3 : Nat) (Option.some (Jvm.ClassFile.FieldType.object "java/lang/AbstractStringBuilder"))).before args0 about1 = true := code_word (m := ⟨12, 5⟩) (meth := k12m5) (c := k12c5) (by decide +kernel) rfl rfl rfl (by decide +kernel)
set_option maxRecDepth 65536 in
theorem w_c17 : (Jvm.Cond.code ⟨"java/lang/String", "length", "()I"⟩ jdk_42_method_54_code (1 : Nat) (Option.some Jvm.ClassFile.FieldType.int)).before args0 about1 = true := code_word (m := ⟨7, 2⟩) (meth := k7m2) (c := k7c2) (by decide +kernel) rfl rfl rfl (by decide +kernel)
set_option maxRecDepth 65536 in
theorem w_c18 : (Jvm.Cond.code ⟨"java/lang/String", "coder", "()B"⟩ jdk_42_method_152_code (1 : Nat) (Option.some Jvm.ClassFile.FieldType.byte)).before args0 about1 = true := code_word (m := ⟨7, 9⟩) (meth := k7m9) (c := k7c9) (by decide +kernel) rfl rfl rfl (by decide +kernel)
set_option maxRecDepth 65536 in
theorem w_c19 : (Jvm.Cond.code ⟨"java/lang/AbstractStringBuilder", "ensureCapacityInternal", "(I)V"⟩ jdk_68_method_9_code (3 : Nat) (Option.none : Option Jvm.ClassFile.FieldType)).before args0 about1 = true := code_word (m := ⟨12, 3⟩) (meth := k12m3) (c := k12c3) (by decide +kernel) rfl rfl rfl (by decide +kernel)
set_option maxRecDepth 65536 in
theorem w_c20 : (Jvm.Cond.code ⟨"java/lang/AbstractStringBuilder", "putStringAt", "(ILjava/lang/String;)V"⟩ jdk_68_method_73_code (3 : Nat) (Option.none : Option Jvm.ClassFile.FieldType)).before args0 about1 = true := code_word (m := ⟨12, 10⟩) (meth := k12m10) (c := k12c10) (by decide +kernel) rfl rfl rfl (by decide +kernel)
set_option maxRecDepth 65536 in
theorem w_c21 : (Jvm.Cond.code ⟨"java/lang/AbstractStringBuilder", "inflateIfNeededFor", "(Ljava/lang/String;)V"⟩ jdk_68_method_71_code (2 : Nat) (Option.none : Option Jvm.ClassFile.FieldType)).before args0 about1 = true := code_word (m := ⟨12, 9⟩) (meth := k12m9) (c := k12c9) (by decide +kernel) rfl rfl rfl (by decide +kernel)
set_option maxRecDepth 65536 in
theorem w_c22 : (Jvm.Cond.code ⟨"java/lang/String", "getBytes", "([BIB)V"⟩ jdk_42_method_147_code (4 : Nat) (Option.none : Option Jvm.ClassFile.FieldType)).before args0 about1 = true := code_word (m := ⟨7, 6⟩) (meth := k7m6) (c := k7c6) (by decide +kernel) rfl rfl rfl (by decide +kernel)
set_option maxRecDepth 65536 in
theorem w_c23 : (Jvm.Cond.code ⟨"java/lang/StringBuilder", "toString", "()Ljava/lang/String;"⟩ jdk_67_method_42_code (1 : Nat) (Option.some (Jvm.ClassFile.FieldType.object "java/lang/String"))).before args0 about1 = true := code_word (m := ⟨13, 3⟩) (meth := k13m3) (c := k13c3) (by decide +kernel) rfl rfl rfl (by decide +kernel)
set_option maxRecDepth 65536 in
theorem w_c24 : (Jvm.Cond.code ⟨"java/lang/String", "<init>", "(Ljava/lang/StringBuilder;)V"⟩ jdk_42_method_53_code (2 : Nat) (Option.none : Option Jvm.ClassFile.FieldType)).before args0 about1 = true := code_word (m := ⟨7, 1⟩) (meth := k7m1) (c := k7c1) (by decide +kernel) rfl rfl rfl (by decide +kernel)
set_option maxRecDepth 65536 in
theorem w_c25 : (Jvm.Cond.code ⟨"java/lang/String", "<init>", "(Ljava/lang/AbstractStringBuilder;Ljava/lang/Void;)V"⟩ jdk_42_method_150_code (5 : Nat) (Option.none : Option Jvm.ClassFile.FieldType)).before args0 about1 = true := code_word (m := ⟨7, 7⟩) (meth := k7m7) (c := k7c7) (by decide +kernel) rfl rfl rfl (by decide +kernel)
set_option maxRecDepth 65536 in
theorem w_c26 : (Jvm.Cond.code ⟨"java/lang/AbstractStringBuilder", "getValue", "()[B"⟩ jdk_68_method_64_code (1 : Nat) (Option.some (Jvm.ClassFile.FieldType.array Jvm.ClassFile.FieldType.byte))).before args0 about1 = true := code_word (m := ⟨12, 7⟩) (meth := k12m7) (c := k12c7) (by decide +kernel) rfl rfl rfl (by decide +kernel)
set_option maxRecDepth 65536 in
theorem w_c27 : (Jvm.Cond.code ⟨"java/lang/StringBuilder", "length", "()I"⟩ jdk_67_method_93_code (1 : Nat) (Option.some Jvm.ClassFile.FieldType.int)).before args0 about1 = true := code_word (m := ⟨13, 4⟩) (meth := k13m4) (c := k13c4) (by decide +kernel) rfl rfl rfl (by decide +kernel)
set_option maxRecDepth 65536 in
theorem w_c28 : (Jvm.Cond.code ⟨"java/lang/AbstractStringBuilder", "length", "()I"⟩ jdk_68_method_6_code (1 : Nat) (Option.some Jvm.ClassFile.FieldType.int)).before args0 about1 = true := code_word (m := ⟨12, 2⟩) (meth := k12m2) (c := k12c2) (by decide +kernel) rfl rfl rfl (by decide +kernel)
set_option maxRecDepth 65536 in
theorem w_c29 : (Jvm.Cond.code ⟨"java/lang/AbstractStringBuilder", "isLatin1", "()Z"⟩ jdk_68_method_68_code (1 : Nat) (Option.some Jvm.ClassFile.FieldType.boolean)).before args0 about1 = true := code_word (m := ⟨12, 8⟩) (meth := k12m8) (c := k12c8) (by decide +kernel) rfl rfl rfl (by decide +kernel)
set_option maxRecDepth 65536 in
theorem w_c30 : (Jvm.Cond.code ⟨"java/util/Arrays", "copyOfRange", "([BII)[B"⟩ jdk_65_method_132_code (3 : Nat) (Option.some (Jvm.ClassFile.FieldType.array Jvm.ClassFile.FieldType.byte))).before args0 about1 = true := code_word (m := ⟨15, 3⟩) (meth := k15m3) (c := k15c3) (by decide +kernel) rfl rfl rfl (by decide +kernel)
set_option maxRecDepth 65536 in
theorem w_c31 : (Jvm.Cond.code ⟨"java/util/Arrays", "copyOfRangeByte", "([BII)[B"⟩ jdk_65_method_133_code (5 : Nat) (Option.some (Jvm.ClassFile.FieldType.array Jvm.ClassFile.FieldType.byte))).before args0 about1 = true := code_word (m := ⟨15, 4⟩) (meth := k15m4) (c := k15c4) (by decide +kernel) rfl rfl rfl (by decide +kernel)
set_option maxRecDepth 65536 in
theorem w_c32 : (Jvm.Cond.code ⟨"java/util/Arrays", "checkLength", "(II)V"⟩ jdk_65_method_131_code (2 : Nat) (Option.none : Option Jvm.ClassFile.FieldType)).before args0 about1 = true := code_word (m := ⟨15, 2⟩) (meth := k15m2) (c := k15c2) (by decide +kernel) rfl rfl rfl (by decide +kernel)
set_option maxRecDepth 65536 in
theorem w_c33 : (Jvm.Cond.code ⟨"java/lang/Math", "min", "(II)I"⟩ jdk_29_method_69_code (2 : Nat) (Option.some Jvm.ClassFile.FieldType.int)).before args0 about1 = true := code_word (m := ⟨16, 2⟩) (meth := k16m2) (c := k16c2) (by decide +kernel) rfl rfl rfl (by decide +kernel)
set_option maxRecDepth 65536 in
theorem w_c34 : (Jvm.Cond.code ⟨"com/example/bordereau/bordereau/archive/ProblemAtCellPinLaw", "chk", "(Ljava/lang/String;IICIICC)Z"⟩ method_3_code (8 : Nat) (Option.some Jvm.ClassFile.FieldType.boolean)).before args0 about1 = true := code_word (m := ⟨1, 2⟩) (meth := k1m2) (c := k1c2) (by decide +kernel) rfl rfl rfl (by decide +kernel)
set_option maxRecDepth 65536 in
theorem w_c35 : (Jvm.Cond.code ⟨"java/lang/String", "charAt", "(I)C"⟩ jdk_42_method_56_code (2 : Nat) (Option.some Jvm.ClassFile.FieldType.char)).before args0 about1 = true := code_word (m := ⟨7, 3⟩) (meth := k7m3) (c := k7c3) (by decide +kernel) rfl rfl rfl (by decide +kernel)
set_option maxRecDepth 65536 in
theorem w_c36 : (Jvm.Cond.code ⟨"java/lang/String", "isLatin1", "()Z"⟩ jdk_42_method_154_code (1 : Nat) (Option.some Jvm.ClassFile.FieldType.boolean)).before args0 about1 = true := code_word (m := ⟨7, 10⟩) (meth := k7m10) (c := k7c10) (by decide +kernel) rfl rfl rfl (by decide +kernel)
set_option maxRecDepth 65536 in
theorem w_c37 : (Jvm.Cond.code ⟨"java/lang/StringLatin1", "charAt", "([BI)C"⟩ jdk_43_method_2_code (2 : Nat) (Option.some Jvm.ClassFile.FieldType.char)).before args0 about1 = true := code_word (m := ⟨8, 1⟩) (meth := k8m1) (c := k8c1) (by decide +kernel) rfl rfl rfl (by decide +kernel)
set_option maxRecDepth 65536 in
theorem w_c38 : (Jvm.Cond.code ⟨"java/lang/String", "checkIndex", "(II)V"⟩ jdk_42_method_155_code (2 : Nat) (Option.none : Option Jvm.ClassFile.FieldType)).before args0 about1 = true := code_word (m := ⟨7, 11⟩) (meth := k7m11) (c := k7c11) (by decide +kernel) rfl rfl rfl (by decide +kernel)
set_option maxRecDepth 65536 in
theorem w_c39 : (Jvm.Cond.code ⟨"jdk/internal/util/Preconditions", "checkIndex", "(IILjava/util/function/BiFunction;)I"⟩ jdk_41_method_11_code (3 : Nat) (Option.some Jvm.ClassFile.FieldType.int)).before args0 about1 = true := code_word (m := ⟨17, 1⟩) (meth := k17m1) (c := k17c1) (by decide +kernel) rfl rfl rfl (by decide +kernel)
set_option maxRecDepth 65536 in
theorem w_c40 : (Jvm.Cond.code ⟨"com/example/bordereau/bordereau/archive/ProblemAtCellPinLaw", "expected", "(ICIICC)C"⟩ method_4_code (7 : Nat) (Option.some Jvm.ClassFile.FieldType.char)).before args0 about1 = true := code_word (m := ⟨1, 3⟩) (meth := k1m3) (c := k1c3) (by decide +kernel) rfl rfl rfl (by decide +kernel)
set_option maxRecDepth 65536 in
theorem w_c41 : (Jvm.Cond.code ⟨"java/lang/StringBuilder", "append", "(I)Ljava/lang/StringBuilder;"⟩ jdk_67_method_15_code (2 : Nat) (Option.some (Jvm.ClassFile.FieldType.object "java/lang/StringBuilder"))).before args0 about1 = true := code_word (m := ⟨13, 2⟩) (meth := k13m2) (c := k13c2) (by decide +kernel) rfl rfl rfl (by decide +kernel)
set_option maxRecDepth 65536 in
theorem w_c42 : (Jvm.Cond.code ⟨"java/lang/AbstractStringBuilder", "append", "(I)Ljava/lang/AbstractStringBuilder;"⟩ jdk_68_method_32_code (4 : Nat) (Option.some (Jvm.ClassFile.FieldType.object "java/lang/AbstractStringBuilder"))).before args0 about1 = true := code_word (m := ⟨12, 6⟩) (meth := k12m6) (c := k12c6) (by decide +kernel) rfl rfl rfl (by decide +kernel)
set_option maxRecDepth 65536 in
theorem w_c43 : (Jvm.Cond.code ⟨"java/lang/Integer", "stringSize", "(I)I"⟩ jdk_33_method_13_code (4 : Nat) (Option.some Jvm.ClassFile.FieldType.int)).before args0 about1 = true := code_word (m := ⟨19, 1⟩) (meth := k19m1) (c := k19c1) (by decide +kernel) rfl rfl rfl (by decide +kernel)
set_option maxRecDepth 65536 in
theorem w_c44 : (Jvm.Cond.code ⟨"java/lang/Integer", "getChars", "(II[B)I"⟩ jdk_33_method_12_code (7 : Nat) (Option.some Jvm.ClassFile.FieldType.int)).before args0 about1 = true := code_word (m := ⟨19, 0⟩) (meth := k19m0) (c := k19c0) (by decide +kernel) rfl rfl rfl (by decide +kernel)
set_option maxRecDepth 65536 in
theorem w_c45 : (Jvm.Cond.code ⟨"java/lang/AbstractStringBuilder", "newCapacity", "(I)I"⟩ jdk_68_method_10_code (6 : Nat) (Option.some Jvm.ClassFile.FieldType.int)).before args0 about1 = true := code_word (m := ⟨12, 4⟩) (meth := k12m4) (c := k12c4) (by decide +kernel) rfl rfl rfl (by decide +kernel)
set_option maxRecDepth 65536 in
theorem w_c46 : (Jvm.Cond.code ⟨"jdk/internal/util/ArraysSupport", "newLength", "(III)I"⟩ jdk_48_method_27_code (4 : Nat) (Option.some Jvm.ClassFile.FieldType.int)).before args0 about1 = true := code_word (m := ⟨20, 1⟩) (meth := k20m1) (c := k20c1) (by decide +kernel) rfl rfl rfl (by decide +kernel)
set_option maxRecDepth 65536 in
theorem w_c47 : (Jvm.Cond.code ⟨"java/lang/Math", "max", "(II)I"⟩ jdk_29_method_65_code (2 : Nat) (Option.some Jvm.ClassFile.FieldType.int)).before args0 about1 = true := code_word (m := ⟨16, 1⟩) (meth := k16m1) (c := k16c1) (by decide +kernel) rfl rfl rfl (by decide +kernel)
set_option maxRecDepth 65536 in
theorem w_c48 : (Jvm.Cond.code ⟨"java/util/Arrays", "copyOf", "([BI)[B"⟩ jdk_65_method_121_code (3 : Nat) (Option.some (Jvm.ClassFile.FieldType.array Jvm.ClassFile.FieldType.byte))).before args0 about1 = true := code_word (m := ⟨15, 1⟩) (meth := k15m1) (c := k15c1) (by decide +kernel) rfl rfl rfl (by decide +kernel)
set_option maxRecDepth 65536 in
theorem w_c49 : (Jvm.Cond.code ⟨"com/example/bordereau/bordereau/archive/ProblemAtCellPinLaw", "digits", "(I)I"⟩ method_7_code (1 : Nat) (Option.some Jvm.ClassFile.FieldType.int)).before args0 about1 = true := code_word (m := ⟨1, 6⟩) (meth := k1m6) (c := k1c6) (by decide +kernel) rfl rfl rfl (by decide +kernel)
set_option maxRecDepth 65536 in
theorem w_c50 : (Jvm.Cond.code ⟨"com/example/bordereau/bordereau/archive/ProblemAtCellPinLaw", "digit", "(III)C"⟩ method_5_code (4 : Nat) (Option.some Jvm.ClassFile.FieldType.char)).before args0 about1 = true := code_word (m := ⟨1, 4⟩) (meth := k1m4) (c := k1c4) (by decide +kernel) rfl rfl rfl (by decide +kernel)
set_option maxRecDepth 65536 in
theorem w_c51 : (Jvm.Cond.code ⟨"com/example/bordereau/bordereau/archive/ProblemAtCellPinLaw", "pow10", "(I)I"⟩ method_6_code (1 : Nat) (Option.some Jvm.ClassFile.FieldType.int)).before args0 about1 = true := code_word (m := ⟨1, 5⟩) (meth := k1m5) (c := k1c5) (by decide +kernel) rfl rfl rfl (by decide +kernel)
def codes1 : List Jvm.Cond := [Jvm.Cond.code x code maxLocals ret, Jvm.Cond.code ⟨"java/lang/String", "valueOf", "(C)Ljava/lang/String;"⟩ jdk_42_method_139_code (1 : Nat) (Option.some (Jvm.ClassFile.FieldType.object "java/lang/String")), Jvm.Cond.code ⟨"java/lang/StringLatin1", "canEncode", "(C)Z"⟩ jdk_43_method_3_code (1 : Nat) (Option.some Jvm.ClassFile.FieldType.boolean), Jvm.Cond.code ⟨"java/lang/StringLatin1", "toBytes", "(C)[B"⟩ jdk_43_method_46_code (1 : Nat) (Option.some (Jvm.ClassFile.FieldType.array Jvm.ClassFile.FieldType.byte)), Jvm.Cond.code ⟨"java/lang/String", "<init>", "([BB)V"⟩ jdk_42_method_151_code (3 : Nat) (Option.none : Option Jvm.ClassFile.FieldType), Jvm.Cond.code ⟨"java/lang/Object", "<init>", "()V"⟩ object_method_1_code (1 : Nat) (Option.none : Option Jvm.ClassFile.FieldType), Jvm.Cond.code ⟨"com/example/bordereau/bordereau/archive/Problem", "atCell", "(Ljava/lang/String;ILjava/lang/String;Ljava/lang/String;)Lcom/example/bordereau/bordereau/archive/Problem;"⟩ prog_12_method_4_code (4 : Nat) (Option.some (Jvm.ClassFile.FieldType.object "com/example/bordereau/bordereau/archive/Problem")), Jvm.Cond.code ⟨"java/util/Objects", "requireNonNull", "(Ljava/lang/Object;Ljava/lang/String;)Ljava/lang/Object;"⟩ jdk_31_method_11_code (2 : Nat) (Option.some (Jvm.ClassFile.FieldType.object "java/lang/Object")), Jvm.Cond.code ⟨"com/example/bordereau/bordereau/archive/Problem", "<init>", "(Ljava/lang/String;Ljava/lang/String;ILjava/lang/String;Ljava/lang/String;)V"⟩ prog_12_method_1_code (6 : Nat) (Option.none : Option Jvm.ClassFile.FieldType), Jvm.Cond.code ⟨"com/example/bordereau/bordereau/archive/Problem", "code", "()Ljava/lang/String;"⟩ prog_12_method_6_code (1 : Nat) (Option.some (Jvm.ClassFile.FieldType.object "java/lang/String")), Jvm.Cond.code ⟨"java/lang/String", "equals", "(Ljava/lang/Object;)Z"⟩ jdk_42_method_66_code (3 : Nat) (Option.some Jvm.ClassFile.FieldType.boolean), Jvm.Cond.code ⟨"com/example/bordereau/bordereau/archive/Problem", "message", "()Ljava/lang/String;"⟩ prog_12_method_7_code (1 : Nat) (Option.some (Jvm.ClassFile.FieldType.object "java/lang/String")), Jvm.Cond.code ⟨"com/example/bordereau/bordereau/archive/Problem", "toString", "()Ljava/lang/String;"⟩ prog_12_method_11_code (1 : Nat) (Option.some (Jvm.ClassFile.FieldType.object "java/lang/String")), Jvm.Cond.code ⟨"java/lang/StringBuilder", "<init>", "()V"⟩ jdk_67_method_1_code (1 : Nat) (Option.none : Option Jvm.ClassFile.FieldType), Jvm.Cond.code ⟨"java/lang/AbstractStringBuilder", "<init>", "(I)V"⟩ jdk_68_method_2_code (2 : Nat) (Option.none : Option Jvm.ClassFile.FieldType), Jvm.Cond.code ⟨"java/lang/StringBuilder", "append", "(Ljava/lang/String;)Ljava/lang/StringBuilder;"⟩ jdk_67_method_7_code (2 : Nat) (Option.some (Jvm.ClassFile.FieldType.object "java/lang/StringBuilder")), Jvm.Cond.code ⟨"java/lang/AbstractStringBuilder", "append", "(Ljava/lang/String;)Ljava/lang/AbstractStringBuilder;"⟩ jdk_68_method_22_code (3 : Nat) (Option.some (Jvm.ClassFile.FieldType.object "java/lang/AbstractStringBuilder")), Jvm.Cond.code ⟨"java/lang/String", "length", "()I"⟩ jdk_42_method_54_code (1 : Nat) (Option.some Jvm.ClassFile.FieldType.int), Jvm.Cond.code ⟨"java/lang/String", "coder", "()B"⟩ jdk_42_method_152_code (1 : Nat) (Option.some Jvm.ClassFile.FieldType.byte), Jvm.Cond.code ⟨"java/lang/AbstractStringBuilder", "ensureCapacityInternal", "(I)V"⟩ jdk_68_method_9_code (3 : Nat) (Option.none : Option Jvm.ClassFile.FieldType), Jvm.Cond.code ⟨"java/lang/AbstractStringBuilder", "putStringAt", "(ILjava/lang/String;)V"⟩ jdk_68_method_73_code (3 : Nat) (Option.none : Option Jvm.ClassFile.FieldType), Jvm.Cond.code ⟨"java/lang/AbstractStringBuilder", "inflateIfNeededFor", "(Ljava/lang/String;)V"⟩ jdk_68_method_71_code (2 : Nat) (Option.none : Option Jvm.ClassFile.FieldType), Jvm.Cond.code ⟨"java/lang/String", "getBytes", "([BIB)V"⟩ jdk_42_method_147_code (4 : Nat) (Option.none : Option Jvm.ClassFile.FieldType), Jvm.Cond.code ⟨"java/lang/StringBuilder", "toString", "()Ljava/lang/String;"⟩ jdk_67_method_42_code (1 : Nat) (Option.some (Jvm.ClassFile.FieldType.object "java/lang/String")), Jvm.Cond.code ⟨"java/lang/String", "<init>", "(Ljava/lang/StringBuilder;)V"⟩ jdk_42_method_53_code (2 : Nat) (Option.none : Option Jvm.ClassFile.FieldType), Jvm.Cond.code ⟨"java/lang/String", "<init>", "(Ljava/lang/AbstractStringBuilder;Ljava/lang/Void;)V"⟩ jdk_42_method_150_code (5 : Nat) (Option.none : Option Jvm.ClassFile.FieldType), Jvm.Cond.code ⟨"java/lang/AbstractStringBuilder", "getValue", "()[B"⟩ jdk_68_method_64_code (1 : Nat) (Option.some (Jvm.ClassFile.FieldType.array Jvm.ClassFile.FieldType.byte)), Jvm.Cond.code ⟨"java/lang/StringBuilder", "length", "()I"⟩ jdk_67_method_93_code (1 : Nat) (Option.some Jvm.ClassFile.FieldType.int), Jvm.Cond.code ⟨"java/lang/AbstractStringBuilder", "length", "()I"⟩ jdk_68_method_6_code (1 : Nat) (Option.some Jvm.ClassFile.FieldType.int), Jvm.Cond.code ⟨"java/lang/AbstractStringBuilder", "isLatin1", "()Z"⟩ jdk_68_method_68_code (1 : Nat) (Option.some Jvm.ClassFile.FieldType.boolean), Jvm.Cond.code ⟨"java/util/Arrays", "copyOfRange", "([BII)[B"⟩ jdk_65_method_132_code (3 : Nat) (Option.some (Jvm.ClassFile.FieldType.array Jvm.ClassFile.FieldType.byte)), Jvm.Cond.code ⟨"java/util/Arrays", "copyOfRangeByte", "([BII)[B"⟩ jdk_65_method_133_code (5 : Nat) (Option.some (Jvm.ClassFile.FieldType.array Jvm.ClassFile.FieldType.byte)), Jvm.Cond.code ⟨"java/util/Arrays", "checkLength", "(II)V"⟩ jdk_65_method_131_code (2 : Nat) (Option.none : Option Jvm.ClassFile.FieldType), Jvm.Cond.code ⟨"java/lang/Math", "min", "(II)I"⟩ jdk_29_method_69_code (2 : Nat) (Option.some Jvm.ClassFile.FieldType.int), Jvm.Cond.code ⟨"com/example/bordereau/bordereau/archive/ProblemAtCellPinLaw", "chk", "(Ljava/lang/String;IICIICC)Z"⟩ method_3_code (8 : Nat) (Option.some Jvm.ClassFile.FieldType.boolean), Jvm.Cond.code ⟨"java/lang/String", "charAt", "(I)C"⟩ jdk_42_method_56_code (2 : Nat) (Option.some Jvm.ClassFile.FieldType.char), Jvm.Cond.code ⟨"java/lang/String", "isLatin1", "()Z"⟩ jdk_42_method_154_code (1 : Nat) (Option.some Jvm.ClassFile.FieldType.boolean), Jvm.Cond.code ⟨"java/lang/StringLatin1", "charAt", "([BI)C"⟩ jdk_43_method_2_code (2 : Nat) (Option.some Jvm.ClassFile.FieldType.char), Jvm.Cond.code ⟨"java/lang/String", "checkIndex", "(II)V"⟩ jdk_42_method_155_code (2 : Nat) (Option.none : Option Jvm.ClassFile.FieldType), Jvm.Cond.code ⟨"jdk/internal/util/Preconditions", "checkIndex", "(IILjava/util/function/BiFunction;)I"⟩ jdk_41_method_11_code (3 : Nat) (Option.some Jvm.ClassFile.FieldType.int), Jvm.Cond.code ⟨"com/example/bordereau/bordereau/archive/ProblemAtCellPinLaw", "expected", "(ICIICC)C"⟩ method_4_code (7 : Nat) (Option.some Jvm.ClassFile.FieldType.char), Jvm.Cond.code ⟨"java/lang/StringBuilder", "append", "(I)Ljava/lang/StringBuilder;"⟩ jdk_67_method_15_code (2 : Nat) (Option.some (Jvm.ClassFile.FieldType.object "java/lang/StringBuilder")), Jvm.Cond.code ⟨"java/lang/AbstractStringBuilder", "append", "(I)Ljava/lang/AbstractStringBuilder;"⟩ jdk_68_method_32_code (4 : Nat) (Option.some (Jvm.ClassFile.FieldType.object "java/lang/AbstractStringBuilder")), Jvm.Cond.code ⟨"java/lang/Integer", "stringSize", "(I)I"⟩ jdk_33_method_13_code (4 : Nat) (Option.some Jvm.ClassFile.FieldType.int), Jvm.Cond.code ⟨"java/lang/Integer", "getChars", "(II[B)I"⟩ jdk_33_method_12_code (7 : Nat) (Option.some Jvm.ClassFile.FieldType.int), Jvm.Cond.code ⟨"java/lang/AbstractStringBuilder", "newCapacity", "(I)I"⟩ jdk_68_method_10_code (6 : Nat) (Option.some Jvm.ClassFile.FieldType.int), Jvm.Cond.code ⟨"jdk/internal/util/ArraysSupport", "newLength", "(III)I"⟩ jdk_48_method_27_code (4 : Nat) (Option.some Jvm.ClassFile.FieldType.int), Jvm.Cond.code ⟨"java/lang/Math", "max", "(II)I"⟩ jdk_29_method_65_code (2 : Nat) (Option.some Jvm.ClassFile.FieldType.int), Jvm.Cond.code ⟨"java/util/Arrays", "copyOf", "([BI)[B"⟩ jdk_65_method_121_code (3 : Nat) (Option.some (Jvm.ClassFile.FieldType.array Jvm.ClassFile.FieldType.byte)), Jvm.Cond.code ⟨"com/example/bordereau/bordereau/archive/ProblemAtCellPinLaw", "digits", "(I)I"⟩ method_7_code (1 : Nat) (Option.some Jvm.ClassFile.FieldType.int), Jvm.Cond.code ⟨"com/example/bordereau/bordereau/archive/ProblemAtCellPinLaw", "digit", "(III)C"⟩ method_5_code (4 : Nat) (Option.some Jvm.ClassFile.FieldType.char), Jvm.Cond.code ⟨"com/example/bordereau/bordereau/archive/ProblemAtCellPinLaw", "pow10", "(I)I"⟩ method_6_code (1 : Nat) (Option.some Jvm.ClassFile.FieldType.int)]
set_option maxRecDepth 65536 in
theorem codes_eq : words1.filter isCode = codes1 := rfl
theorem w_codes : ∀ c ∈ words1.filter isCode, c.before args0 about1 = true := by
  rw [codes_eq]
  intro c hc
  simp only [codes1, List.mem_cons, List.not_mem_nil, or_false] at hc
  rcases hc with rfl | rfl | rfl | rfl | rfl | rfl | rfl | rfl | rfl | rfl | rfl | rfl | rfl | rfl | rfl | rfl | rfl | rfl | rfl | rfl | rfl | rfl | rfl | rfl | rfl | rfl | rfl | rfl | rfl | rfl | rfl | rfl | rfl | rfl | rfl | rfl | rfl | rfl | rfl | rfl | rfl | rfl | rfl | rfl | rfl | rfl | rfl | rfl | rfl | rfl | rfl | rfl
  · exact w_c0
  · exact w_c1
  · exact w_c2
  · exact w_c3
  · exact w_c4
  · exact w_c5
  · exact w_c6
  · exact w_c7
  · exact w_c8
  · exact w_c9
  · exact w_c10
  · exact w_c11
  · exact w_c12
  · exact w_c13
  · exact w_c14
  · exact w_c15
  · exact w_c16
  · exact w_c17
  · exact w_c18
  · exact w_c19
  · exact w_c20
  · exact w_c21
  · exact w_c22
  · exact w_c23
  · exact w_c24
  · exact w_c25
  · exact w_c26
  · exact w_c27
  · exact w_c28
  · exact w_c29
  · exact w_c30
  · exact w_c31
  · exact w_c32
  · exact w_c33
  · exact w_c34
  · exact w_c35
  · exact w_c36
  · exact w_c37
  · exact w_c38
  · exact w_c39
  · exact w_c40
  · exact w_c41
  · exact w_c42
  · exact w_c43
  · exact w_c44
  · exact w_c45
  · exact w_c46
  · exact w_c47
  · exact w_c48
  · exact w_c49
  · exact w_c50
  · exact w_c51
set_option maxRecDepth 65536 in
theorem w_t1 : (words1.take 24).all (fun c => isCode c || c.before args0 about1) = true := by decide +kernel
set_option maxRecDepth 65536 in
theorem w_t2 : ((words1.drop 24).take 24).all (fun c => isCode c || c.before args0 about1) = true := by decide +kernel
set_option maxRecDepth 65536 in
theorem w_t3 : (((words1.drop 24).drop 24).take 24).all (fun c => isCode c || c.before args0 about1) = true := by decide +kernel
set_option maxRecDepth 65536 in
theorem w_t4 : ((((words1.drop 24).drop 24).drop 24).take 24).all (fun c => isCode c || c.before args0 about1) = true := by decide +kernel
set_option maxRecDepth 65536 in
theorem w_t5 : (((((words1.drop 24).drop 24).drop 24).drop 24).take 24).all (fun c => isCode c || c.before args0 about1) = true := by decide +kernel
set_option maxRecDepth 65536 in
theorem w_t6 : ((((((words1.drop 24).drop 24).drop 24).drop 24).drop 24).take 24).all (fun c => isCode c || c.before args0 about1) = true := by decide +kernel
set_option maxRecDepth 65536 in
theorem w_t7 : (((((((words1.drop 24).drop 24).drop 24).drop 24).drop 24).drop 24).take 24).all (fun c => isCode c || c.before args0 about1) = true := by decide +kernel
set_option maxRecDepth 65536 in
theorem w_t8 : ((((((((words1.drop 24).drop 24).drop 24).drop 24).drop 24).drop 24).drop 24).take 24).all (fun c => isCode c || c.before args0 about1) = true := by decide +kernel
set_option maxRecDepth 65536 in
theorem w_t9 : (((((((((words1.drop 24).drop 24).drop 24).drop 24).drop 24).drop 24).drop 24).drop 24).take 24).all (fun c => isCode c || c.before args0 about1) = true := by decide +kernel
set_option maxRecDepth 65536 in
theorem w_t10 : ((((((((((words1.drop 24).drop 24).drop 24).drop 24).drop 24).drop 24).drop 24).drop 24).drop 24).take 24).all (fun c => isCode c || c.before args0 about1) = true := by decide +kernel
set_option maxRecDepth 65536 in
theorem w_t11 : (((((((((((words1.drop 24).drop 24).drop 24).drop 24).drop 24).drop 24).drop 24).drop 24).drop 24).drop 24).take 24).all (fun c => isCode c || c.before args0 about1) = true := by decide +kernel
set_option maxRecDepth 65536 in
theorem w_t12 : (((((((((((words1.drop 24).drop 24).drop 24).drop 24).drop 24).drop 24).drop 24).drop 24).drop 24).drop 24).drop 24).all (fun c => isCode c || c.before args0 about1) = true := by decide +kernel
theorem w_tables : (allAtoms (Jvm.Cond.code x code maxLocals ret :: tables_1)).before args0 about1 = true := by
  rw [allAtoms_all]
  show words1.all (fun c => c.before args0 about1) = true
  refine all_split ?_ w_codes
  rw [← List.take_append_drop 24 words1, List.all_append, w_t1, ← List.take_append_drop 24 (words1.drop 24), List.all_append, w_t2, ← List.take_append_drop 24 ((words1.drop 24).drop 24), List.all_append, w_t3, ← List.take_append_drop 24 (((words1.drop 24).drop 24).drop 24), List.all_append, w_t4, ← List.take_append_drop 24 ((((words1.drop 24).drop 24).drop 24).drop 24), List.all_append, w_t5, ← List.take_append_drop 24 (((((words1.drop 24).drop 24).drop 24).drop 24).drop 24), List.all_append, w_t6, ← List.take_append_drop 24 ((((((words1.drop 24).drop 24).drop 24).drop 24).drop 24).drop 24), List.all_append, w_t7, ← List.take_append_drop 24 (((((((words1.drop 24).drop 24).drop 24).drop 24).drop 24).drop 24).drop 24), List.all_append, w_t8, ← List.take_append_drop 24 ((((((((words1.drop 24).drop 24).drop 24).drop 24).drop 24).drop 24).drop 24).drop 24), List.all_append, w_t9, ← List.take_append_drop 24 (((((((((words1.drop 24).drop 24).drop 24).drop 24).drop 24).drop 24).drop 24).drop 24).drop 24), List.all_append, w_t10, ← List.take_append_drop 24 ((((((((((words1.drop 24).drop 24).drop 24).drop 24).drop 24).drop 24).drop 24).drop 24).drop 24).drop 24), List.all_append, w_t11, w_t12]
  rfl
set_option maxRecDepth 65536 in
theorem w_rest : rest_1_c.before args0 about1 = true := by decide +kernel
set_option maxRecDepth 65536 in
theorem w_case : (Jvm.Cond.and given_1 narrow_1).before args0 about1 = true := by decide +kernel
set_option maxRecDepth 65536 in
theorem w_consts : constsHeld consts_1 about1 := Jvm.Lit.constsHeldB_iff.mp (by decide +kernel)
theorem w_applies : (headSpec (Jvm.Cond.code x code maxLocals ret :: tables_1) room_1).applies x e0.platform about1 = true :=
  (Spec.applies_iff w_frames).mpr ⟨w_running, w_runnable, w_alone, w_named, w_hears, w_ripe, w_room, w_tables⟩
theorem atStart : AtStart classFile x code maxLocals ret World_1 tables_1 room_1 Calls_1 rest_1 Pre_1 launch0 p0 e0 about1 theMethod args0 below0 :=
  ⟨lists_1, trivial, launch0.admits_env _ _ _, launch0.least_env, fairChoices_fair.cas, fairChoices_fair.clock, w_frames, w_args, w_heap, w_applies, ⟨w_consts, trivial⟩, w_rest, w_case⟩
end start1
theorem witness_1 : WitnessClaimed_1 := ⟨start1.p0, start1.e0, start1.about1, start1.theMethod, start1.args0, start1.below0, start1.atStart⟩
end Jvm.Pilot.@@N@@
