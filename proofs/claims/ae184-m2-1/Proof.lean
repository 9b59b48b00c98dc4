import JvmDerived
import JvmDerived.Pilot.@@N@@Statement
import JvmDerived.Pilot.@@N@@Code
set_option linter.unusedVariables false
set_option linter.unusedSimpArgs false
namespace Jvm.RoadKit
open Sem ClassFile Op Lib Jvm.Stand Jvm.Free Jvm.LawKit
section New
variable {p : Program} {l : Launch} {e : Env} {R : Room} {s : State} {m : MethodId} {args : Array Value} {below : List Frame} {meth : Method} {c : Code} {T : State} {locs : List Loc} {cells slots : Nat}
theorem retI (X : Stand p l e R s m args below meth c T locs cells slots) (hx : p.tables.exec = Jvm.exec) {pc : Nat} {Ls : Array Slot} {z : Int32} {rest : List Value} (hret : meth.sig.returnType = some .int) (hd : decode c.code pc = .ok (.ireturn, 1)) {fs : List Frame}
    (hl : ∀ (f : JFrame) (acts : List Action), f.method = m → f.locked = none → f.entered = [] → (doReturn e (T.setTop f) acts (some (.int z))).1 = T.setFrames fs) : Steps p.tables e below (T.setTop (mkF m pc Ls (.int z :: rest))) (T.setFrames fs) :=
  retOut X hx hret rfl (Or.inl ⟨rfl, Or.inl rfl, z, rfl⟩) hd hl
theorem retL (X : Stand p l e R s m args below meth c T locs cells slots) (hx : p.tables.exec = Jvm.exec) {pc : Nat} {Ls : Array Slot} {z : Int64} {rest : List Value} (hret : meth.sig.returnType = some .long) (hd : decode c.code pc = .ok (.lreturn, 1)) {fs : List Frame}
    (hl : ∀ (f : JFrame) (acts : List Action), f.method = m → f.locked = none → f.entered = [] → (doReturn e (T.setTop f) acts (some (.long z))).1 = T.setFrames fs) : Steps p.tables e below (T.setTop (mkF m pc Ls (.long z :: rest))) (T.setFrames fs) :=
  retOut X hx hret rfl (Or.inr (Or.inl ⟨rfl, rfl, z, rfl⟩)) hd hl
theorem own_retD (X : Stand p l e R s m args below meth c T locs cells slots) (hx : p.tables.exec = Jvm.exec) {pc : Nat} {Ls : Array Slot} {z : UInt64} {rest : List Value} (hret : meth.sig.returnType = some .double) (hd : decode c.code pc = .ok (.dreturn, 1)) {fs : List Frame}
    (hl : ∀ (f : JFrame) (acts : List Action), f.method = m → f.locked = none → f.entered = [] → (doReturn e (T.setTop f) acts (some (.double z))).1 = T.setFrames fs) : Steps p.tables e below (T.setTop (mkF m pc Ls (.double z :: rest))) (T.setFrames fs) :=
  retOut X hx hret rfl (Or.inr (Or.inr (Or.inl ⟨rfl, rfl, z, rfl⟩))) hd hl
theorem own_nar {t : FieldType} {w : Value} (ht : t.isReference = true) (hw : w.isRef = true) : narrow t w = w := by
  cases t <;> first | (cases ht; done) | (cases w <;> first | rfl | (cases hw; done))
theorem retA (X : Stand p l e R s m args below meth c T locs cells slots) (hx : p.tables.exec = Jvm.exec) {pc : Nat} {Ls : Array Slot} {w : Value} {t : FieldType} {rest : List Value} (hret : meth.sig.returnType = some t) (ht : t.isReference = true) (hw : w.isRef = true) (hd : decode c.code pc = .ok (.areturn, 1)) {fs : List Frame}
    (hl : ∀ (f : JFrame) (acts : List Action), f.method = m → f.locked = none → f.entered = [] → (doReturn e (T.setTop f) acts (some w)).1 = T.setFrames fs) : Steps p.tables e below (T.setTop (mkF m pc Ls (w :: rest))) (T.setFrames fs) :=
  retOut X hx hret (own_nar ht hw) (Or.inr (Or.inr (Or.inr (Or.inr ⟨rfl, ht, hw⟩)))) hd hl
/-- the rest of a walk, as a predicate on where it stands -/
theorem own_open (K N : Nat) (Q : Option Value → Heap → List Loc → Prop) (hlocks : meth.locks = false) :
    ∃ G : State → JFrame → Prop,
      (∀ {T T' : State} {g g' : JFrame}, (∀ t, Steps p.tables e below (T'.setTop g') t → Steps p.tables e below (T.setTop g) t) → G T' g' → G T g) ∧
      (∀ {T : State} {g : JFrame} {locs : List Loc} {cells slots : Nat} {v : Option Value} {h : Heap}, Stand p l e R s m args below meth c T locs cells slots → (meth.sig.returnType = none → v = none) →
        (∀ fs, (∀ (f : JFrame) (acts : List Action), f.method = m → f.locked = none → f.entered = [] → (doReturn e (T.setTop f) acts v).1 = T.setFrames fs) → Steps p.tables e below (T.setTop g) (T.setFrames fs)) → T.heap = h → Q v h locs → cells ≤ K → slots ≤ N → G T g) ∧
      (∀ {T : State} {g : JFrame}, G T g → ∃ t o, Steps p.tables e below (T.setTop g) t ∧ t.status = .running ∧ Ended t below o ∧ ∃ v L, o = .returned v ∧ Q v t.heap L ∧ FrameEnd s o t L K N) := by
  refine ⟨fun T g => ∃ t o, Steps p.tables e below (T.setTop g) t ∧ t.status = .running ∧ Ended t below o ∧ ∃ v L, o = .returned v ∧ Q v t.heap L ∧ FrameEnd s o t L K N, ?_, ?_, fun h => h⟩
  · intro T T' g g' hs hG
    obtain ⟨t, o, h1, h2⟩ := hG
    exact ⟨t, o, hs t h1, h2⟩
  · intro T g locs cells slots v h X hv hst hT hQ hk hn
    obtain ⟨fs, hr, hrun, hended, hW, hsame⟩ := X.leave hv hlocks
    exact ⟨_, _, hst fs hr, hrun, hended, v, locs, rfl, by show Q v T.heap locs; rw [hT]; exact hQ, ⟨_, rfl⟩, hW, hsame.mono hk hn⟩
theorem own_openW (K N : Nat) (Q : Option Value → Heap → List Loc → Prop) (hlocks : meth.locks = false) :
    ∃ G : State → JFrame → Prop,
      (∀ {T T' : State} {g g' : JFrame}, (∀ t, Steps p.tables e below (T'.setTop g') t → Steps p.tables e below (T.setTop g) t) → G T' g' → G T g) ∧
      (∀ {T : State} {g : JFrame} {locs : List Loc} {cells slots : Nat} {v : Option Value} {h : Heap} {vm0 : Vm} {k0 : Nat}, Stand p l e R (s.setVm vm0) m args below meth c T locs cells slots → s.Since vm0 k0 → k0 ≤ h.size → (meth.sig.returnType = none → v = none) →
        (∀ fs, (∀ (f : JFrame) (acts : List Action), f.method = m → f.locked = none → f.entered = [] → (doReturn e (T.setTop f) acts v).1 = T.setFrames fs) → Steps p.tables e below (T.setTop g) (T.setFrames fs)) → T.heap = h → Q v h locs → cells ≤ K → slots ≤ N → G T g) ∧
      (∀ {T : State} {g : JFrame}, G T g → ∃ t o, Steps p.tables e below (T.setTop g) t ∧ t.status = .running ∧ Ended t below o ∧ ∃ v L, o = .returned v ∧ Q v t.heap L ∧ ReturnedEndW s o t L K N) := by
  refine ⟨fun T g => ∃ t o, Steps p.tables e below (T.setTop g) t ∧ t.status = .running ∧ Ended t below o ∧ ∃ v L, o = .returned v ∧ Q v t.heap L ∧ ReturnedEndW s o t L K N, ?_, ?_, fun h => h⟩
  · intro T T' g g' hs hG
    obtain ⟨t, o, h1, h2⟩ := hG
    exact ⟨t, o, hs t h1, h2⟩
  · intro T g locs cells slots v h vm0 k0 X hS hk0 hv hst hT hQ hk hn
    obtain ⟨fs, hr, hrun, hended, hW⟩ := X.leaveW hS (by rw [hT]; exact hk0) hv hlocks
    exact ⟨_, _, hst fs hr, hrun, hended, v, locs, rfl, by show Q v T.heap locs; rw [hT]; exact hQ, hW.1, hW.2.1, hW.2.2.1, hW.2.2.2.mono hk hn⟩
theorem own_at {j : Int32} {i : Nat} {vs : List Value} {d v : Value} (hj : j.toNatClampNeg = i) (h : vs.getD i d = v) : vs.getD j.toNatClampNeg d = v := hj ▸ h
theorem own_gen {n0 : Nat} (X : Stand p l e R s m args below meth c T locs cells slots) (N : Fr n0 locs) : ∃ lc, Stand p l e R s m args below meth c T lc cells slots ∧ Fr n0 lc := ⟨_, X, N⟩
theorem own_sl (a : Array Slot) : ∃ z, z = a := ⟨_, rfl⟩
theorem own_xlt {x y : Int32} : x < y ↔ x.toInt < y.toInt := Int32.lt_iff_toInt_lt
theorem own_xeq {x y : Int32} : x = y ↔ x.toInt = y.toInt := Int32.toInt_inj.symm
theorem own_xltL {x y : Int64} : x < y ↔ x.toInt < y.toInt := Int64.lt_iff_toInt_lt
theorem own_xeqL {x y : Int64} : x = y ↔ x.toInt = y.toInt := Int64.toInt_inj.symm
theorem own_old_le {Z : State} {n0 : Nat} {h : Heap} (O : Old Z n0 h) : n0 ≤ h.size := O.1 ▸ O.2.1
theorem own_oldne {Z : State} {n0 : Nat} {h : Heap} {a b : Addr} (O : Old Z n0 h) (q : a < Z.heap.size) (r : n0 ≤ b) : a ≠ b := O.ne q r
theorem own_fldI {Z : State} {args : Array Value} {t : Term} {C f d : String} {a : Addr} {k : Int32} (ht : t.eval args Z none [] Z = some (.ref a)) (h : (Cond.eq (.field t C f d) (.int k)).value args Z none Z [] = some true) : Fld Z Z.heap a C f d (.int k) := by
  refine Fld.start ?_
  rw [← fld_at (C := C) (n := f) (dd := d) ht]
  obtain ⟨x, y, h1, h2, h3, h4⟩ := cmp_v (Or.inl h)
  have h5 : y = .int k := Option.some.inj (h2.symm.trans (Term.int_eval k))
  subst h5
  obtain ⟨z, rfl⟩ := h4
  have := gotT (P := z = k) (by simp [Cond.value, h1, h2]) h
  rw [h1, this]
theorem own_fldD {Z : State} {args : Array Value} {t : Term} {C f d : String} {a : Addr} {k : Int64} {b : UInt64} (hb : k.toUInt64 = b) (ht : t.eval args Z none [] Z = some (.ref a)) (h : (Cond.eq (.field t C f d) (.op1 .bitsD (.long k))).value args Z none Z [] = some true) : Fld Z Z.heap a C f d (.double b) := by
  refine Fld.start ?_
  rw [← fld_at (C := C) (n := f) (dd := d) ht]
  obtain ⟨x, y, h1, h2, h3, h4⟩ := cmp_v (Or.inl h)
  have h5 : y = .double k.toUInt64 := Option.some.inj (h2.symm.trans rfl)
  subst h5
  obtain ⟨z, rfl⟩ := h4
  have := gotT (P := z = k.toUInt64) (by simp [Cond.value, h1, h2]) h
  rw [h1, this, hb]
theorem own_dnn {a b : UInt64} (ha : Jvm.Free.Fl.NoNaN64 a) (hb : FP.Core.DFin b) (hz : ¬ FP.Core.DZero b) : Jvm.Free.Fl.NoNaN64 (FP.ddiv a b) := by
  refine Jvm.Free.Fl.val64_no.mpr fun q => ?_
  have q2 := (FP.Core.quotient_nan FP.Core.b64 _ _).mp ((FP.Core.val64_ddiv a b).symm.trans q)
  rcases q2 with h | h | ⟨s, t, h1, h2⟩ | ⟨s, t, q, r, h1, h2⟩
  · exact Jvm.Free.Fl.val64_no.mp ha h
  · exact hb.ne_nan h
  · exact hb.ne_inf t h2
  · exact hz ⟨t, r, h2⟩
theorem own_i2dn (x : Int32) : Jvm.Free.Fl.NoNaN64 (FP.i2d x) := Jvm.Free.Fl.noNaN64_no.mpr (FP.Core.i2d_fin x).notNaN
theorem own_i2dz {x : Int32} (h : x ≠ 0) : ¬ FP.Core.DZero (FP.i2d x) := fun q => FP.Core.i2d_ne_zero h ((FP.Core.zero_bits2 _).mp q)
theorem own_and255 (x : Int32) : ¬ (x &&& (255 : Int32)) < 0 ∧ ¬ (255 : Int32) < (x &&& (255 : Int32)) := by
  have c1 := c_mask x (255 : Int32) 8 (by decide) (by decide)
  have q0 : (0 : Int32).toInt = 0 := by decide
  have q1 : (255 : Int32).toInt = 255 := by decide
  rw [own_xlt, own_xlt]
  omega
theorem own_l255 (x : Int64) : ¬ (x &&& (255 : Int64)).toInt32 < 0 ∧ ¬ (255 : Int32) < (x &&& (255 : Int64)).toInt32 := by
  have c1 := c_maskL x (255 : Int64) 8 (by decide) (by decide)
  have c2 := c_l2i (x &&& (255 : Int64))
  have r := rng32 (x &&& (255 : Int64)).toInt32
  have q0 : (0 : Int32).toInt = 0 := by decide
  have q1 : (255 : Int32).toInt = 255 := by decide
  rw [own_xlt, own_xlt]
  omega
theorem own_i2c {x : Int32} (h : ¬ x < 0 ∧ ¬ (255 : Int32) < x) : x.toUInt32.toUInt16.toUInt32.toInt32 = x := by
  have c1 := c_i2c x
  have q0 : (0 : Int32).toInt = 0 := by decide
  have q1 : (255 : Int32).toInt = 255 := by decide
  rw [own_xlt, own_xlt] at h
  rw [own_xeq]
  omega
theorem own_narc {x : Int32} (h : ¬ x < 0 ∧ ¬ (255 : Int32) < x) : nar .char x = x := own_i2c h
theorem own_nz {Z : State} {args : Array Value} {t : Term} {z : Int32} (ht : t.eval args Z none [] Z = some (.int z)) (h : (Cond.not (Cond.eq t (.int 0))).value args Z none Z [] = some true) : ¬ z = (0 : Int32) :=
  gotF (P := z = (0 : Int32)) (by simp [Cond.value, ht, Term.int_eval]) (not_v h)
theorem own_evI {Z : State} {args : Array Value} {u : Term} {k : Int32} (h : (Cond.eq u (.int k)).value args Z none Z [] = some true) : u.eval args Z none [] Z = some (.int k) := by
  obtain ⟨x, y, h1, h2, h3, h4⟩ := cmp_v (Or.inl h)
  have h5 : y = .int k := Option.some.inj (h2.symm.trans (Term.int_eval k))
  subst h5
  obtain ⟨z, rfl⟩ := h4
  have := gotT (P := z = k) (by simp [Cond.value, h1, h2]) h
  rw [h1, this]
theorem own_slotI {Z : State} {args : Array Value} {t : Term} {a : Addr} {i k : Int32} {cl : Cell} (ht : t.eval args Z none [] Z = some (.ref a)) (hc : Z.heap[a]? = some cl) (h : (Cond.eq (.elem t (.int i)) (.int k)).value args Z none Z [] = some true) : cl.slots[i.toNatClampNeg]? = some (.int k) :=
  (elem_in (own_evI h) ht (Term.int_eval i) hc).2
theorem own_lenI {Z : State} {args : Array Value} {t : Term} {a : Addr} {n : Int32} {cl : Cell} {ty : FieldType} (ht : t.eval args Z none [] Z = some (.ref a)) (A : Arr Z Z.heap a cl ty) (h : (Cond.eq (.length t) (.int n)).value args Z none Z [] = some true) : cl.slots.size < 2 ^ 31 ∧ cl.slots.size.toInt32 = n := by
  have hh := A.fin (Vm.Alike.refl _)
  have q := own_evI h
  simp only [Term.eval, ht, hh, Option.bind_eq_bind, Option.bind_some] at q
  split at q
  · rename_i hlt
    exact ⟨hlt, Value.int.inj (Option.some.inj q)⟩
  · cases q
theorem own_fldN {Z : State} {args : Array Value} {t : Term} {C f d : String} {a : Addr} (ht : t.eval args Z none [] Z = some (.ref a)) (h : (Cond.eq (.field t C f d) .null).value args Z none Z [] = some true) : Fld Z Z.heap a C f d .null := by
  refine Fld.start ?_
  rw [← fld_at (C := C) (n := f) (dd := d) ht]
  exact null_v h
theorem own_selpriv {Z s : State} {a0 args : Array Value} {y : MethodName} {n : Nat} (hZ : Z.Warmed39 s.vm) (wp : (Cond.privateMethod y).before a0 Z = true) (wi : (Cond.instanceMethod y).before a0 Z = true) (wk : (Cond.instantiable y.cls n).before a0 Z = true) (hy : y.cls ≠ "java/lang/invoke/MethodHandle" ∧ y.cls ≠ "java/lang/invoke/VarHandle") : (Cond.selects y.cls y y).before args s = true := by
  obtain ⟨c, k, h1, h2, -, h3, -⟩ := Cond.instantiable_spec (mv (s := s) (args := args) hZ wk)
  exact selects_self_of_private h1 h2 (Bool.or_eq_false_iff.mp h3).1 (Cond.privateMethod_at (mvP hZ wp (args := args))) (mv hZ wi) hy
theorem own_ne_arv {Z : State} {h : Heap} {a b : Addr} {C : String} {a0 : Array Value} {i : Nat} {k : ClassId} {ty : FieldType} {n : Int32} {vs : List Value} {dv : Value} (F : Exa Z h a C) (wi : (Cond.instantiable C i).before a0 Z = true) (V : Arv Z h b k ty n vs dv) : a ≠ b := by
  obtain ⟨cl, A, -⟩ := V
  exact ne_arr F wi A
theorem own_arr_keep {Z : State} {h h' : Heap} {a : Addr} {cl : Cell} {ty : FieldType} {ws : List Addr} (F : Arr Z h a cl ty) (K : Keep h h' ws) (q : a ∉ ws) : Arr Z h' a cl ty := ⟨K.2.1 a cl F.1 q, F.2⟩
section Arrays
variable {Z : State} {h : Heap} {a : Addr} {k : ClassId} {n : Int32} {vs : List Value} {dv : Value} {g : JFrame} {rest : List Value} {j : Int32} {v : Value}
theorem own_len {ty : FieldType} (X : Stand p l e R s m args below meth c T locs cells slots) (hx : p.tables.exec = Jvm.exec) (hZ : Z.Warmed39 s.vm) (eT : T.heap = h) (V : Arv Z h a k ty n vs dv) (hg : g.method = m) (hs : g.stack = .ref a :: rest) (hd : decode c.code g.pc = .ok (.arraylength, 1)) (target : State)
    (hr : Steps p.tables e below (T.setTop { g with pc := g.pc + 1, stack := .int n :: rest }) target) : Steps p.tables e below (T.setTop g) target := by
  obtain ⟨cl, A, -, S, N, -, -⟩ := V
  refine X.arraylength hx (by rw [eT]; exact A.1) (State.isArrayOf_alike hZ.alike A.2.1) hg hs hd target ?_
  rw [len_of S N]; exact hr
theorem own_ldI (X : Stand p l e R s m args below meth c T locs cells slots) (hx : p.tables.exec = Jvm.exec) (hZ : Z.Warmed39 s.vm) (eT : T.heap = h) (V : Arv Z h a k .int n vs dv) (hj : ¬ j < 0 ∧ j < n) (hv : vs.getD j.toNatClampNeg dv = v) (hg : g.method = m) (hs : g.stack = .int j :: .ref a :: rest) (hd : decode c.code g.pc = .ok (.iaload, 1)) (target : State)
    (hr : Steps p.tables e below (T.setTop { g with pc := g.pc + 1, stack := v :: rest }) target) : Steps p.tables e below (T.setTop g) target := by
  obtain ⟨cl, A, -, S, N, H, -⟩ := V
  have hin := inb_of S hj
  exact X.iaload hx (by rw [eT]; exact A.1) (State.isArrayOf_alike hZ.alike A.2.1) A.2.2 hin (H.at hin hv) hg hs hd target hr
theorem own_ldJ (X : Stand p l e R s m args below meth c T locs cells slots) (hx : p.tables.exec = Jvm.exec) (hZ : Z.Warmed39 s.vm) (eT : T.heap = h) (V : Arv Z h a k .long n vs dv) (hj : ¬ j < 0 ∧ j < n) (hv : vs.getD j.toNatClampNeg dv = v) (hg : g.method = m) (hs : g.stack = .int j :: .ref a :: rest) (hd : decode c.code g.pc = .ok (.laload, 1)) (target : State)
    (hr : Steps p.tables e below (T.setTop { g with pc := g.pc + 1, stack := v :: rest }) target) : Steps p.tables e below (T.setTop g) target := by
  obtain ⟨cl, A, -, S, N, H, -⟩ := V
  have hin := inb_of S hj
  exact X.laload hx (by rw [eT]; exact A.1) (State.isArrayOf_alike hZ.alike A.2.1) A.2.2 hin (H.at hin hv) hg hs hd target hr
theorem own_ldC (X : Stand p l e R s m args below meth c T locs cells slots) (hx : p.tables.exec = Jvm.exec) (hZ : Z.Warmed39 s.vm) (eT : T.heap = h) (V : Arv Z h a k .char n vs dv) (hj : ¬ j < 0 ∧ j < n) (hv : vs.getD j.toNatClampNeg dv = v) (hg : g.method = m) (hs : g.stack = .int j :: .ref a :: rest) (hd : decode c.code g.pc = .ok (.caload, 1)) (target : State)
    (hr : Steps p.tables e below (T.setTop { g with pc := g.pc + 1, stack := v :: rest }) target) : Steps p.tables e below (T.setTop g) target := by
  obtain ⟨cl, A, -, S, N, H, -⟩ := V
  have hin := inb_of S hj
  exact X.caload hx (by rw [eT]; exact A.1) (State.isArrayOf_alike hZ.alike A.2.1) A.2.2 hin (H.at hin hv) hg hs hd target hr
theorem own_ldB (X : Stand p l e R s m args below meth c T locs cells slots) (hx : p.tables.exec = Jvm.exec) (hZ : Z.Warmed39 s.vm) (eT : T.heap = h) (V : Arv Z h a k .byte n vs dv) (hj : ¬ j < 0 ∧ j < n) (hv : vs.getD j.toNatClampNeg dv = v) (hg : g.method = m) (hs : g.stack = .int j :: .ref a :: rest) (hd : decode c.code g.pc = .ok (.baload, 1)) (target : State)
    (hr : Steps p.tables e below (T.setTop { g with pc := g.pc + 1, stack := v :: rest }) target) : Steps p.tables e below (T.setTop g) target := by
  obtain ⟨cl, A, -, S, N, H, -⟩ := V
  have hin := inb_of S hj
  exact X.baloadBytes hx (by rw [eT]; exact A.1) (State.isArrayOf_alike hZ.alike A.2.1) A.2.2 hin (H.at hin hv) hg hs hd target hr
theorem own_ldR {ty : FieldType} (X : Stand p l e R s m args below meth c T locs cells slots) (hx : p.tables.exec = Jvm.exec) (hZ : Z.Warmed39 s.vm) (eT : T.heap = h) (V : Arv Z h a k ty n vs dv) (hj : ¬ j < 0 ∧ j < n) (hv : vs.getD j.toNatClampNeg dv = v) (hty : ty.isReference = true) (hg : g.method = m) (hs : g.stack = .int j :: .ref a :: rest) (hd : decode c.code g.pc = .ok (.aaload, 1)) (target : State)
    (hr : Steps p.tables e below (T.setTop { g with pc := g.pc + 1, stack := v :: rest }) target) : Steps p.tables e below (T.setTop g) target := by
  obtain ⟨cl, A, -, S, N, H, -⟩ := V
  have hin := inb_of S hj
  exact X.aaload hx (by rw [eT]; exact A.1) (State.isArrayOf_alike hZ.alike A.2.1) hty A.2.2 hin (H.at hin hv) hg hs hd target hr
theorem own_stI {x : Int32} (X : Stand p l e R s m args below meth c T locs cells slots) (hx : p.tables.exec = Jvm.exec) (hZ : Z.Warmed39 s.vm) (eT : T.heap = h) (V : Arv Z h a k .int n vs dv) (hj : ¬ j < 0 ∧ j < n) {i : Nat} (hji : j.toNatClampNeg = i) (hi : i < vs.length) (hg : g.method = m) (hs : g.stack = .int x :: .int j :: .ref a :: rest) (hd : decode c.code g.pc = .ok (.iastore, 1)) :
    ∃ T' h', Stand p l e R s m args below meth c T' (locs ++ [⟨a, j.toNatClampNeg⟩]) cells slots ∧ T'.heap = h' ∧ Wr h h' a j.toNatClampNeg (.int x) ∧ Arv Z h' a k .int n (vs.set i (.int x)) dv ∧ ∀ target, Steps p.tables e below (T'.setTop { g with pc := g.pc + 1, stack := rest }) target → Steps p.tables e below (T.setTop g) target := by
  obtain ⟨cl, A, q, S, N, H, Gf⟩ := V
  obtain ⟨T', h', X', e', W', st⟩ := stI X hx hZ eT A (inb_of S hj) hg hs hd
  exact ⟨T', h', X', e', W', Arv.set A q S N H Gf rfl W' i hji hi, st⟩
theorem own_stJ {x : Int64} (X : Stand p l e R s m args below meth c T locs cells slots) (hx : p.tables.exec = Jvm.exec) (hZ : Z.Warmed39 s.vm) (eT : T.heap = h) (V : Arv Z h a k .long n vs dv) (hj : ¬ j < 0 ∧ j < n) {i : Nat} (hji : j.toNatClampNeg = i) (hi : i < vs.length) (hg : g.method = m) (hs : g.stack = .long x :: .int j :: .ref a :: rest) (hd : decode c.code g.pc = .ok (.lastore, 1)) :
    ∃ T' h', Stand p l e R s m args below meth c T' (locs ++ [⟨a, j.toNatClampNeg⟩]) cells slots ∧ T'.heap = h' ∧ Wr h h' a j.toNatClampNeg (.long x) ∧ Arv Z h' a k .long n (vs.set i (.long x)) dv ∧ ∀ target, Steps p.tables e below (T'.setTop { g with pc := g.pc + 1, stack := rest }) target → Steps p.tables e below (T.setTop g) target := by
  obtain ⟨cl, A, q, S, N, H, Gf⟩ := V
  obtain ⟨T', h', X', e', W', st⟩ := stJ X hx hZ eT A (inb_of S hj) hg hs hd
  exact ⟨T', h', X', e', W', Arv.set A q S N H Gf rfl W' i hji hi, st⟩
theorem own_stC {x : Int32} (X : Stand p l e R s m args below meth c T locs cells slots) (hx : p.tables.exec = Jvm.exec) (hZ : Z.Warmed39 s.vm) (eT : T.heap = h) (V : Arv Z h a k .char n vs dv) (hj : ¬ j < 0 ∧ j < n) {i : Nat} (hji : j.toNatClampNeg = i) (hi : i < vs.length) (hg : g.method = m) (hs : g.stack = .int x :: .int j :: .ref a :: rest) (hd : decode c.code g.pc = .ok (.castore, 1)) :
    ∃ T' h', Stand p l e R s m args below meth c T' (locs ++ [⟨a, j.toNatClampNeg⟩]) cells slots ∧ T'.heap = h' ∧ Wr h h' a j.toNatClampNeg (.int (nar .char x)) ∧ Arv Z h' a k .char n (vs.set i (.int (nar .char x))) dv ∧ ∀ target, Steps p.tables e below (T'.setTop { g with pc := g.pc + 1, stack := rest }) target → Steps p.tables e below (T.setTop g) target := by
  obtain ⟨cl, A, q, S, N, H, Gf⟩ := V
  obtain ⟨T', h', X', e', W', st⟩ := stC X hx hZ eT A (inb_of S hj) hg hs hd
  exact ⟨T', h', X', e', W', Arv.set A q S N H Gf (fits_nar_char _) W' i hji hi, st⟩
theorem own_stB {x : Int32} (X : Stand p l e R s m args below meth c T locs cells slots) (hx : p.tables.exec = Jvm.exec) (hZ : Z.Warmed39 s.vm) (eT : T.heap = h) (V : Arv Z h a k .byte n vs dv) (hj : ¬ j < 0 ∧ j < n) {i : Nat} (hji : j.toNatClampNeg = i) (hi : i < vs.length) (hg : g.method = m) (hs : g.stack = .int x :: .int j :: .ref a :: rest) (hd : decode c.code g.pc = .ok (.bastore, 1)) :
    ∃ T' h', Stand p l e R s m args below meth c T' (locs ++ [⟨a, j.toNatClampNeg⟩]) cells slots ∧ T'.heap = h' ∧ Wr h h' a j.toNatClampNeg (.int (nar .byte x)) ∧ Arv Z h' a k .byte n (vs.set i (.int (nar .byte x))) dv ∧ ∀ target, Steps p.tables e below (T'.setTop { g with pc := g.pc + 1, stack := rest }) target → Steps p.tables e below (T.setTop g) target := by
  obtain ⟨cl, A, q, S, N, H, Gf⟩ := V
  obtain ⟨T', h', X', e', W', st⟩ := stB X hx hZ eT A (inb_of S hj) hg hs hd
  exact ⟨T', h', X', e', W', Arv.set A q S N H Gf (fits_nar_byte _) W' i hji hi, st⟩
theorem own_stR {K : String} (X : Stand p l e R s m args below meth c T locs cells slots) (hx : p.tables.exec = Jvm.exec) (hZ : Z.Warmed39 s.vm) (eT : T.heap = h) (V : Arv Z h a k (.object K) n vs dv) (hj : ¬ j < 0 ∧ j < n) {i : Nat} (hji : j.toNatClampNeg = i) (hi : i < vs.length) (hS : ∀ {cl : Cell}, Arr Z h a cl (.object K) → cl.cls = k → Sto Z h a v) (hg : g.method = m) (hs : g.stack = v :: .int j :: .ref a :: rest) (hd : decode c.code g.pc = .ok (.aastore, 1)) (hf : fits (.object K) v = true := by rfl) :
    ∃ T' h', Stand p l e R s m args below meth c T' (locs ++ [⟨a, j.toNatClampNeg⟩]) cells slots ∧ T'.heap = h' ∧ Wr h h' a j.toNatClampNeg v ∧ Arv Z h' a k (.object K) n (vs.set i v) dv ∧ ∀ target, Steps p.tables e below (T'.setTop { g with pc := g.pc + 1, stack := rest }) target → Steps p.tables e below (T.setTop g) target := by
  obtain ⟨cl, A, q, S, N, H, Gf⟩ := V
  obtain ⟨T', h', X', e', W', st⟩ := stR X hx hZ eT A (inb_of S hj) rfl (hS A q) hg hs hd
  exact ⟨T', h', X', e', W', Arv.set A q S N H Gf hf W' i hji hi, st⟩
end Arrays
end New
end Jvm.RoadKit
namespace Jvm.Pilot.@@N@@
open Jvm Jvm.ClassFile Sem Op Lib Jvm.Free Jvm.Stand Jvm.LawKit Jvm.RoadKit Bundle Jvm.Pilot.@@N@@.Jvm.D
abbrev cn_0 : String := "com/example/redeliver/redeliver/core/Outcome"
abbrev cn_1 : String := "Lcom/example/redeliver/redeliver/core/Outcome;"
abbrev cn_2 : String := "com/example/redeliver/redeliver/core/OutcomeIsRetriedPinLaw"
abbrev cn_3 : String := "java/lang/Enum"
abbrev cn_4 : String := "(I)Lcom/example/redeliver/redeliver/core/Outcome;"
def own_St (Z : State) (w_DELIVERED : Addr) (w_BAD_REQUEST : Addr) (w_UNAUTHORIZED : Addr) (w_FORBIDDEN : Addr) (w_NOT_FOUND : Addr) (w_GONE : Addr) (w_TIMED_OUT : Addr) (w_PAYLOAD_TOO_LARGE : Addr) (w_BUSY : Addr) (w_REDIRECTED : Addr) (w_SERVER_ERROR : Addr) (w_FAILED : Addr) (w_SOCKET_ERROR : Addr) (w_RESOLUTION_ERROR : Addr) (w_PROBATION : Addr) : Prop := (Sta Z Z.heap cn_0 "DELIVERED" cn_1 (.ref w_DELIVERED)) ∧ (Exa Z Z.heap w_DELIVERED cn_0) ∧ (Sta Z Z.heap cn_0 "BAD_REQUEST" cn_1 (.ref w_BAD_REQUEST)) ∧ (Exa Z Z.heap w_BAD_REQUEST cn_0) ∧ (Sta Z Z.heap cn_0 "UNAUTHORIZED" cn_1 (.ref w_UNAUTHORIZED)) ∧ (Exa Z Z.heap w_UNAUTHORIZED cn_0) ∧ (Sta Z Z.heap cn_0 "FORBIDDEN" cn_1 (.ref w_FORBIDDEN)) ∧ (Exa Z Z.heap w_FORBIDDEN cn_0) ∧ (Sta Z Z.heap cn_0 "NOT_FOUND" cn_1 (.ref w_NOT_FOUND)) ∧ (Exa Z Z.heap w_NOT_FOUND cn_0) ∧ (Sta Z Z.heap cn_0 "GONE" cn_1 (.ref w_GONE)) ∧ (Exa Z Z.heap w_GONE cn_0) ∧ (Sta Z Z.heap cn_0 "TIMED_OUT" cn_1 (.ref w_TIMED_OUT)) ∧ (Exa Z Z.heap w_TIMED_OUT cn_0) ∧ (Sta Z Z.heap cn_0 "PAYLOAD_TOO_LARGE" cn_1 (.ref w_PAYLOAD_TOO_LARGE)) ∧ (Exa Z Z.heap w_PAYLOAD_TOO_LARGE cn_0) ∧ (Sta Z Z.heap cn_0 "BUSY" cn_1 (.ref w_BUSY)) ∧ (Exa Z Z.heap w_BUSY cn_0) ∧ (Sta Z Z.heap cn_0 "REDIRECTED" cn_1 (.ref w_REDIRECTED)) ∧ (Exa Z Z.heap w_REDIRECTED cn_0) ∧ (Sta Z Z.heap cn_0 "SERVER_ERROR" cn_1 (.ref w_SERVER_ERROR)) ∧ (Exa Z Z.heap w_SERVER_ERROR cn_0) ∧ (Sta Z Z.heap cn_0 "FAILED" cn_1 (.ref w_FAILED)) ∧ (Exa Z Z.heap w_FAILED cn_0) ∧ (Sta Z Z.heap cn_0 "SOCKET_ERROR" cn_1 (.ref w_SOCKET_ERROR)) ∧ (Exa Z Z.heap w_SOCKET_ERROR cn_0) ∧ (Sta Z Z.heap cn_0 "RESOLUTION_ERROR" cn_1 (.ref w_RESOLUTION_ERROR)) ∧ (Exa Z Z.heap w_RESOLUTION_ERROR cn_0) ∧ (Sta Z Z.heap cn_0 "PROBATION" cn_1 (.ref w_PROBATION)) ∧ (Exa Z Z.heap w_PROBATION cn_0) ∧ (Fld Z Z.heap w_DELIVERED cn_3 "ordinal" "I" (.int 0)) ∧ (Fld Z Z.heap w_BAD_REQUEST cn_3 "ordinal" "I" (.int 1)) ∧ (Fld Z Z.heap w_UNAUTHORIZED cn_3 "ordinal" "I" (.int 2)) ∧ (Fld Z Z.heap w_FORBIDDEN cn_3 "ordinal" "I" (.int 3)) ∧ (Fld Z Z.heap w_GONE cn_3 "ordinal" "I" (.int 5)) ∧ (Fld Z Z.heap w_PAYLOAD_TOO_LARGE cn_3 "ordinal" "I" (.int 7)) ∧ (Fld Z Z.heap w_RESOLUTION_ERROR cn_3 "ordinal" "I" (.int 13)) ∧ (Fld Z Z.heap w_TIMED_OUT cn_3 "ordinal" "I" (.int 6)) ∧ (Fld Z Z.heap w_PROBATION cn_3 "ordinal" "I" (.int 14)) ∧ (Fld Z Z.heap w_FAILED cn_3 "ordinal" "I" (.int 11)) ∧ (Fld Z Z.heap w_SERVER_ERROR cn_3 "ordinal" "I" (.int 10)) ∧ (Fld Z Z.heap w_BUSY cn_3 "ordinal" "I" (.int 8)) ∧ (Fld Z Z.heap w_SOCKET_ERROR cn_3 "ordinal" "I" (.int 12)) ∧ (Fld Z Z.heap w_NOT_FOUND cn_3 "ordinal" "I" (.int 4)) ∧ (Fld Z Z.heap w_REDIRECTED cn_3 "ordinal" "I" (.int 9))
theorem own_St.k0 {Z : State} {w_DELIVERED : Addr} {w_BAD_REQUEST : Addr} {w_UNAUTHORIZED : Addr} {w_FORBIDDEN : Addr} {w_NOT_FOUND : Addr} {w_GONE : Addr} {w_TIMED_OUT : Addr} {w_PAYLOAD_TOO_LARGE : Addr} {w_BUSY : Addr} {w_REDIRECTED : Addr} {w_SERVER_ERROR : Addr} {w_FAILED : Addr} {w_SOCKET_ERROR : Addr} {w_RESOLUTION_ERROR : Addr} {w_PROBATION : Addr} (ST : own_St Z w_DELIVERED w_BAD_REQUEST w_UNAUTHORIZED w_FORBIDDEN w_NOT_FOUND w_GONE w_TIMED_OUT w_PAYLOAD_TOO_LARGE w_BUSY w_REDIRECTED w_SERVER_ERROR w_FAILED w_SOCKET_ERROR w_RESOLUTION_ERROR w_PROBATION) : Sta Z Z.heap cn_0 "DELIVERED" cn_1 (.ref w_DELIVERED) := ST.1
theorem own_St.k1 {Z : State} {w_DELIVERED : Addr} {w_BAD_REQUEST : Addr} {w_UNAUTHORIZED : Addr} {w_FORBIDDEN : Addr} {w_NOT_FOUND : Addr} {w_GONE : Addr} {w_TIMED_OUT : Addr} {w_PAYLOAD_TOO_LARGE : Addr} {w_BUSY : Addr} {w_REDIRECTED : Addr} {w_SERVER_ERROR : Addr} {w_FAILED : Addr} {w_SOCKET_ERROR : Addr} {w_RESOLUTION_ERROR : Addr} {w_PROBATION : Addr} (ST : own_St Z w_DELIVERED w_BAD_REQUEST w_UNAUTHORIZED w_FORBIDDEN w_NOT_FOUND w_GONE w_TIMED_OUT w_PAYLOAD_TOO_LARGE w_BUSY w_REDIRECTED w_SERVER_ERROR w_FAILED w_SOCKET_ERROR w_RESOLUTION_ERROR w_PROBATION) : Exa Z Z.heap w_DELIVERED cn_0 := ST.2.1
theorem own_St.k2 {Z : State} {w_DELIVERED : Addr} {w_BAD_REQUEST : Addr} {w_UNAUTHORIZED : Addr} {w_FORBIDDEN : Addr} {w_NOT_FOUND : Addr} {w_GONE : Addr} {w_TIMED_OUT : Addr} {w_PAYLOAD_TOO_LARGE : Addr} {w_BUSY : Addr} {w_REDIRECTED : Addr} {w_SERVER_ERROR : Addr} {w_FAILED : Addr} {w_SOCKET_ERROR : Addr} {w_RESOLUTION_ERROR : Addr} {w_PROBATION : Addr} (ST : own_St Z w_DELIVERED w_BAD_REQUEST w_UNAUTHORIZED w_FORBIDDEN w_NOT_FOUND w_GONE w_TIMED_OUT w_PAYLOAD_TOO_LARGE w_BUSY w_REDIRECTED w_SERVER_ERROR w_FAILED w_SOCKET_ERROR w_RESOLUTION_ERROR w_PROBATION) : Sta Z Z.heap cn_0 "BAD_REQUEST" cn_1 (.ref w_BAD_REQUEST) := ST.2.2.1
theorem own_St.k3 {Z : State} {w_DELIVERED : Addr} {w_BAD_REQUEST : Addr} {w_UNAUTHORIZED : Addr} {w_FORBIDDEN : Addr} {w_NOT_FOUND : Addr} {w_GONE : Addr} {w_TIMED_OUT : Addr} {w_PAYLOAD_TOO_LARGE : Addr} {w_BUSY : Addr} {w_REDIRECTED : Addr} {w_SERVER_ERROR : Addr} {w_FAILED : Addr} {w_SOCKET_ERROR : Addr} {w_RESOLUTION_ERROR : Addr} {w_PROBATION : Addr} (ST : own_St Z w_DELIVERED w_BAD_REQUEST w_UNAUTHORIZED w_FORBIDDEN w_NOT_FOUND w_GONE w_TIMED_OUT w_PAYLOAD_TOO_LARGE w_BUSY w_REDIRECTED w_SERVER_ERROR w_FAILED w_SOCKET_ERROR w_RESOLUTION_ERROR w_PROBATION) : Exa Z Z.heap w_BAD_REQUEST cn_0 := ST.2.2.2.1
theorem own_St.k4 {Z : State} {w_DELIVERED : Addr} {w_BAD_REQUEST : Addr} {w_UNAUTHORIZED : Addr} {w_FORBIDDEN : Addr} {w_NOT_FOUND : Addr} {w_GONE : Addr} {w_TIMED_OUT : Addr} {w_PAYLOAD_TOO_LARGE : Addr} {w_BUSY : Addr} {w_REDIRECTED : Addr} {w_SERVER_ERROR : Addr} {w_FAILED : Addr} {w_SOCKET_ERROR : Addr} {w_RESOLUTION_ERROR : Addr} {w_PROBATION : Addr} (ST : own_St Z w_DELIVERED w_BAD_REQUEST w_UNAUTHORIZED w_FORBIDDEN w_NOT_FOUND w_GONE w_TIMED_OUT w_PAYLOAD_TOO_LARGE w_BUSY w_REDIRECTED w_SERVER_ERROR w_FAILED w_SOCKET_ERROR w_RESOLUTION_ERROR w_PROBATION) : Sta Z Z.heap cn_0 "UNAUTHORIZED" cn_1 (.ref w_UNAUTHORIZED) := ST.2.2.2.2.1
theorem own_St.k5 {Z : State} {w_DELIVERED : Addr} {w_BAD_REQUEST : Addr} {w_UNAUTHORIZED : Addr} {w_FORBIDDEN : Addr} {w_NOT_FOUND : Addr} {w_GONE : Addr} {w_TIMED_OUT : Addr} {w_PAYLOAD_TOO_LARGE : Addr} {w_BUSY : Addr} {w_REDIRECTED : Addr} {w_SERVER_ERROR : Addr} {w_FAILED : Addr} {w_SOCKET_ERROR : Addr} {w_RESOLUTION_ERROR : Addr} {w_PROBATION : Addr} (ST : own_St Z w_DELIVERED w_BAD_REQUEST w_UNAUTHORIZED w_FORBIDDEN w_NOT_FOUND w_GONE w_TIMED_OUT w_PAYLOAD_TOO_LARGE w_BUSY w_REDIRECTED w_SERVER_ERROR w_FAILED w_SOCKET_ERROR w_RESOLUTION_ERROR w_PROBATION) : Exa Z Z.heap w_UNAUTHORIZED cn_0 := ST.2.2.2.2.2.1
theorem own_St.k6 {Z : State} {w_DELIVERED : Addr} {w_BAD_REQUEST : Addr} {w_UNAUTHORIZED : Addr} {w_FORBIDDEN : Addr} {w_NOT_FOUND : Addr} {w_GONE : Addr} {w_TIMED_OUT : Addr} {w_PAYLOAD_TOO_LARGE : Addr} {w_BUSY : Addr} {w_REDIRECTED : Addr} {w_SERVER_ERROR : Addr} {w_FAILED : Addr} {w_SOCKET_ERROR : Addr} {w_RESOLUTION_ERROR : Addr} {w_PROBATION : Addr} (ST : own_St Z w_DELIVERED w_BAD_REQUEST w_UNAUTHORIZED w_FORBIDDEN w_NOT_FOUND w_GONE w_TIMED_OUT w_PAYLOAD_TOO_LARGE w_BUSY w_REDIRECTED w_SERVER_ERROR w_FAILED w_SOCKET_ERROR w_RESOLUTION_ERROR w_PROBATION) : Sta Z Z.heap cn_0 "FORBIDDEN" cn_1 (.ref w_FORBIDDEN) := ST.2.2.2.2.2.2.1
theorem own_St.k7 {Z : State} {w_DELIVERED : Addr} {w_BAD_REQUEST : Addr} {w_UNAUTHORIZED : Addr} {w_FORBIDDEN : Addr} {w_NOT_FOUND : Addr} {w_GONE : Addr} {w_TIMED_OUT : Addr} {w_PAYLOAD_TOO_LARGE : Addr} {w_BUSY : Addr} {w_REDIRECTED : Addr} {w_SERVER_ERROR : Addr} {w_FAILED : Addr} {w_SOCKET_ERROR : Addr} {w_RESOLUTION_ERROR : Addr} {w_PROBATION : Addr} (ST : own_St Z w_DELIVERED w_BAD_REQUEST w_UNAUTHORIZED w_FORBIDDEN w_NOT_FOUND w_GONE w_TIMED_OUT w_PAYLOAD_TOO_LARGE w_BUSY w_REDIRECTED w_SERVER_ERROR w_FAILED w_SOCKET_ERROR w_RESOLUTION_ERROR w_PROBATION) : Exa Z Z.heap w_FORBIDDEN cn_0 := ST.2.2.2.2.2.2.2.1
theorem own_St.k8 {Z : State} {w_DELIVERED : Addr} {w_BAD_REQUEST : Addr} {w_UNAUTHORIZED : Addr} {w_FORBIDDEN : Addr} {w_NOT_FOUND : Addr} {w_GONE : Addr} {w_TIMED_OUT : Addr} {w_PAYLOAD_TOO_LARGE : Addr} {w_BUSY : Addr} {w_REDIRECTED : Addr} {w_SERVER_ERROR : Addr} {w_FAILED : Addr} {w_SOCKET_ERROR : Addr} {w_RESOLUTION_ERROR : Addr} {w_PROBATION : Addr} (ST : own_St Z w_DELIVERED w_BAD_REQUEST w_UNAUTHORIZED w_FORBIDDEN w_NOT_FOUND w_GONE w_TIMED_OUT w_PAYLOAD_TOO_LARGE w_BUSY w_REDIRECTED w_SERVER_ERROR w_FAILED w_SOCKET_ERROR w_RESOLUTION_ERROR w_PROBATION) : Sta Z Z.heap cn_0 "NOT_FOUND" cn_1 (.ref w_NOT_FOUND) := ST.2.2.2.2.2.2.2.2.1
theorem own_St.k9 {Z : State} {w_DELIVERED : Addr} {w_BAD_REQUEST : Addr} {w_UNAUTHORIZED : Addr} {w_FORBIDDEN : Addr} {w_NOT_FOUND : Addr} {w_GONE : Addr} {w_TIMED_OUT : Addr} {w_PAYLOAD_TOO_LARGE : Addr} {w_BUSY : Addr} {w_REDIRECTED : Addr} {w_SERVER_ERROR : Addr} {w_FAILED : Addr} {w_SOCKET_ERROR : Addr} {w_RESOLUTION_ERROR : Addr} {w_PROBATION : Addr} (ST : own_St Z w_DELIVERED w_BAD_REQUEST w_UNAUTHORIZED w_FORBIDDEN w_NOT_FOUND w_GONE w_TIMED_OUT w_PAYLOAD_TOO_LARGE w_BUSY w_REDIRECTED w_SERVER_ERROR w_FAILED w_SOCKET_ERROR w_RESOLUTION_ERROR w_PROBATION) : Exa Z Z.heap w_NOT_FOUND cn_0 := ST.2.2.2.2.2.2.2.2.2.1
theorem own_St.k10 {Z : State} {w_DELIVERED : Addr} {w_BAD_REQUEST : Addr} {w_UNAUTHORIZED : Addr} {w_FORBIDDEN : Addr} {w_NOT_FOUND : Addr} {w_GONE : Addr} {w_TIMED_OUT : Addr} {w_PAYLOAD_TOO_LARGE : Addr} {w_BUSY : Addr} {w_REDIRECTED : Addr} {w_SERVER_ERROR : Addr} {w_FAILED : Addr} {w_SOCKET_ERROR : Addr} {w_RESOLUTION_ERROR : Addr} {w_PROBATION : Addr} (ST : own_St Z w_DELIVERED w_BAD_REQUEST w_UNAUTHORIZED w_FORBIDDEN w_NOT_FOUND w_GONE w_TIMED_OUT w_PAYLOAD_TOO_LARGE w_BUSY w_REDIRECTED w_SERVER_ERROR w_FAILED w_SOCKET_ERROR w_RESOLUTION_ERROR w_PROBATION) : Sta Z Z.heap cn_0 "GONE" cn_1 (.ref w_GONE) := ST.2.2.2.2.2.2.2.2.2.2.1
theorem own_St.k11 {Z : State} {w_DELIVERED : Addr} {w_BAD_REQUEST : Addr} {w_UNAUTHORIZED : Addr} {w_FORBIDDEN : Addr} {w_NOT_FOUND : Addr} {w_GONE : Addr} {w_TIMED_OUT : Addr} {w_PAYLOAD_TOO_LARGE : Addr} {w_BUSY : Addr} {w_REDIRECTED : Addr} {w_SERVER_ERROR : Addr} {w_FAILED : Addr} {w_SOCKET_ERROR : Addr} {w_RESOLUTION_ERROR : Addr} {w_PROBATION : Addr} (ST : own_St Z w_DELIVERED w_BAD_REQUEST w_UNAUTHORIZED w_FORBIDDEN w_NOT_FOUND w_GONE w_TIMED_OUT w_PAYLOAD_TOO_LARGE w_BUSY w_REDIRECTED w_SERVER_ERROR w_FAILED w_SOCKET_ERROR w_RESOLUTION_ERROR w_PROBATION) : Exa Z Z.heap w_GONE cn_0 := ST.2.2.2.2.2.2.2.2.2.2.2.1
theorem own_St.k12 {Z : State} {w_DELIVERED : Addr} {w_BAD_REQUEST : Addr} {w_UNAUTHORIZED : Addr} {w_FORBIDDEN : Addr} {w_NOT_FOUND : Addr} {w_GONE : Addr} {w_TIMED_OUT : Addr} {w_PAYLOAD_TOO_LARGE : Addr} {w_BUSY : Addr} {w_REDIRECTED : Addr} {w_SERVER_ERROR : Addr} {w_FAILED : Addr} {w_SOCKET_ERROR : Addr} {w_RESOLUTION_ERROR : Addr} {w_PROBATION : Addr} (ST : own_St Z w_DELIVERED w_BAD_REQUEST w_UNAUTHORIZED w_FORBIDDEN w_NOT_FOUND w_GONE w_TIMED_OUT w_PAYLOAD_TOO_LARGE w_BUSY w_REDIRECTED w_SERVER_ERROR w_FAILED w_SOCKET_ERROR w_RESOLUTION_ERROR w_PROBATION) : Sta Z Z.heap cn_0 "TIMED_OUT" cn_1 (.ref w_TIMED_OUT) := ST.2.2.2.2.2.2.2.2.2.2.2.2.1
theorem own_St.k13 {Z : State} {w_DELIVERED : Addr} {w_BAD_REQUEST : Addr} {w_UNAUTHORIZED : Addr} {w_FORBIDDEN : Addr} {w_NOT_FOUND : Addr} {w_GONE : Addr} {w_TIMED_OUT : Addr} {w_PAYLOAD_TOO_LARGE : Addr} {w_BUSY : Addr} {w_REDIRECTED : Addr} {w_SERVER_ERROR : Addr} {w_FAILED : Addr} {w_SOCKET_ERROR : Addr} {w_RESOLUTION_ERROR : Addr} {w_PROBATION : Addr} (ST : own_St Z w_DELIVERED w_BAD_REQUEST w_UNAUTHORIZED w_FORBIDDEN w_NOT_FOUND w_GONE w_TIMED_OUT w_PAYLOAD_TOO_LARGE w_BUSY w_REDIRECTED w_SERVER_ERROR w_FAILED w_SOCKET_ERROR w_RESOLUTION_ERROR w_PROBATION) : Exa Z Z.heap w_TIMED_OUT cn_0 := ST.2.2.2.2.2.2.2.2.2.2.2.2.2.1
theorem own_St.k14 {Z : State} {w_DELIVERED : Addr} {w_BAD_REQUEST : Addr} {w_UNAUTHORIZED : Addr} {w_FORBIDDEN : Addr} {w_NOT_FOUND : Addr} {w_GONE : Addr} {w_TIMED_OUT : Addr} {w_PAYLOAD_TOO_LARGE : Addr} {w_BUSY : Addr} {w_REDIRECTED : Addr} {w_SERVER_ERROR : Addr} {w_FAILED : Addr} {w_SOCKET_ERROR : Addr} {w_RESOLUTION_ERROR : Addr} {w_PROBATION : Addr} (ST : own_St Z w_DELIVERED w_BAD_REQUEST w_UNAUTHORIZED w_FORBIDDEN w_NOT_FOUND w_GONE w_TIMED_OUT w_PAYLOAD_TOO_LARGE w_BUSY w_REDIRECTED w_SERVER_ERROR w_FAILED w_SOCKET_ERROR w_RESOLUTION_ERROR w_PROBATION) : Sta Z Z.heap cn_0 "PAYLOAD_TOO_LARGE" cn_1 (.ref w_PAYLOAD_TOO_LARGE) := ST.2.2.2.2.2.2.2.2.2.2.2.2.2.2.1
theorem own_St.k15 {Z : State} {w_DELIVERED : Addr} {w_BAD_REQUEST : Addr} {w_UNAUTHORIZED : Addr} {w_FORBIDDEN : Addr} {w_NOT_FOUND : Addr} {w_GONE : Addr} {w_TIMED_OUT : Addr} {w_PAYLOAD_TOO_LARGE : Addr} {w_BUSY : Addr} {w_REDIRECTED : Addr} {w_SERVER_ERROR : Addr} {w_FAILED : Addr} {w_SOCKET_ERROR : Addr} {w_RESOLUTION_ERROR : Addr} {w_PROBATION : Addr} (ST : own_St Z w_DELIVERED w_BAD_REQUEST w_UNAUTHORIZED w_FORBIDDEN w_NOT_FOUND w_GONE w_TIMED_OUT w_PAYLOAD_TOO_LARGE w_BUSY w_REDIRECTED w_SERVER_ERROR w_FAILED w_SOCKET_ERROR w_RESOLUTION_ERROR w_PROBATION) : Exa Z Z.heap w_PAYLOAD_TOO_LARGE cn_0 := ST.2.2.2.2.2.2.2.2.2.2.2.2.2.2.2.1
theorem own_St.k16 {Z : State} {w_DELIVERED : Addr} {w_BAD_REQUEST : Addr} {w_UNAUTHORIZED : Addr} {w_FORBIDDEN : Addr} {w_NOT_FOUND : Addr} {w_GONE : Addr} {w_TIMED_OUT : Addr} {w_PAYLOAD_TOO_LARGE : Addr} {w_BUSY : Addr} {w_REDIRECTED : Addr} {w_SERVER_ERROR : Addr} {w_FAILED : Addr} {w_SOCKET_ERROR : Addr} {w_RESOLUTION_ERROR : Addr} {w_PROBATION : Addr} (ST : own_St Z w_DELIVERED w_BAD_REQUEST w_UNAUTHORIZED w_FORBIDDEN w_NOT_FOUND w_GONE w_TIMED_OUT w_PAYLOAD_TOO_LARGE w_BUSY w_REDIRECTED w_SERVER_ERROR w_FAILED w_SOCKET_ERROR w_RESOLUTION_ERROR w_PROBATION) : Sta Z Z.heap cn_0 "BUSY" cn_1 (.ref w_BUSY) := ST.2.2.2.2.2.2.2.2.2.2.2.2.2.2.2.2.1
theorem own_St.k17 {Z : State} {w_DELIVERED : Addr} {w_BAD_REQUEST : Addr} {w_UNAUTHORIZED : Addr} {w_FORBIDDEN : Addr} {w_NOT_FOUND : Addr} {w_GONE : Addr} {w_TIMED_OUT : Addr} {w_PAYLOAD_TOO_LARGE : Addr} {w_BUSY : Addr} {w_REDIRECTED : Addr} {w_SERVER_ERROR : Addr} {w_FAILED : Addr} {w_SOCKET_ERROR : Addr} {w_RESOLUTION_ERROR : Addr} {w_PROBATION : Addr} (ST : own_St Z w_DELIVERED w_BAD_REQUEST w_UNAUTHORIZED w_FORBIDDEN w_NOT_FOUND w_GONE w_TIMED_OUT w_PAYLOAD_TOO_LARGE w_BUSY w_REDIRECTED w_SERVER_ERROR w_FAILED w_SOCKET_ERROR w_RESOLUTION_ERROR w_PROBATION) : Exa Z Z.heap w_BUSY cn_0 := ST.2.2.2.2.2.2.2.2.2.2.2.2.2.2.2.2.2.1
theorem own_St.k18 {Z : State} {w_DELIVERED : Addr} {w_BAD_REQUEST : Addr} {w_UNAUTHORIZED : Addr} {w_FORBIDDEN : Addr} {w_NOT_FOUND : Addr} {w_GONE : Addr} {w_TIMED_OUT : Addr} {w_PAYLOAD_TOO_LARGE : Addr} {w_BUSY : Addr} {w_REDIRECTED : Addr} {w_SERVER_ERROR : Addr} {w_FAILED : Addr} {w_SOCKET_ERROR : Addr} {w_RESOLUTION_ERROR : Addr} {w_PROBATION : Addr} (ST : own_St Z w_DELIVERED w_BAD_REQUEST w_UNAUTHORIZED w_FORBIDDEN w_NOT_FOUND w_GONE w_TIMED_OUT w_PAYLOAD_TOO_LARGE w_BUSY w_REDIRECTED w_SERVER_ERROR w_FAILED w_SOCKET_ERROR w_RESOLUTION_ERROR w_PROBATION) : Sta Z Z.heap cn_0 "REDIRECTED" cn_1 (.ref w_REDIRECTED) := ST.2.2.2.2.2.2.2.2.2.2.2.2.2.2.2.2.2.2.1
theorem own_St.k19 {Z : State} {w_DELIVERED : Addr} {w_BAD_REQUEST : Addr} {w_UNAUTHORIZED : Addr} {w_FORBIDDEN : Addr} {w_NOT_FOUND : Addr} {w_GONE : Addr} {w_TIMED_OUT : Addr} {w_PAYLOAD_TOO_LARGE : Addr} {w_BUSY : Addr} {w_REDIRECTED : Addr} {w_SERVER_ERROR : Addr} {w_FAILED : Addr} {w_SOCKET_ERROR : Addr} {w_RESOLUTION_ERROR : Addr} {w_PROBATION : Addr} (ST : own_St Z w_DELIVERED w_BAD_REQUEST w_UNAUTHORIZED w_FORBIDDEN w_NOT_FOUND w_GONE w_TIMED_OUT w_PAYLOAD_TOO_LARGE w_BUSY w_REDIRECTED w_SERVER_ERROR w_FAILED w_SOCKET_ERROR w_RESOLUTION_ERROR w_PROBATION) : Exa Z Z.heap w_REDIRECTED cn_0 := ST.2.2.2.2.2.2.2.2.2.2.2.2.2.2.2.2.2.2.2.1
theorem own_St.k20 {Z : State} {w_DELIVERED : Addr} {w_BAD_REQUEST : Addr} {w_UNAUTHORIZED : Addr} {w_FORBIDDEN : Addr} {w_NOT_FOUND : Addr} {w_GONE : Addr} {w_TIMED_OUT : Addr} {w_PAYLOAD_TOO_LARGE : Addr} {w_BUSY : Addr} {w_REDIRECTED : Addr} {w_SERVER_ERROR : Addr} {w_FAILED : Addr} {w_SOCKET_ERROR : Addr} {w_RESOLUTION_ERROR : Addr} {w_PROBATION : Addr} (ST : own_St Z w_DELIVERED w_BAD_REQUEST w_UNAUTHORIZED w_FORBIDDEN w_NOT_FOUND w_GONE w_TIMED_OUT w_PAYLOAD_TOO_LARGE w_BUSY w_REDIRECTED w_SERVER_ERROR w_FAILED w_SOCKET_ERROR w_RESOLUTION_ERROR w_PROBATION) : Sta Z Z.heap cn_0 "SERVER_ERROR" cn_1 (.ref w_SERVER_ERROR) := ST.2.2.2.2.2.2.2.2.2.2.2.2.2.2.2.2.2.2.2.2.1
theorem own_St.k21 {Z : State} {w_DELIVERED : Addr} {w_BAD_REQUEST : Addr} {w_UNAUTHORIZED : Addr} {w_FORBIDDEN : Addr} {w_NOT_FOUND : Addr} {w_GONE : Addr} {w_TIMED_OUT : Addr} {w_PAYLOAD_TOO_LARGE : Addr} {w_BUSY : Addr} {w_REDIRECTED : Addr} {w_SERVER_ERROR : Addr} {w_FAILED : Addr} {w_SOCKET_ERROR : Addr} {w_RESOLUTION_ERROR : Addr} {w_PROBATION : Addr} (ST : own_St Z w_DELIVERED w_BAD_REQUEST w_UNAUTHORIZED w_FORBIDDEN w_NOT_FOUND w_GONE w_TIMED_OUT w_PAYLOAD_TOO_LARGE w_BUSY w_REDIRECTED w_SERVER_ERROR w_FAILED w_SOCKET_ERROR w_RESOLUTION_ERROR w_PROBATION) : Exa Z Z.heap w_SERVER_ERROR cn_0 := ST.2.2.2.2.2.2.2.2.2.2.2.2.2.2.2.2.2.2.2.2.2.1
theorem own_St.k22 {Z : State} {w_DELIVERED : Addr} {w_BAD_REQUEST : Addr} {w_UNAUTHORIZED : Addr} {w_FORBIDDEN : Addr} {w_NOT_FOUND : Addr} {w_GONE : Addr} {w_TIMED_OUT : Addr} {w_PAYLOAD_TOO_LARGE : Addr} {w_BUSY : Addr} {w_REDIRECTED : Addr} {w_SERVER_ERROR : Addr} {w_FAILED : Addr} {w_SOCKET_ERROR : Addr} {w_RESOLUTION_ERROR : Addr} {w_PROBATION : Addr} (ST : own_St Z w_DELIVERED w_BAD_REQUEST w_UNAUTHORIZED w_FORBIDDEN w_NOT_FOUND w_GONE w_TIMED_OUT w_PAYLOAD_TOO_LARGE w_BUSY w_REDIRECTED w_SERVER_ERROR w_FAILED w_SOCKET_ERROR w_RESOLUTION_ERROR w_PROBATION) : Sta Z Z.heap cn_0 "FAILED" cn_1 (.ref w_FAILED) := ST.2.2.2.2.2.2.2.2.2.2.2.2.2.2.2.2.2.2.2.2.2.2.1
theorem own_St.k23 {Z : State} {w_DELIVERED : Addr} {w_BAD_REQUEST : Addr} {w_UNAUTHORIZED : Addr} {w_FORBIDDEN : Addr} {w_NOT_FOUND : Addr} {w_GONE : Addr} {w_TIMED_OUT : Addr} {w_PAYLOAD_TOO_LARGE : Addr} {w_BUSY : Addr} {w_REDIRECTED : Addr} {w_SERVER_ERROR : Addr} {w_FAILED : Addr} {w_SOCKET_ERROR : Addr} {w_RESOLUTION_ERROR : Addr} {w_PROBATION : Addr} (ST : own_St Z w_DELIVERED w_BAD_REQUEST w_UNAUTHORIZED w_FORBIDDEN w_NOT_FOUND w_GONE w_TIMED_OUT w_PAYLOAD_TOO_LARGE w_BUSY w_REDIRECTED w_SERVER_ERROR w_FAILED w_SOCKET_ERROR w_RESOLUTION_ERROR w_PROBATION) : Exa Z Z.heap w_FAILED cn_0 := ST.2.2.2.2.2.2.2.2.2.2.2.2.2.2.2.2.2.2.2.2.2.2.2.1
theorem own_St.k24 {Z : State} {w_DELIVERED : Addr} {w_BAD_REQUEST : Addr} {w_UNAUTHORIZED : Addr} {w_FORBIDDEN : Addr} {w_NOT_FOUND : Addr} {w_GONE : Addr} {w_TIMED_OUT : Addr} {w_PAYLOAD_TOO_LARGE : Addr} {w_BUSY : Addr} {w_REDIRECTED : Addr} {w_SERVER_ERROR : Addr} {w_FAILED : Addr} {w_SOCKET_ERROR : Addr} {w_RESOLUTION_ERROR : Addr} {w_PROBATION : Addr} (ST : own_St Z w_DELIVERED w_BAD_REQUEST w_UNAUTHORIZED w_FORBIDDEN w_NOT_FOUND w_GONE w_TIMED_OUT w_PAYLOAD_TOO_LARGE w_BUSY w_REDIRECTED w_SERVER_ERROR w_FAILED w_SOCKET_ERROR w_RESOLUTION_ERROR w_PROBATION) : Sta Z Z.heap cn_0 "SOCKET_ERROR" cn_1 (.ref w_SOCKET_ERROR) := ST.2.2.2.2.2.2.2.2.2.2.2.2.2.2.2.2.2.2.2.2.2.2.2.2.1
theorem own_St.k25 {Z : State} {w_DELIVERED : Addr} {w_BAD_REQUEST : Addr} {w_UNAUTHORIZED : Addr} {w_FORBIDDEN : Addr} {w_NOT_FOUND : Addr} {w_GONE : Addr} {w_TIMED_OUT : Addr} {w_PAYLOAD_TOO_LARGE : Addr} {w_BUSY : Addr} {w_REDIRECTED : Addr} {w_SERVER_ERROR : Addr} {w_FAILED : Addr} {w_SOCKET_ERROR : Addr} {w_RESOLUTION_ERROR : Addr} {w_PROBATION : Addr} (ST : own_St Z w_DELIVERED w_BAD_REQUEST w_UNAUTHORIZED w_FORBIDDEN w_NOT_FOUND w_GONE w_TIMED_OUT w_PAYLOAD_TOO_LARGE w_BUSY w_REDIRECTED w_SERVER_ERROR w_FAILED w_SOCKET_ERROR w_RESOLUTION_ERROR w_PROBATION) : Exa Z Z.heap w_SOCKET_ERROR cn_0 := ST.2.2.2.2.2.2.2.2.2.2.2.2.2.2.2.2.2.2.2.2.2.2.2.2.2.1
theorem own_St.k26 {Z : State} {w_DELIVERED : Addr} {w_BAD_REQUEST : Addr} {w_UNAUTHORIZED : Addr} {w_FORBIDDEN : Addr} {w_NOT_FOUND : Addr} {w_GONE : Addr} {w_TIMED_OUT : Addr} {w_PAYLOAD_TOO_LARGE : Addr} {w_BUSY : Addr} {w_REDIRECTED : Addr} {w_SERVER_ERROR : Addr} {w_FAILED : Addr} {w_SOCKET_ERROR : Addr} {w_RESOLUTION_ERROR : Addr} {w_PROBATION : Addr} (ST : own_St Z w_DELIVERED w_BAD_REQUEST w_UNAUTHORIZED w_FORBIDDEN w_NOT_FOUND w_GONE w_TIMED_OUT w_PAYLOAD_TOO_LARGE w_BUSY w_REDIRECTED w_SERVER_ERROR w_FAILED w_SOCKET_ERROR w_RESOLUTION_ERROR w_PROBATION) : Sta Z Z.heap cn_0 "RESOLUTION_ERROR" cn_1 (.ref w_RESOLUTION_ERROR) := ST.2.2.2.2.2.2.2.2.2.2.2.2.2.2.2.2.2.2.2.2.2.2.2.2.2.2.1
theorem own_St.k27 {Z : State} {w_DELIVERED : Addr} {w_BAD_REQUEST : Addr} {w_UNAUTHORIZED : Addr} {w_FORBIDDEN : Addr} {w_NOT_FOUND : Addr} {w_GONE : Addr} {w_TIMED_OUT : Addr} {w_PAYLOAD_TOO_LARGE : Addr} {w_BUSY : Addr} {w_REDIRECTED : Addr} {w_SERVER_ERROR : Addr} {w_FAILED : Addr} {w_SOCKET_ERROR : Addr} {w_RESOLUTION_ERROR : Addr} {w_PROBATION : Addr} (ST : own_St Z w_DELIVERED w_BAD_REQUEST w_UNAUTHORIZED w_FORBIDDEN w_NOT_FOUND w_GONE w_TIMED_OUT w_PAYLOAD_TOO_LARGE w_BUSY w_REDIRECTED w_SERVER_ERROR w_FAILED w_SOCKET_ERROR w_RESOLUTION_ERROR w_PROBATION) : Exa Z Z.heap w_RESOLUTION_ERROR cn_0 := ST.2.2.2.2.2.2.2.2.2.2.2.2.2.2.2.2.2.2.2.2.2.2.2.2.2.2.2.1
theorem own_St.k28 {Z : State} {w_DELIVERED : Addr} {w_BAD_REQUEST : Addr} {w_UNAUTHORIZED : Addr} {w_FORBIDDEN : Addr} {w_NOT_FOUND : Addr} {w_GONE : Addr} {w_TIMED_OUT : Addr} {w_PAYLOAD_TOO_LARGE : Addr} {w_BUSY : Addr} {w_REDIRECTED : Addr} {w_SERVER_ERROR : Addr} {w_FAILED : Addr} {w_SOCKET_ERROR : Addr} {w_RESOLUTION_ERROR : Addr} {w_PROBATION : Addr} (ST : own_St Z w_DELIVERED w_BAD_REQUEST w_UNAUTHORIZED w_FORBIDDEN w_NOT_FOUND w_GONE w_TIMED_OUT w_PAYLOAD_TOO_LARGE w_BUSY w_REDIRECTED w_SERVER_ERROR w_FAILED w_SOCKET_ERROR w_RESOLUTION_ERROR w_PROBATION) : Sta Z Z.heap cn_0 "PROBATION" cn_1 (.ref w_PROBATION) := ST.2.2.2.2.2.2.2.2.2.2.2.2.2.2.2.2.2.2.2.2.2.2.2.2.2.2.2.2.1
theorem own_St.k29 {Z : State} {w_DELIVERED : Addr} {w_BAD_REQUEST : Addr} {w_UNAUTHORIZED : Addr} {w_FORBIDDEN : Addr} {w_NOT_FOUND : Addr} {w_GONE : Addr} {w_TIMED_OUT : Addr} {w_PAYLOAD_TOO_LARGE : Addr} {w_BUSY : Addr} {w_REDIRECTED : Addr} {w_SERVER_ERROR : Addr} {w_FAILED : Addr} {w_SOCKET_ERROR : Addr} {w_RESOLUTION_ERROR : Addr} {w_PROBATION : Addr} (ST : own_St Z w_DELIVERED w_BAD_REQUEST w_UNAUTHORIZED w_FORBIDDEN w_NOT_FOUND w_GONE w_TIMED_OUT w_PAYLOAD_TOO_LARGE w_BUSY w_REDIRECTED w_SERVER_ERROR w_FAILED w_SOCKET_ERROR w_RESOLUTION_ERROR w_PROBATION) : Exa Z Z.heap w_PROBATION cn_0 := ST.2.2.2.2.2.2.2.2.2.2.2.2.2.2.2.2.2.2.2.2.2.2.2.2.2.2.2.2.2.1
theorem own_St.k30 {Z : State} {w_DELIVERED : Addr} {w_BAD_REQUEST : Addr} {w_UNAUTHORIZED : Addr} {w_FORBIDDEN : Addr} {w_NOT_FOUND : Addr} {w_GONE : Addr} {w_TIMED_OUT : Addr} {w_PAYLOAD_TOO_LARGE : Addr} {w_BUSY : Addr} {w_REDIRECTED : Addr} {w_SERVER_ERROR : Addr} {w_FAILED : Addr} {w_SOCKET_ERROR : Addr} {w_RESOLUTION_ERROR : Addr} {w_PROBATION : Addr} (ST : own_St Z w_DELIVERED w_BAD_REQUEST w_UNAUTHORIZED w_FORBIDDEN w_NOT_FOUND w_GONE w_TIMED_OUT w_PAYLOAD_TOO_LARGE w_BUSY w_REDIRECTED w_SERVER_ERROR w_FAILED w_SOCKET_ERROR w_RESOLUTION_ERROR w_PROBATION) : Fld Z Z.heap w_DELIVERED cn_3 "ordinal" "I" (.int 0) := ST.2.2.2.2.2.2.2.2.2.2.2.2.2.2.2.2.2.2.2.2.2.2.2.2.2.2.2.2.2.2.1
theorem own_St.k31 {Z : State} {w_DELIVERED : Addr} {w_BAD_REQUEST : Addr} {w_UNAUTHORIZED : Addr} {w_FORBIDDEN : Addr} {w_NOT_FOUND : Addr} {w_GONE : Addr} {w_TIMED_OUT : Addr} {w_PAYLOAD_TOO_LARGE : Addr} {w_BUSY : Addr} {w_REDIRECTED : Addr} {w_SERVER_ERROR : Addr} {w_FAILED : Addr} {w_SOCKET_ERROR : Addr} {w_RESOLUTION_ERROR : Addr} {w_PROBATION : Addr} (ST : own_St Z w_DELIVERED w_BAD_REQUEST w_UNAUTHORIZED w_FORBIDDEN w_NOT_FOUND w_GONE w_TIMED_OUT w_PAYLOAD_TOO_LARGE w_BUSY w_REDIRECTED w_SERVER_ERROR w_FAILED w_SOCKET_ERROR w_RESOLUTION_ERROR w_PROBATION) : Fld Z Z.heap w_BAD_REQUEST cn_3 "ordinal" "I" (.int 1) := ST.2.2.2.2.2.2.2.2.2.2.2.2.2.2.2.2.2.2.2.2.2.2.2.2.2.2.2.2.2.2.2.1
theorem own_St.k32 {Z : State} {w_DELIVERED : Addr} {w_BAD_REQUEST : Addr} {w_UNAUTHORIZED : Addr} {w_FORBIDDEN : Addr} {w_NOT_FOUND : Addr} {w_GONE : Addr} {w_TIMED_OUT : Addr} {w_PAYLOAD_TOO_LARGE : Addr} {w_BUSY : Addr} {w_REDIRECTED : Addr} {w_SERVER_ERROR : Addr} {w_FAILED : Addr} {w_SOCKET_ERROR : Addr} {w_RESOLUTION_ERROR : Addr} {w_PROBATION : Addr} (ST : own_St Z w_DELIVERED w_BAD_REQUEST w_UNAUTHORIZED w_FORBIDDEN w_NOT_FOUND w_GONE w_TIMED_OUT w_PAYLOAD_TOO_LARGE w_BUSY w_REDIRECTED w_SERVER_ERROR w_FAILED w_SOCKET_ERROR w_RESOLUTION_ERROR w_PROBATION) : Fld Z Z.heap w_UNAUTHORIZED cn_3 "ordinal" "I" (.int 2) := ST.2.2.2.2.2.2.2.2.2.2.2.2.2.2.2.2.2.2.2.2.2.2.2.2.2.2.2.2.2.2.2.2.1
theorem own_St.k33 {Z : State} {w_DELIVERED : Addr} {w_BAD_REQUEST : Addr} {w_UNAUTHORIZED : Addr} {w_FORBIDDEN : Addr} {w_NOT_FOUND : Addr} {w_GONE : Addr} {w_TIMED_OUT : Addr} {w_PAYLOAD_TOO_LARGE : Addr} {w_BUSY : Addr} {w_REDIRECTED : Addr} {w_SERVER_ERROR : Addr} {w_FAILED : Addr} {w_SOCKET_ERROR : Addr} {w_RESOLUTION_ERROR : Addr} {w_PROBATION : Addr} (ST : own_St Z w_DELIVERED w_BAD_REQUEST w_UNAUTHORIZED w_FORBIDDEN w_NOT_FOUND w_GONE w_TIMED_OUT w_PAYLOAD_TOO_LARGE w_BUSY w_REDIRECTED w_SERVER_ERROR w_FAILED w_SOCKET_ERROR w_RESOLUTION_ERROR w_PROBATION) : Fld Z Z.heap w_FORBIDDEN cn_3 "ordinal" "I" (.int 3) := ST.2.2.2.2.2.2.2.2.2.2.2.2.2.2.2.2.2.2.2.2.2.2.2.2.2.2.2.2.2.2.2.2.2.1
theorem own_St.k34 {Z : State} {w_DELIVERED : Addr} {w_BAD_REQUEST : Addr} {w_UNAUTHORIZED : Addr} {w_FORBIDDEN : Addr} {w_NOT_FOUND : Addr} {w_GONE : Addr} {w_TIMED_OUT : Addr} {w_PAYLOAD_TOO_LARGE : Addr} {w_BUSY : Addr} {w_REDIRECTED : Addr} {w_SERVER_ERROR : Addr} {w_FAILED : Addr} {w_SOCKET_ERROR : Addr} {w_RESOLUTION_ERROR : Addr} {w_PROBATION : Addr} (ST : own_St Z w_DELIVERED w_BAD_REQUEST w_UNAUTHORIZED w_FORBIDDEN w_NOT_FOUND w_GONE w_TIMED_OUT w_PAYLOAD_TOO_LARGE w_BUSY w_REDIRECTED w_SERVER_ERROR w_FAILED w_SOCKET_ERROR w_RESOLUTION_ERROR w_PROBATION) : Fld Z Z.heap w_GONE cn_3 "ordinal" "I" (.int 5) := ST.2.2.2.2.2.2.2.2.2.2.2.2.2.2.2.2.2.2.2.2.2.2.2.2.2.2.2.2.2.2.2.2.2.2.1
theorem own_St.k35 {Z : State} {w_DELIVERED : Addr} {w_BAD_REQUEST : Addr} {w_UNAUTHORIZED : Addr} {w_FORBIDDEN : Addr} {w_NOT_FOUND : Addr} {w_GONE : Addr} {w_TIMED_OUT : Addr} {w_PAYLOAD_TOO_LARGE : Addr} {w_BUSY : Addr} {w_REDIRECTED : Addr} {w_SERVER_ERROR : Addr} {w_FAILED : Addr} {w_SOCKET_ERROR : Addr} {w_RESOLUTION_ERROR : Addr} {w_PROBATION : Addr} (ST : own_St Z w_DELIVERED w_BAD_REQUEST w_UNAUTHORIZED w_FORBIDDEN w_NOT_FOUND w_GONE w_TIMED_OUT w_PAYLOAD_TOO_LARGE w_BUSY w_REDIRECTED w_SERVER_ERROR w_FAILED w_SOCKET_ERROR w_RESOLUTION_ERROR w_PROBATION) : Fld Z Z.heap w_PAYLOAD_TOO_LARGE cn_3 "ordinal" "I" (.int 7) := ST.2.2.2.2.2.2.2.2.2.2.2.2.2.2.2.2.2.2.2.2.2.2.2.2.2.2.2.2.2.2.2.2.2.2.2.1
theorem own_St.k36 {Z : State} {w_DELIVERED : Addr} {w_BAD_REQUEST : Addr} {w_UNAUTHORIZED : Addr} {w_FORBIDDEN : Addr} {w_NOT_FOUND : Addr} {w_GONE : Addr} {w_TIMED_OUT : Addr} {w_PAYLOAD_TOO_LARGE : Addr} {w_BUSY : Addr} {w_REDIRECTED : Addr} {w_SERVER_ERROR : Addr} {w_FAILED : Addr} {w_SOCKET_ERROR : Addr} {w_RESOLUTION_ERROR : Addr} {w_PROBATION : Addr} (ST : own_St Z w_DELIVERED w_BAD_REQUEST w_UNAUTHORIZED w_FORBIDDEN w_NOT_FOUND w_GONE w_TIMED_OUT w_PAYLOAD_TOO_LARGE w_BUSY w_REDIRECTED w_SERVER_ERROR w_FAILED w_SOCKET_ERROR w_RESOLUTION_ERROR w_PROBATION) : Fld Z Z.heap w_RESOLUTION_ERROR cn_3 "ordinal" "I" (.int 13) := ST.2.2.2.2.2.2.2.2.2.2.2.2.2.2.2.2.2.2.2.2.2.2.2.2.2.2.2.2.2.2.2.2.2.2.2.2.1
theorem own_St.k37 {Z : State} {w_DELIVERED : Addr} {w_BAD_REQUEST : Addr} {w_UNAUTHORIZED : Addr} {w_FORBIDDEN : Addr} {w_NOT_FOUND : Addr} {w_GONE : Addr} {w_TIMED_OUT : Addr} {w_PAYLOAD_TOO_LARGE : Addr} {w_BUSY : Addr} {w_REDIRECTED : Addr} {w_SERVER_ERROR : Addr} {w_FAILED : Addr} {w_SOCKET_ERROR : Addr} {w_RESOLUTION_ERROR : Addr} {w_PROBATION : Addr} (ST : own_St Z w_DELIVERED w_BAD_REQUEST w_UNAUTHORIZED w_FORBIDDEN w_NOT_FOUND w_GONE w_TIMED_OUT w_PAYLOAD_TOO_LARGE w_BUSY w_REDIRECTED w_SERVER_ERROR w_FAILED w_SOCKET_ERROR w_RESOLUTION_ERROR w_PROBATION) : Fld Z Z.heap w_TIMED_OUT cn_3 "ordinal" "I" (.int 6) := ST.2.2.2.2.2.2.2.2.2.2.2.2.2.2.2.2.2.2.2.2.2.2.2.2.2.2.2.2.2.2.2.2.2.2.2.2.2.1
theorem own_St.k38 {Z : State} {w_DELIVERED : Addr} {w_BAD_REQUEST : Addr} {w_UNAUTHORIZED : Addr} {w_FORBIDDEN : Addr} {w_NOT_FOUND : Addr} {w_GONE : Addr} {w_TIMED_OUT : Addr} {w_PAYLOAD_TOO_LARGE : Addr} {w_BUSY : Addr} {w_REDIRECTED : Addr} {w_SERVER_ERROR : Addr} {w_FAILED : Addr} {w_SOCKET_ERROR : Addr} {w_RESOLUTION_ERROR : Addr} {w_PROBATION : Addr} (ST : own_St Z w_DELIVERED w_BAD_REQUEST w_UNAUTHORIZED w_FORBIDDEN w_NOT_FOUND w_GONE w_TIMED_OUT w_PAYLOAD_TOO_LARGE w_BUSY w_REDIRECTED w_SERVER_ERROR w_FAILED w_SOCKET_ERROR w_RESOLUTION_ERROR w_PROBATION) : Fld Z Z.heap w_PROBATION cn_3 "ordinal" "I" (.int 14) := ST.2.2.2.2.2.2.2.2.2.2.2.2.2.2.2.2.2.2.2.2.2.2.2.2.2.2.2.2.2.2.2.2.2.2.2.2.2.2.1
theorem own_St.k39 {Z : State} {w_DELIVERED : Addr} {w_BAD_REQUEST : Addr} {w_UNAUTHORIZED : Addr} {w_FORBIDDEN : Addr} {w_NOT_FOUND : Addr} {w_GONE : Addr} {w_TIMED_OUT : Addr} {w_PAYLOAD_TOO_LARGE : Addr} {w_BUSY : Addr} {w_REDIRECTED : Addr} {w_SERVER_ERROR : Addr} {w_FAILED : Addr} {w_SOCKET_ERROR : Addr} {w_RESOLUTION_ERROR : Addr} {w_PROBATION : Addr} (ST : own_St Z w_DELIVERED w_BAD_REQUEST w_UNAUTHORIZED w_FORBIDDEN w_NOT_FOUND w_GONE w_TIMED_OUT w_PAYLOAD_TOO_LARGE w_BUSY w_REDIRECTED w_SERVER_ERROR w_FAILED w_SOCKET_ERROR w_RESOLUTION_ERROR w_PROBATION) : Fld Z Z.heap w_FAILED cn_3 "ordinal" "I" (.int 11) := ST.2.2.2.2.2.2.2.2.2.2.2.2.2.2.2.2.2.2.2.2.2.2.2.2.2.2.2.2.2.2.2.2.2.2.2.2.2.2.2.1
theorem own_St.k40 {Z : State} {w_DELIVERED : Addr} {w_BAD_REQUEST : Addr} {w_UNAUTHORIZED : Addr} {w_FORBIDDEN : Addr} {w_NOT_FOUND : Addr} {w_GONE : Addr} {w_TIMED_OUT : Addr} {w_PAYLOAD_TOO_LARGE : Addr} {w_BUSY : Addr} {w_REDIRECTED : Addr} {w_SERVER_ERROR : Addr} {w_FAILED : Addr} {w_SOCKET_ERROR : Addr} {w_RESOLUTION_ERROR : Addr} {w_PROBATION : Addr} (ST : own_St Z w_DELIVERED w_BAD_REQUEST w_UNAUTHORIZED w_FORBIDDEN w_NOT_FOUND w_GONE w_TIMED_OUT w_PAYLOAD_TOO_LARGE w_BUSY w_REDIRECTED w_SERVER_ERROR w_FAILED w_SOCKET_ERROR w_RESOLUTION_ERROR w_PROBATION) : Fld Z Z.heap w_SERVER_ERROR cn_3 "ordinal" "I" (.int 10) := ST.2.2.2.2.2.2.2.2.2.2.2.2.2.2.2.2.2.2.2.2.2.2.2.2.2.2.2.2.2.2.2.2.2.2.2.2.2.2.2.2.1
theorem own_St.k41 {Z : State} {w_DELIVERED : Addr} {w_BAD_REQUEST : Addr} {w_UNAUTHORIZED : Addr} {w_FORBIDDEN : Addr} {w_NOT_FOUND : Addr} {w_GONE : Addr} {w_TIMED_OUT : Addr} {w_PAYLOAD_TOO_LARGE : Addr} {w_BUSY : Addr} {w_REDIRECTED : Addr} {w_SERVER_ERROR : Addr} {w_FAILED : Addr} {w_SOCKET_ERROR : Addr} {w_RESOLUTION_ERROR : Addr} {w_PROBATION : Addr} (ST : own_St Z w_DELIVERED w_BAD_REQUEST w_UNAUTHORIZED w_FORBIDDEN w_NOT_FOUND w_GONE w_TIMED_OUT w_PAYLOAD_TOO_LARGE w_BUSY w_REDIRECTED w_SERVER_ERROR w_FAILED w_SOCKET_ERROR w_RESOLUTION_ERROR w_PROBATION) : Fld Z Z.heap w_BUSY cn_3 "ordinal" "I" (.int 8) := ST.2.2.2.2.2.2.2.2.2.2.2.2.2.2.2.2.2.2.2.2.2.2.2.2.2.2.2.2.2.2.2.2.2.2.2.2.2.2.2.2.2.1
theorem own_St.k42 {Z : State} {w_DELIVERED : Addr} {w_BAD_REQUEST : Addr} {w_UNAUTHORIZED : Addr} {w_FORBIDDEN : Addr} {w_NOT_FOUND : Addr} {w_GONE : Addr} {w_TIMED_OUT : Addr} {w_PAYLOAD_TOO_LARGE : Addr} {w_BUSY : Addr} {w_REDIRECTED : Addr} {w_SERVER_ERROR : Addr} {w_FAILED : Addr} {w_SOCKET_ERROR : Addr} {w_RESOLUTION_ERROR : Addr} {w_PROBATION : Addr} (ST : own_St Z w_DELIVERED w_BAD_REQUEST w_UNAUTHORIZED w_FORBIDDEN w_NOT_FOUND w_GONE w_TIMED_OUT w_PAYLOAD_TOO_LARGE w_BUSY w_REDIRECTED w_SERVER_ERROR w_FAILED w_SOCKET_ERROR w_RESOLUTION_ERROR w_PROBATION) : Fld Z Z.heap w_SOCKET_ERROR cn_3 "ordinal" "I" (.int 12) := ST.2.2.2.2.2.2.2.2.2.2.2.2.2.2.2.2.2.2.2.2.2.2.2.2.2.2.2.2.2.2.2.2.2.2.2.2.2.2.2.2.2.2.1
theorem own_St.k43 {Z : State} {w_DELIVERED : Addr} {w_BAD_REQUEST : Addr} {w_UNAUTHORIZED : Addr} {w_FORBIDDEN : Addr} {w_NOT_FOUND : Addr} {w_GONE : Addr} {w_TIMED_OUT : Addr} {w_PAYLOAD_TOO_LARGE : Addr} {w_BUSY : Addr} {w_REDIRECTED : Addr} {w_SERVER_ERROR : Addr} {w_FAILED : Addr} {w_SOCKET_ERROR : Addr} {w_RESOLUTION_ERROR : Addr} {w_PROBATION : Addr} (ST : own_St Z w_DELIVERED w_BAD_REQUEST w_UNAUTHORIZED w_FORBIDDEN w_NOT_FOUND w_GONE w_TIMED_OUT w_PAYLOAD_TOO_LARGE w_BUSY w_REDIRECTED w_SERVER_ERROR w_FAILED w_SOCKET_ERROR w_RESOLUTION_ERROR w_PROBATION) : Fld Z Z.heap w_NOT_FOUND cn_3 "ordinal" "I" (.int 4) := ST.2.2.2.2.2.2.2.2.2.2.2.2.2.2.2.2.2.2.2.2.2.2.2.2.2.2.2.2.2.2.2.2.2.2.2.2.2.2.2.2.2.2.2.1
theorem own_St.k44 {Z : State} {w_DELIVERED : Addr} {w_BAD_REQUEST : Addr} {w_UNAUTHORIZED : Addr} {w_FORBIDDEN : Addr} {w_NOT_FOUND : Addr} {w_GONE : Addr} {w_TIMED_OUT : Addr} {w_PAYLOAD_TOO_LARGE : Addr} {w_BUSY : Addr} {w_REDIRECTED : Addr} {w_SERVER_ERROR : Addr} {w_FAILED : Addr} {w_SOCKET_ERROR : Addr} {w_RESOLUTION_ERROR : Addr} {w_PROBATION : Addr} (ST : own_St Z w_DELIVERED w_BAD_REQUEST w_UNAUTHORIZED w_FORBIDDEN w_NOT_FOUND w_GONE w_TIMED_OUT w_PAYLOAD_TOO_LARGE w_BUSY w_REDIRECTED w_SERVER_ERROR w_FAILED w_SOCKET_ERROR w_RESOLUTION_ERROR w_PROBATION) : Fld Z Z.heap w_REDIRECTED cn_3 "ordinal" "I" (.int 9) := ST.2.2.2.2.2.2.2.2.2.2.2.2.2.2.2.2.2.2.2.2.2.2.2.2.2.2.2.2.2.2.2.2.2.2.2.2.2.2.2.2.2.2.2.2
theorem ww4 {Z : State} {a0 : Array Value} (hw : ∀ d ∈ tables_1, d.before a0 Z = true) : Jvm.Cond.before (Jvm.Cond.laysStatic cn_0 "DELIVERED" cn_1) a0 Z = true := hw _ (List.mem_of_getElem? (i := 4) rfl)
theorem ww3 {Z : State} {a0 : Array Value} (hw : ∀ d ∈ tables_1, d.before a0 Z = true) : Jvm.Cond.before (Jvm.Cond.initialized cn_0) a0 Z = true := hw _ (List.mem_of_getElem? (i := 3) rfl)
theorem ww7 {Z : State} {a0 : Array Value} (hw : ∀ d ∈ tables_1, d.before a0 Z = true) : Jvm.Cond.before (Jvm.Cond.laysStatic cn_0 "BAD_REQUEST" cn_1) a0 Z = true := hw _ (List.mem_of_getElem? (i := 7) rfl)
theorem ww9 {Z : State} {a0 : Array Value} (hw : ∀ d ∈ tables_1, d.before a0 Z = true) : Jvm.Cond.before (Jvm.Cond.laysStatic cn_0 "UNAUTHORIZED" cn_1) a0 Z = true := hw _ (List.mem_of_getElem? (i := 9) rfl)
theorem ww11 {Z : State} {a0 : Array Value} (hw : ∀ d ∈ tables_1, d.before a0 Z = true) : Jvm.Cond.before (Jvm.Cond.laysStatic cn_0 "FORBIDDEN" cn_1) a0 Z = true := hw _ (List.mem_of_getElem? (i := 11) rfl)
theorem ww13 {Z : State} {a0 : Array Value} (hw : ∀ d ∈ tables_1, d.before a0 Z = true) : Jvm.Cond.before (Jvm.Cond.laysStatic cn_0 "NOT_FOUND" cn_1) a0 Z = true := hw _ (List.mem_of_getElem? (i := 13) rfl)
theorem ww15 {Z : State} {a0 : Array Value} (hw : ∀ d ∈ tables_1, d.before a0 Z = true) : Jvm.Cond.before (Jvm.Cond.laysStatic cn_0 "GONE" cn_1) a0 Z = true := hw _ (List.mem_of_getElem? (i := 15) rfl)
theorem ww17 {Z : State} {a0 : Array Value} (hw : ∀ d ∈ tables_1, d.before a0 Z = true) : Jvm.Cond.before (Jvm.Cond.laysStatic cn_0 "TIMED_OUT" cn_1) a0 Z = true := hw _ (List.mem_of_getElem? (i := 17) rfl)
theorem ww19 {Z : State} {a0 : Array Value} (hw : ∀ d ∈ tables_1, d.before a0 Z = true) : Jvm.Cond.before (Jvm.Cond.laysStatic cn_0 "PAYLOAD_TOO_LARGE" cn_1) a0 Z = true := hw _ (List.mem_of_getElem? (i := 19) rfl)
theorem ww21 {Z : State} {a0 : Array Value} (hw : ∀ d ∈ tables_1, d.before a0 Z = true) : Jvm.Cond.before (Jvm.Cond.laysStatic cn_0 "BUSY" cn_1) a0 Z = true := hw _ (List.mem_of_getElem? (i := 21) rfl)
theorem ww23 {Z : State} {a0 : Array Value} (hw : ∀ d ∈ tables_1, d.before a0 Z = true) : Jvm.Cond.before (Jvm.Cond.laysStatic cn_0 "REDIRECTED" cn_1) a0 Z = true := hw _ (List.mem_of_getElem? (i := 23) rfl)
theorem ww25 {Z : State} {a0 : Array Value} (hw : ∀ d ∈ tables_1, d.before a0 Z = true) : Jvm.Cond.before (Jvm.Cond.laysStatic cn_0 "SERVER_ERROR" cn_1) a0 Z = true := hw _ (List.mem_of_getElem? (i := 25) rfl)
theorem ww27 {Z : State} {a0 : Array Value} (hw : ∀ d ∈ tables_1, d.before a0 Z = true) : Jvm.Cond.before (Jvm.Cond.laysStatic cn_0 "FAILED" cn_1) a0 Z = true := hw _ (List.mem_of_getElem? (i := 27) rfl)
theorem ww29 {Z : State} {a0 : Array Value} (hw : ∀ d ∈ tables_1, d.before a0 Z = true) : Jvm.Cond.before (Jvm.Cond.laysStatic cn_0 "SOCKET_ERROR" cn_1) a0 Z = true := hw _ (List.mem_of_getElem? (i := 29) rfl)
theorem ww31 {Z : State} {a0 : Array Value} (hw : ∀ d ∈ tables_1, d.before a0 Z = true) : Jvm.Cond.before (Jvm.Cond.laysStatic cn_0 "RESOLUTION_ERROR" cn_1) a0 Z = true := hw _ (List.mem_of_getElem? (i := 31) rfl)
theorem ww33 {Z : State} {a0 : Array Value} (hw : ∀ d ∈ tables_1, d.before a0 Z = true) : Jvm.Cond.before (Jvm.Cond.laysStatic cn_0 "PROBATION" cn_1) a0 Z = true := hw _ (List.mem_of_getElem? (i := 33) rfl)
theorem d0_0 : decode prog_8_method_6_code 0 = .ok (.iload_n 0, 1) := by decide +kernel
theorem d0_1 : decode prog_8_method_6_code 1 = .ok (.sipush 200, 3) := by decide +kernel
theorem d0_4 : decode prog_8_method_6_code 4 = .ok (.if_icmp .lt 17, 3) := by decide +kernel
theorem d0_7 : decode prog_8_method_6_code 7 = .ok (.iload_n 0, 1) := by decide +kernel
theorem d0_8 : decode prog_8_method_6_code 8 = .ok (.sipush 204, 3) := by decide +kernel
theorem d0_11 : decode prog_8_method_6_code 11 = .ok (.if_icmp .gt 10, 3) := by decide +kernel
theorem d0_21 : decode prog_8_method_6_code 21 = .ok (.iload_n 0, 1) := by decide +kernel
theorem d0_22 : decode prog_8_method_6_code 22 = .ok (.sipush 400, 3) := by decide +kernel
theorem d0_25 : decode prog_8_method_6_code 25 = .ok (.if_icmp .ne 10, 3) := by decide +kernel
theorem d0_28 : decode prog_8_method_6_code 28 = .ok (.getstatic 7, 3) := by decide +kernel
theorem ww38 {Z : State} {a0 : Array Value} (hw : ∀ d ∈ tables_1, d.before a0 Z = true) : Jvm.Cond.before (Jvm.Cond.fieldLink cn_0 (7 : Nat) cn_0 "BAD_REQUEST" cn_1) a0 Z = true := hw _ (List.mem_of_getElem? (i := 38) rfl)
theorem d0_31 : decode prog_8_method_6_code 31 = .ok (.astore_n 1, 1) := by decide +kernel
theorem d0_32 : decode prog_8_method_6_code 32 = .ok (.goto 154, 3) := by decide +kernel
theorem d0_186 : decode prog_8_method_6_code 186 = .ok (.aload_n 1, 1) := by decide +kernel
theorem d0_187 : decode prog_8_method_6_code 187 = .ok (.areturn, 1) := by decide +kernel
abbrev rr_of400 : Room := { frames := 0, cells := 0, slots := 0, locals := 0 }
abbrev y_0 : MethodName := ⟨cn_0, "ofStatus", cn_4⟩
theorem pn_0 : plainName cn_0 = true := by first | (simp [plainName, overriddenIn]; done) | decide +kernel
theorem ef_of400 (m : MethodId)  : entryFrame m #[(.int 400)] 2 = mkF m 0 #[.val (.int 400), .unset] [] := by first | (simp [entryFrame, mkF, argsToLocals, Value.category]; done) | rfl
def f_of400 (w_DELIVERED : Addr) (w_BAD_REQUEST : Addr) (w_UNAUTHORIZED : Addr) (w_FORBIDDEN : Addr) (w_NOT_FOUND : Addr) (w_GONE : Addr) (w_TIMED_OUT : Addr) (w_PAYLOAD_TOO_LARGE : Addr) (w_BUSY : Addr) (w_REDIRECTED : Addr) (w_SERVER_ERROR : Addr) (w_FAILED : Addr) (w_SOCKET_ERROR : Addr) (w_RESOLUTION_ERROR : Addr) (w_PROBATION : Addr)  : Addr := w_BAD_REQUEST
def Q_of400 (Z : State) (w_DELIVERED : Addr) (w_BAD_REQUEST : Addr) (w_UNAUTHORIZED : Addr) (w_FORBIDDEN : Addr) (w_NOT_FOUND : Addr) (w_GONE : Addr) (w_TIMED_OUT : Addr) (w_PAYLOAD_TOO_LARGE : Addr) (w_BUSY : Addr) (w_REDIRECTED : Addr) (w_SERVER_ERROR : Addr) (w_FAILED : Addr) (w_SOCKET_ERROR : Addr) (w_RESOLUTION_ERROR : Addr) (w_PROBATION : Addr)  (h0 : Heap) (n0 : Nat) (v : Option Value) (h : Heap) (L : List Loc) : Prop := v = some (.ref (f_of400 w_DELIVERED w_BAD_REQUEST w_UNAUTHORIZED w_FORBIDDEN w_NOT_FOUND w_GONE w_TIMED_OUT w_PAYLOAD_TOO_LARGE w_BUSY w_REDIRECTED w_SERVER_ERROR w_FAILED w_SOCKET_ERROR w_RESOLUTION_ERROR w_PROBATION)) ∧ Fr n0 L ∧ h = h0
set_option maxRecDepth 65536 in
set_option maxHeartbeats 40000000 in
theorem rm_of400 (l : Launch) (Z : State) (a0 : Array Value) (hw : ∀ d ∈ tables_1, d.before a0 Z = true) (ws : List Jvm.Cond) (w_DELIVERED : Addr) (w_BAD_REQUEST : Addr) (w_UNAUTHORIZED : Addr) (w_FORBIDDEN : Addr) (w_NOT_FOUND : Addr) (w_GONE : Addr) (w_TIMED_OUT : Addr) (w_PAYLOAD_TOO_LARGE : Addr) (w_BUSY : Addr) (w_REDIRECTED : Addr) (w_SERVER_ERROR : Addr) (w_FAILED : Addr) (w_SOCKET_ERROR : Addr) (w_RESOLUTION_ERROR : Addr) (w_PROBATION : Addr)  (h0 : Heap) (n0 : Nat) (Z0 : n0 ≤ h0.size) (ST : own_St Z w_DELIVERED w_BAD_REQUEST w_UNAUTHORIZED w_FORBIDDEN w_NOT_FOUND w_GONE w_TIMED_OUT w_PAYLOAD_TOO_LARGE w_BUSY w_REDIRECTED w_SERVER_ERROR w_FAILED w_SOCKET_ERROR w_RESOLUTION_ERROR w_PROBATION) (O0 : Old Z n0 h0) :
    MetFree l y_0 (head1 (Jvm.Cond.code y_0 prog_8_method_6_code 2 (some (.object cn_0)) :: ws) rr_of400) (fun a U => a = #[(.int 400)] ∧ Z.Warmed39 U.vm ∧ U.heap = h0) (fun _ _ _ _ _ => True) (fun _ U o U' => ∃ v L, o = .returned v ∧ Q_of400 Z w_DELIVERED w_BAD_REQUEST w_UNAUTHORIZED w_FORBIDDEN w_NOT_FOUND w_GONE w_TIMED_OUT w_PAYLOAD_TOO_LARGE w_BUSY w_REDIRECTED w_SERVER_ERROR w_FAILED w_SOCKET_ERROR w_RESOLUTION_ERROR w_PROBATION h0 n0 v U'.heap L ∧ FrameEnd U o U' L rr_of400.cells rr_of400.slots) := by
  refine MetFree.of_bodySF (plainFor_of_name pn_0) hisR ?_
  intro p e s m args below meth c s₁ Bd hml0 hP hK
  obtain ⟨rfl, hZ, hh⟩ := hP
  have hx := Bd.exec
  have hby := Bd.bytes
  have hml : c.maxLocals = 2 := hml0
  have hown : s.vm.findClass cn_0 = some m.cls := findClass_of_methodNamed Bd.named
  have hnm := (name_of_methodNamed Bd.named Bd.method).1
  have X0 : Stand p l e rr_of400 s m #[(.int 400)] below meth c s₁ [] 0 0 := Stand.of_body Bd
  have e0 : s₁.heap = h0 := by rw [← hh, Bd.state]; rfl
  have N0 := Fr.nil n0
  obtain ⟨G, step, ret, fin⟩ := own_open (p := p) (l := l) (e := e) (R := rr_of400) (s := s) (m := m) (args := #[(.int 400)]) (below := below) (meth := meth) (c := c) (rr_of400.cells) (rr_of400.slots) (Q_of400 Z w_DELIVERED w_BAD_REQUEST w_UNAUTHORIZED w_FORBIDDEN w_NOT_FOUND w_GONE w_TIMED_OUT w_PAYLOAD_TOO_LARGE w_BUSY w_REDIRECTED w_SERVER_ERROR w_FAILED w_SOCKET_ERROR w_RESOLUTION_ERROR w_PROBATION h0 n0) Bd.notSynchronized
  refine fin (g := entryFrame m #[(.int 400)] 2) ?_
  rw [ef_of400 m ]
  show G s₁ (mkF m 0 #[.val (.int 400), .unset] [])
  refine step (fun t k => XS.iloadN X0.here hx rfl (hb hby d0_0) rfl k) ?_
  show G s₁ (mkF m 1 #[.val (.int 400), .unset] [(.int 400)])
  refine step (fun t k => XS.sipush X0.here hx rfl (hb hby d0_1) k) ?_
  show G s₁ (mkF m 4 #[.val (.int 400), .unset] [(.int 200), (.int 400)])
  refine step (fun t k => XS.icmpNo X0.here hx rfl (hb hby d0_4) rfl (flt (by decide : ¬ ((400 : Int32) < (200 : Int32)))).1 k) ?_
  show G s₁ (mkF m 7 #[.val (.int 400), .unset] [])
  refine step (fun t k => XS.iloadN X0.here hx rfl (hb hby d0_7) rfl k) ?_
  show G s₁ (mkF m 8 #[.val (.int 400), .unset] [(.int 400)])
  refine step (fun t k => XS.sipush X0.here hx rfl (hb hby d0_8) k) ?_
  show G s₁ (mkF m 11 #[.val (.int 400), .unset] [(.int 204), (.int 400)])
  refine step (fun t k => XS.icmpYes X0.here hx rfl (pc0 := 11) (pc' := 21) rfl (hb hby d0_11) rfl (tlt (by decide : (204 : Int32) < (400 : Int32))).2.2.1 (by decide) (by decide) k) ?_
  show G s₁ (mkF m 21 #[.val (.int 400), .unset] [])
  refine step (fun t k => XS.iloadN X0.here hx rfl (hb hby d0_21) rfl k) ?_
  show G s₁ (mkF m 22 #[.val (.int 400), .unset] [(.int 400)])
  refine step (fun t k => XS.sipush X0.here hx rfl (hb hby d0_22) k) ?_
  show G s₁ (mkF m 25 #[.val (.int 400), .unset] [(.int 400), (.int 400)])
  refine step (fun t k => XS.icmpNo X0.here hx rfl (hb hby d0_25) rfl (teq (by decide : (400 : Int32) = (400 : Int32))).2 k) ?_
  show G s₁ (mkF m 28 #[.val (.int 400), .unset] [])
  obtain ⟨T1, X1, e1, st1⟩ := getS2 X0 hx hZ hown (host := "") (Or.inl (ww38 hw)) Via.refl e0 (Sta.ext O0.2 ST.k2) (g := (mkF m 28 #[.val (.int 400), .unset] [])) rfl (hb hby d0_28)
  refine step st1 ?_
  show G T1 (mkF m 31 #[.val (.int 400), .unset] [(.ref w_BAD_REQUEST)])
  refine step (fun t k => XS.astoreN X1.here hx rfl (hb hby d0_31) rfl rfl (l' := #[.val (.int 400), .val (.ref w_BAD_REQUEST)]) rfl k) ?_
  show G T1 (mkF m 32 #[.val (.int 400), .val (.ref w_BAD_REQUEST)] [])
  refine step (fun t k => XS.goto X1.here hx rfl (pc0 := 32) (pc' := 186) rfl (hb hby d0_32) (by decide) (by decide) k) ?_
  show G T1 (mkF m 186 #[.val (.int 400), .val (.ref w_BAD_REQUEST)] [])
  refine step (fun t k => XS.aloadN X1.here hx rfl (hb hby d0_186) rfl rfl k) ?_
  show G T1 (mkF m 187 #[.val (.int 400), .val (.ref w_BAD_REQUEST)] [(.ref w_BAD_REQUEST)])
  exact ret (v := some (.ref w_BAD_REQUEST)) X1 (fun h => by rw [Bd.returns] at h; cases h) (fun fs hr => retA X1 hx Bd.returns rfl rfl (hb hby d0_187) hr) e1 ⟨rfl, N0, rfl⟩ (by decide) (by decide)
theorem d0_35 : decode prog_8_method_6_code 35 = .ok (.iload_n 0, 1) := by decide +kernel
theorem d0_36 : decode prog_8_method_6_code 36 = .ok (.sipush 401, 3) := by decide +kernel
theorem d0_39 : decode prog_8_method_6_code 39 = .ok (.if_icmp .ne 10, 3) := by decide +kernel
theorem d0_42 : decode prog_8_method_6_code 42 = .ok (.getstatic 10, 3) := by decide +kernel
theorem ww39 {Z : State} {a0 : Array Value} (hw : ∀ d ∈ tables_1, d.before a0 Z = true) : Jvm.Cond.before (Jvm.Cond.fieldLink cn_0 (10 : Nat) cn_0 "UNAUTHORIZED" cn_1) a0 Z = true := hw _ (List.mem_of_getElem? (i := 39) rfl)
theorem d0_45 : decode prog_8_method_6_code 45 = .ok (.astore_n 1, 1) := by decide +kernel
theorem d0_46 : decode prog_8_method_6_code 46 = .ok (.goto 140, 3) := by decide +kernel
abbrev rr_of401 : Room := { frames := 0, cells := 0, slots := 0, locals := 0 }
theorem ef_of401 (m : MethodId)  : entryFrame m #[(.int 401)] 2 = mkF m 0 #[.val (.int 401), .unset] [] := by first | (simp [entryFrame, mkF, argsToLocals, Value.category]; done) | rfl
def f_of401 (w_DELIVERED : Addr) (w_BAD_REQUEST : Addr) (w_UNAUTHORIZED : Addr) (w_FORBIDDEN : Addr) (w_NOT_FOUND : Addr) (w_GONE : Addr) (w_TIMED_OUT : Addr) (w_PAYLOAD_TOO_LARGE : Addr) (w_BUSY : Addr) (w_REDIRECTED : Addr) (w_SERVER_ERROR : Addr) (w_FAILED : Addr) (w_SOCKET_ERROR : Addr) (w_RESOLUTION_ERROR : Addr) (w_PROBATION : Addr)  : Addr := w_UNAUTHORIZED
def Q_of401 (Z : State) (w_DELIVERED : Addr) (w_BAD_REQUEST : Addr) (w_UNAUTHORIZED : Addr) (w_FORBIDDEN : Addr) (w_NOT_FOUND : Addr) (w_GONE : Addr) (w_TIMED_OUT : Addr) (w_PAYLOAD_TOO_LARGE : Addr) (w_BUSY : Addr) (w_REDIRECTED : Addr) (w_SERVER_ERROR : Addr) (w_FAILED : Addr) (w_SOCKET_ERROR : Addr) (w_RESOLUTION_ERROR : Addr) (w_PROBATION : Addr)  (h0 : Heap) (n0 : Nat) (v : Option Value) (h : Heap) (L : List Loc) : Prop := v = some (.ref (f_of401 w_DELIVERED w_BAD_REQUEST w_UNAUTHORIZED w_FORBIDDEN w_NOT_FOUND w_GONE w_TIMED_OUT w_PAYLOAD_TOO_LARGE w_BUSY w_REDIRECTED w_SERVER_ERROR w_FAILED w_SOCKET_ERROR w_RESOLUTION_ERROR w_PROBATION)) ∧ Fr n0 L ∧ h = h0
set_option maxRecDepth 65536 in
set_option maxHeartbeats 40000000 in
theorem rm_of401 (l : Launch) (Z : State) (a0 : Array Value) (hw : ∀ d ∈ tables_1, d.before a0 Z = true) (ws : List Jvm.Cond) (w_DELIVERED : Addr) (w_BAD_REQUEST : Addr) (w_UNAUTHORIZED : Addr) (w_FORBIDDEN : Addr) (w_NOT_FOUND : Addr) (w_GONE : Addr) (w_TIMED_OUT : Addr) (w_PAYLOAD_TOO_LARGE : Addr) (w_BUSY : Addr) (w_REDIRECTED : Addr) (w_SERVER_ERROR : Addr) (w_FAILED : Addr) (w_SOCKET_ERROR : Addr) (w_RESOLUTION_ERROR : Addr) (w_PROBATION : Addr)  (h0 : Heap) (n0 : Nat) (Z0 : n0 ≤ h0.size) (ST : own_St Z w_DELIVERED w_BAD_REQUEST w_UNAUTHORIZED w_FORBIDDEN w_NOT_FOUND w_GONE w_TIMED_OUT w_PAYLOAD_TOO_LARGE w_BUSY w_REDIRECTED w_SERVER_ERROR w_FAILED w_SOCKET_ERROR w_RESOLUTION_ERROR w_PROBATION) (O0 : Old Z n0 h0) :
    MetFree l y_0 (head1 (Jvm.Cond.code y_0 prog_8_method_6_code 2 (some (.object cn_0)) :: ws) rr_of401) (fun a U => a = #[(.int 401)] ∧ Z.Warmed39 U.vm ∧ U.heap = h0) (fun _ _ _ _ _ => True) (fun _ U o U' => ∃ v L, o = .returned v ∧ Q_of401 Z w_DELIVERED w_BAD_REQUEST w_UNAUTHORIZED w_FORBIDDEN w_NOT_FOUND w_GONE w_TIMED_OUT w_PAYLOAD_TOO_LARGE w_BUSY w_REDIRECTED w_SERVER_ERROR w_FAILED w_SOCKET_ERROR w_RESOLUTION_ERROR w_PROBATION h0 n0 v U'.heap L ∧ FrameEnd U o U' L rr_of401.cells rr_of401.slots) := by
  refine MetFree.of_bodySF (plainFor_of_name pn_0) hisR ?_
  intro p e s m args below meth c s₁ Bd hml0 hP hK
  obtain ⟨rfl, hZ, hh⟩ := hP
  have hx := Bd.exec
  have hby := Bd.bytes
  have hml : c.maxLocals = 2 := hml0
  have hown : s.vm.findClass cn_0 = some m.cls := findClass_of_methodNamed Bd.named
  have hnm := (name_of_methodNamed Bd.named Bd.method).1
  have X0 : Stand p l e rr_of401 s m #[(.int 401)] below meth c s₁ [] 0 0 := Stand.of_body Bd
  have e0 : s₁.heap = h0 := by rw [← hh, Bd.state]; rfl
  have N0 := Fr.nil n0
  obtain ⟨G, step, ret, fin⟩ := own_open (p := p) (l := l) (e := e) (R := rr_of401) (s := s) (m := m) (args := #[(.int 401)]) (below := below) (meth := meth) (c := c) (rr_of401.cells) (rr_of401.slots) (Q_of401 Z w_DELIVERED w_BAD_REQUEST w_UNAUTHORIZED w_FORBIDDEN w_NOT_FOUND w_GONE w_TIMED_OUT w_PAYLOAD_TOO_LARGE w_BUSY w_REDIRECTED w_SERVER_ERROR w_FAILED w_SOCKET_ERROR w_RESOLUTION_ERROR w_PROBATION h0 n0) Bd.notSynchronized
  refine fin (g := entryFrame m #[(.int 401)] 2) ?_
  rw [ef_of401 m ]
  show G s₁ (mkF m 0 #[.val (.int 401), .unset] [])
  refine step (fun t k => XS.iloadN X0.here hx rfl (hb hby d0_0) rfl k) ?_
  show G s₁ (mkF m 1 #[.val (.int 401), .unset] [(.int 401)])
  refine step (fun t k => XS.sipush X0.here hx rfl (hb hby d0_1) k) ?_
  show G s₁ (mkF m 4 #[.val (.int 401), .unset] [(.int 200), (.int 401)])
  refine step (fun t k => XS.icmpNo X0.here hx rfl (hb hby d0_4) rfl (flt (by decide : ¬ ((401 : Int32) < (200 : Int32)))).1 k) ?_
  show G s₁ (mkF m 7 #[.val (.int 401), .unset] [])
  refine step (fun t k => XS.iloadN X0.here hx rfl (hb hby d0_7) rfl k) ?_
  show G s₁ (mkF m 8 #[.val (.int 401), .unset] [(.int 401)])
  refine step (fun t k => XS.sipush X0.here hx rfl (hb hby d0_8) k) ?_
  show G s₁ (mkF m 11 #[.val (.int 401), .unset] [(.int 204), (.int 401)])
  refine step (fun t k => XS.icmpYes X0.here hx rfl (pc0 := 11) (pc' := 21) rfl (hb hby d0_11) rfl (tlt (by decide : (204 : Int32) < (401 : Int32))).2.2.1 (by decide) (by decide) k) ?_
  show G s₁ (mkF m 21 #[.val (.int 401), .unset] [])
  refine step (fun t k => XS.iloadN X0.here hx rfl (hb hby d0_21) rfl k) ?_
  show G s₁ (mkF m 22 #[.val (.int 401), .unset] [(.int 401)])
  refine step (fun t k => XS.sipush X0.here hx rfl (hb hby d0_22) k) ?_
  show G s₁ (mkF m 25 #[.val (.int 401), .unset] [(.int 400), (.int 401)])
  refine step (fun t k => XS.icmpYes X0.here hx rfl (pc0 := 25) (pc' := 35) rfl (hb hby d0_25) rfl (feq (by decide : ¬ ((401 : Int32) = (400 : Int32)))).2 (by decide) (by decide) k) ?_
  show G s₁ (mkF m 35 #[.val (.int 401), .unset] [])
  refine step (fun t k => XS.iloadN X0.here hx rfl (hb hby d0_35) rfl k) ?_
  show G s₁ (mkF m 36 #[.val (.int 401), .unset] [(.int 401)])
  refine step (fun t k => XS.sipush X0.here hx rfl (hb hby d0_36) k) ?_
  show G s₁ (mkF m 39 #[.val (.int 401), .unset] [(.int 401), (.int 401)])
  refine step (fun t k => XS.icmpNo X0.here hx rfl (hb hby d0_39) rfl (teq (by decide : (401 : Int32) = (401 : Int32))).2 k) ?_
  show G s₁ (mkF m 42 #[.val (.int 401), .unset] [])
  obtain ⟨T1, X1, e1, st1⟩ := getS2 X0 hx hZ hown (host := "") (Or.inl (ww39 hw)) Via.refl e0 (Sta.ext O0.2 ST.k4) (g := (mkF m 42 #[.val (.int 401), .unset] [])) rfl (hb hby d0_42)
  refine step st1 ?_
  show G T1 (mkF m 45 #[.val (.int 401), .unset] [(.ref w_UNAUTHORIZED)])
  refine step (fun t k => XS.astoreN X1.here hx rfl (hb hby d0_45) rfl rfl (l' := #[.val (.int 401), .val (.ref w_UNAUTHORIZED)]) rfl k) ?_
  show G T1 (mkF m 46 #[.val (.int 401), .val (.ref w_UNAUTHORIZED)] [])
  refine step (fun t k => XS.goto X1.here hx rfl (pc0 := 46) (pc' := 186) rfl (hb hby d0_46) (by decide) (by decide) k) ?_
  show G T1 (mkF m 186 #[.val (.int 401), .val (.ref w_UNAUTHORIZED)] [])
  refine step (fun t k => XS.aloadN X1.here hx rfl (hb hby d0_186) rfl rfl k) ?_
  show G T1 (mkF m 187 #[.val (.int 401), .val (.ref w_UNAUTHORIZED)] [(.ref w_UNAUTHORIZED)])
  exact ret (v := some (.ref w_UNAUTHORIZED)) X1 (fun h => by rw [Bd.returns] at h; cases h) (fun fs hr => retA X1 hx Bd.returns rfl rfl (hb hby d0_187) hr) e1 ⟨rfl, N0, rfl⟩ (by decide) (by decide)
theorem d0_49 : decode prog_8_method_6_code 49 = .ok (.iload_n 0, 1) := by decide +kernel
theorem d0_50 : decode prog_8_method_6_code 50 = .ok (.sipush 403, 3) := by decide +kernel
theorem d0_53 : decode prog_8_method_6_code 53 = .ok (.if_icmp .ne 10, 3) := by decide +kernel
theorem d0_56 : decode prog_8_method_6_code 56 = .ok (.getstatic 13, 3) := by decide +kernel
theorem ww40 {Z : State} {a0 : Array Value} (hw : ∀ d ∈ tables_1, d.before a0 Z = true) : Jvm.Cond.before (Jvm.Cond.fieldLink cn_0 (13 : Nat) cn_0 "FORBIDDEN" cn_1) a0 Z = true := hw _ (List.mem_of_getElem? (i := 40) rfl)
theorem d0_59 : decode prog_8_method_6_code 59 = .ok (.astore_n 1, 1) := by decide +kernel
theorem d0_60 : decode prog_8_method_6_code 60 = .ok (.goto 126, 3) := by decide +kernel
abbrev rr_of403 : Room := { frames := 0, cells := 0, slots := 0, locals := 0 }
theorem ef_of403 (m : MethodId)  : entryFrame m #[(.int 403)] 2 = mkF m 0 #[.val (.int 403), .unset] [] := by first | (simp [entryFrame, mkF, argsToLocals, Value.category]; done) | rfl
def f_of403 (w_DELIVERED : Addr) (w_BAD_REQUEST : Addr) (w_UNAUTHORIZED : Addr) (w_FORBIDDEN : Addr) (w_NOT_FOUND : Addr) (w_GONE : Addr) (w_TIMED_OUT : Addr) (w_PAYLOAD_TOO_LARGE : Addr) (w_BUSY : Addr) (w_REDIRECTED : Addr) (w_SERVER_ERROR : Addr) (w_FAILED : Addr) (w_SOCKET_ERROR : Addr) (w_RESOLUTION_ERROR : Addr) (w_PROBATION : Addr)  : Addr := w_FORBIDDEN
def Q_of403 (Z : State) (w_DELIVERED : Addr) (w_BAD_REQUEST : Addr) (w_UNAUTHORIZED : Addr) (w_FORBIDDEN : Addr) (w_NOT_FOUND : Addr) (w_GONE : Addr) (w_TIMED_OUT : Addr) (w_PAYLOAD_TOO_LARGE : Addr) (w_BUSY : Addr) (w_REDIRECTED : Addr) (w_SERVER_ERROR : Addr) (w_FAILED : Addr) (w_SOCKET_ERROR : Addr) (w_RESOLUTION_ERROR : Addr) (w_PROBATION : Addr)  (h0 : Heap) (n0 : Nat) (v : Option Value) (h : Heap) (L : List Loc) : Prop := v = some (.ref (f_of403 w_DELIVERED w_BAD_REQUEST w_UNAUTHORIZED w_FORBIDDEN w_NOT_FOUND w_GONE w_TIMED_OUT w_PAYLOAD_TOO_LARGE w_BUSY w_REDIRECTED w_SERVER_ERROR w_FAILED w_SOCKET_ERROR w_RESOLUTION_ERROR w_PROBATION)) ∧ Fr n0 L ∧ h = h0
set_option maxRecDepth 65536 in
set_option maxHeartbeats 40000000 in
theorem rm_of403 (l : Launch) (Z : State) (a0 : Array Value) (hw : ∀ d ∈ tables_1, d.before a0 Z = true) (ws : List Jvm.Cond) (w_DELIVERED : Addr) (w_BAD_REQUEST : Addr) (w_UNAUTHORIZED : Addr) (w_FORBIDDEN : Addr) (w_NOT_FOUND : Addr) (w_GONE : Addr) (w_TIMED_OUT : Addr) (w_PAYLOAD_TOO_LARGE : Addr) (w_BUSY : Addr) (w_REDIRECTED : Addr) (w_SERVER_ERROR : Addr) (w_FAILED : Addr) (w_SOCKET_ERROR : Addr) (w_RESOLUTION_ERROR : Addr) (w_PROBATION : Addr)  (h0 : Heap) (n0 : Nat) (Z0 : n0 ≤ h0.size) (ST : own_St Z w_DELIVERED w_BAD_REQUEST w_UNAUTHORIZED w_FORBIDDEN w_NOT_FOUND w_GONE w_TIMED_OUT w_PAYLOAD_TOO_LARGE w_BUSY w_REDIRECTED w_SERVER_ERROR w_FAILED w_SOCKET_ERROR w_RESOLUTION_ERROR w_PROBATION) (O0 : Old Z n0 h0) :
    MetFree l y_0 (head1 (Jvm.Cond.code y_0 prog_8_method_6_code 2 (some (.object cn_0)) :: ws) rr_of403) (fun a U => a = #[(.int 403)] ∧ Z.Warmed39 U.vm ∧ U.heap = h0) (fun _ _ _ _ _ => True) (fun _ U o U' => ∃ v L, o = .returned v ∧ Q_of403 Z w_DELIVERED w_BAD_REQUEST w_UNAUTHORIZED w_FORBIDDEN w_NOT_FOUND w_GONE w_TIMED_OUT w_PAYLOAD_TOO_LARGE w_BUSY w_REDIRECTED w_SERVER_ERROR w_FAILED w_SOCKET_ERROR w_RESOLUTION_ERROR w_PROBATION h0 n0 v U'.heap L ∧ FrameEnd U o U' L rr_of403.cells rr_of403.slots) := by
  refine MetFree.of_bodySF (plainFor_of_name pn_0) hisR ?_
  intro p e s m args below meth c s₁ Bd hml0 hP hK
  obtain ⟨rfl, hZ, hh⟩ := hP
  have hx := Bd.exec
  have hby := Bd.bytes
  have hml : c.maxLocals = 2 := hml0
  have hown : s.vm.findClass cn_0 = some m.cls := findClass_of_methodNamed Bd.named
  have hnm := (name_of_methodNamed Bd.named Bd.method).1
  have X0 : Stand p l e rr_of403 s m #[(.int 403)] below meth c s₁ [] 0 0 := Stand.of_body Bd
  have e0 : s₁.heap = h0 := by rw [← hh, Bd.state]; rfl
  have N0 := Fr.nil n0
  obtain ⟨G, step, ret, fin⟩ := own_open (p := p) (l := l) (e := e) (R := rr_of403) (s := s) (m := m) (args := #[(.int 403)]) (below := below) (meth := meth) (c := c) (rr_of403.cells) (rr_of403.slots) (Q_of403 Z w_DELIVERED w_BAD_REQUEST w_UNAUTHORIZED w_FORBIDDEN w_NOT_FOUND w_GONE w_TIMED_OUT w_PAYLOAD_TOO_LARGE w_BUSY w_REDIRECTED w_SERVER_ERROR w_FAILED w_SOCKET_ERROR w_RESOLUTION_ERROR w_PROBATION h0 n0) Bd.notSynchronized
  refine fin (g := entryFrame m #[(.int 403)] 2) ?_
  rw [ef_of403 m ]
  show G s₁ (mkF m 0 #[.val (.int 403), .unset] [])
  refine step (fun t k => XS.iloadN X0.here hx rfl (hb hby d0_0) rfl k) ?_
  show G s₁ (mkF m 1 #[.val (.int 403), .unset] [(.int 403)])
  refine step (fun t k => XS.sipush X0.here hx rfl (hb hby d0_1) k) ?_
  show G s₁ (mkF m 4 #[.val (.int 403), .unset] [(.int 200), (.int 403)])
  refine step (fun t k => XS.icmpNo X0.here hx rfl (hb hby d0_4) rfl (flt (by decide : ¬ ((403 : Int32) < (200 : Int32)))).1 k) ?_
  show G s₁ (mkF m 7 #[.val (.int 403), .unset] [])
  refine step (fun t k => XS.iloadN X0.here hx rfl (hb hby d0_7) rfl k) ?_
  show G s₁ (mkF m 8 #[.val (.int 403), .unset] [(.int 403)])
  refine step (fun t k => XS.sipush X0.here hx rfl (hb hby d0_8) k) ?_
  show G s₁ (mkF m 11 #[.val (.int 403), .unset] [(.int 204), (.int 403)])
  refine step (fun t k => XS.icmpYes X0.here hx rfl (pc0 := 11) (pc' := 21) rfl (hb hby d0_11) rfl (tlt (by decide : (204 : Int32) < (403 : Int32))).2.2.1 (by decide) (by decide) k) ?_
  show G s₁ (mkF m 21 #[.val (.int 403), .unset] [])
  refine step (fun t k => XS.iloadN X0.here hx rfl (hb hby d0_21) rfl k) ?_
  show G s₁ (mkF m 22 #[.val (.int 403), .unset] [(.int 403)])
  refine step (fun t k => XS.sipush X0.here hx rfl (hb hby d0_22) k) ?_
  show G s₁ (mkF m 25 #[.val (.int 403), .unset] [(.int 400), (.int 403)])
  refine step (fun t k => XS.icmpYes X0.here hx rfl (pc0 := 25) (pc' := 35) rfl (hb hby d0_25) rfl (feq (by decide : ¬ ((403 : Int32) = (400 : Int32)))).2 (by decide) (by decide) k) ?_
  show G s₁ (mkF m 35 #[.val (.int 403), .unset] [])
  refine step (fun t k => XS.iloadN X0.here hx rfl (hb hby d0_35) rfl k) ?_
  show G s₁ (mkF m 36 #[.val (.int 403), .unset] [(.int 403)])
  refine step (fun t k => XS.sipush X0.here hx rfl (hb hby d0_36) k) ?_
  show G s₁ (mkF m 39 #[.val (.int 403), .unset] [(.int 401), (.int 403)])
  refine step (fun t k => XS.icmpYes X0.here hx rfl (pc0 := 39) (pc' := 49) rfl (hb hby d0_39) rfl (feq (by decide : ¬ ((403 : Int32) = (401 : Int32)))).2 (by decide) (by decide) k) ?_
  show G s₁ (mkF m 49 #[.val (.int 403), .unset] [])
  refine step (fun t k => XS.iloadN X0.here hx rfl (hb hby d0_49) rfl k) ?_
  show G s₁ (mkF m 50 #[.val (.int 403), .unset] [(.int 403)])
  refine step (fun t k => XS.sipush X0.here hx rfl (hb hby d0_50) k) ?_
  show G s₁ (mkF m 53 #[.val (.int 403), .unset] [(.int 403), (.int 403)])
  refine step (fun t k => XS.icmpNo X0.here hx rfl (hb hby d0_53) rfl (teq (by decide : (403 : Int32) = (403 : Int32))).2 k) ?_
  show G s₁ (mkF m 56 #[.val (.int 403), .unset] [])
  obtain ⟨T1, X1, e1, st1⟩ := getS2 X0 hx hZ hown (host := "") (Or.inl (ww40 hw)) Via.refl e0 (Sta.ext O0.2 ST.k6) (g := (mkF m 56 #[.val (.int 403), .unset] [])) rfl (hb hby d0_56)
  refine step st1 ?_
  show G T1 (mkF m 59 #[.val (.int 403), .unset] [(.ref w_FORBIDDEN)])
  refine step (fun t k => XS.astoreN X1.here hx rfl (hb hby d0_59) rfl rfl (l' := #[.val (.int 403), .val (.ref w_FORBIDDEN)]) rfl k) ?_
  show G T1 (mkF m 60 #[.val (.int 403), .val (.ref w_FORBIDDEN)] [])
  refine step (fun t k => XS.goto X1.here hx rfl (pc0 := 60) (pc' := 186) rfl (hb hby d0_60) (by decide) (by decide) k) ?_
  show G T1 (mkF m 186 #[.val (.int 403), .val (.ref w_FORBIDDEN)] [])
  refine step (fun t k => XS.aloadN X1.here hx rfl (hb hby d0_186) rfl rfl k) ?_
  show G T1 (mkF m 187 #[.val (.int 403), .val (.ref w_FORBIDDEN)] [(.ref w_FORBIDDEN)])
  exact ret (v := some (.ref w_FORBIDDEN)) X1 (fun h => by rw [Bd.returns] at h; cases h) (fun fs hr => retA X1 hx Bd.returns rfl rfl (hb hby d0_187) hr) e1 ⟨rfl, N0, rfl⟩ (by decide) (by decide)
theorem d0_63 : decode prog_8_method_6_code 63 = .ok (.iload_n 0, 1) := by decide +kernel
theorem d0_64 : decode prog_8_method_6_code 64 = .ok (.sipush 404, 3) := by decide +kernel
theorem d0_67 : decode prog_8_method_6_code 67 = .ok (.if_icmp .ne 10, 3) := by decide +kernel
theorem d0_77 : decode prog_8_method_6_code 77 = .ok (.iload_n 0, 1) := by decide +kernel
theorem d0_78 : decode prog_8_method_6_code 78 = .ok (.sipush 408, 3) := by decide +kernel
theorem d0_81 : decode prog_8_method_6_code 81 = .ok (.if_icmp .ne 10, 3) := by decide +kernel
theorem d0_91 : decode prog_8_method_6_code 91 = .ok (.iload_n 0, 1) := by decide +kernel
theorem d0_92 : decode prog_8_method_6_code 92 = .ok (.sipush 410, 3) := by decide +kernel
theorem d0_95 : decode prog_8_method_6_code 95 = .ok (.if_icmp .ne 10, 3) := by decide +kernel
theorem d0_98 : decode prog_8_method_6_code 98 = .ok (.getstatic 19, 3) := by decide +kernel
theorem ww41 {Z : State} {a0 : Array Value} (hw : ∀ d ∈ tables_1, d.before a0 Z = true) : Jvm.Cond.before (Jvm.Cond.fieldLink cn_0 (19 : Nat) cn_0 "GONE" cn_1) a0 Z = true := hw _ (List.mem_of_getElem? (i := 41) rfl)
theorem d0_101 : decode prog_8_method_6_code 101 = .ok (.astore_n 1, 1) := by decide +kernel
theorem d0_102 : decode prog_8_method_6_code 102 = .ok (.goto 84, 3) := by decide +kernel
abbrev rr_of410 : Room := { frames := 0, cells := 0, slots := 0, locals := 0 }
theorem ef_of410 (m : MethodId)  : entryFrame m #[(.int 410)] 2 = mkF m 0 #[.val (.int 410), .unset] [] := by first | (simp [entryFrame, mkF, argsToLocals, Value.category]; done) | rfl
def f_of410 (w_DELIVERED : Addr) (w_BAD_REQUEST : Addr) (w_UNAUTHORIZED : Addr) (w_FORBIDDEN : Addr) (w_NOT_FOUND : Addr) (w_GONE : Addr) (w_TIMED_OUT : Addr) (w_PAYLOAD_TOO_LARGE : Addr) (w_BUSY : Addr) (w_REDIRECTED : Addr) (w_SERVER_ERROR : Addr) (w_FAILED : Addr) (w_SOCKET_ERROR : Addr) (w_RESOLUTION_ERROR : Addr) (w_PROBATION : Addr)  : Addr := w_GONE
def Q_of410 (Z : State) (w_DELIVERED : Addr) (w_BAD_REQUEST : Addr) (w_UNAUTHORIZED : Addr) (w_FORBIDDEN : Addr) (w_NOT_FOUND : Addr) (w_GONE : Addr) (w_TIMED_OUT : Addr) (w_PAYLOAD_TOO_LARGE : Addr) (w_BUSY : Addr) (w_REDIRECTED : Addr) (w_SERVER_ERROR : Addr) (w_FAILED : Addr) (w_SOCKET_ERROR : Addr) (w_RESOLUTION_ERROR : Addr) (w_PROBATION : Addr)  (h0 : Heap) (n0 : Nat) (v : Option Value) (h : Heap) (L : List Loc) : Prop := v = some (.ref (f_of410 w_DELIVERED w_BAD_REQUEST w_UNAUTHORIZED w_FORBIDDEN w_NOT_FOUND w_GONE w_TIMED_OUT w_PAYLOAD_TOO_LARGE w_BUSY w_REDIRECTED w_SERVER_ERROR w_FAILED w_SOCKET_ERROR w_RESOLUTION_ERROR w_PROBATION)) ∧ Fr n0 L ∧ h = h0
set_option maxRecDepth 65536 in
set_option maxHeartbeats 40000000 in
theorem rm_of410 (l : Launch) (Z : State) (a0 : Array Value) (hw : ∀ d ∈ tables_1, d.before a0 Z = true) (ws : List Jvm.Cond) (w_DELIVERED : Addr) (w_BAD_REQUEST : Addr) (w_UNAUTHORIZED : Addr) (w_FORBIDDEN : Addr) (w_NOT_FOUND : Addr) (w_GONE : Addr) (w_TIMED_OUT : Addr) (w_PAYLOAD_TOO_LARGE : Addr) (w_BUSY : Addr) (w_REDIRECTED : Addr) (w_SERVER_ERROR : Addr) (w_FAILED : Addr) (w_SOCKET_ERROR : Addr) (w_RESOLUTION_ERROR : Addr) (w_PROBATION : Addr)  (h0 : Heap) (n0 : Nat) (Z0 : n0 ≤ h0.size) (ST : own_St Z w_DELIVERED w_BAD_REQUEST w_UNAUTHORIZED w_FORBIDDEN w_NOT_FOUND w_GONE w_TIMED_OUT w_PAYLOAD_TOO_LARGE w_BUSY w_REDIRECTED w_SERVER_ERROR w_FAILED w_SOCKET_ERROR w_RESOLUTION_ERROR w_PROBATION) (O0 : Old Z n0 h0) :
    MetFree l y_0 (head1 (Jvm.Cond.code y_0 prog_8_method_6_code 2 (some (.object cn_0)) :: ws) rr_of410) (fun a U => a = #[(.int 410)] ∧ Z.Warmed39 U.vm ∧ U.heap = h0) (fun _ _ _ _ _ => True) (fun _ U o U' => ∃ v L, o = .returned v ∧ Q_of410 Z w_DELIVERED w_BAD_REQUEST w_UNAUTHORIZED w_FORBIDDEN w_NOT_FOUND w_GONE w_TIMED_OUT w_PAYLOAD_TOO_LARGE w_BUSY w_REDIRECTED w_SERVER_ERROR w_FAILED w_SOCKET_ERROR w_RESOLUTION_ERROR w_PROBATION h0 n0 v U'.heap L ∧ FrameEnd U o U' L rr_of410.cells rr_of410.slots) := by
  refine MetFree.of_bodySF (plainFor_of_name pn_0) hisR ?_
  intro p e s m args below meth c s₁ Bd hml0 hP hK
  obtain ⟨rfl, hZ, hh⟩ := hP
  have hx := Bd.exec
  have hby := Bd.bytes
  have hml : c.maxLocals = 2 := hml0
  have hown : s.vm.findClass cn_0 = some m.cls := findClass_of_methodNamed Bd.named
  have hnm := (name_of_methodNamed Bd.named Bd.method).1
  have X0 : Stand p l e rr_of410 s m #[(.int 410)] below meth c s₁ [] 0 0 := Stand.of_body Bd
  have e0 : s₁.heap = h0 := by rw [← hh, Bd.state]; rfl
  have N0 := Fr.nil n0
  obtain ⟨G, step, ret, fin⟩ := own_open (p := p) (l := l) (e := e) (R := rr_of410) (s := s) (m := m) (args := #[(.int 410)]) (below := below) (meth := meth) (c := c) (rr_of410.cells) (rr_of410.slots) (Q_of410 Z w_DELIVERED w_BAD_REQUEST w_UNAUTHORIZED w_FORBIDDEN w_NOT_FOUND w_GONE w_TIMED_OUT w_PAYLOAD_TOO_LARGE w_BUSY w_REDIRECTED w_SERVER_ERROR w_FAILED w_SOCKET_ERROR w_RESOLUTION_ERROR w_PROBATION h0 n0) Bd.notSynchronized
  refine fin (g := entryFrame m #[(.int 410)] 2) ?_
  rw [ef_of410 m ]
  show G s₁ (mkF m 0 #[.val (.int 410), .unset] [])
  refine step (fun t k => XS.iloadN X0.here hx rfl (hb hby d0_0) rfl k) ?_
  show G s₁ (mkF m 1 #[.val (.int 410), .unset] [(.int 410)])
  refine step (fun t k => XS.sipush X0.here hx rfl (hb hby d0_1) k) ?_
  show G s₁ (mkF m 4 #[.val (.int 410), .unset] [(.int 200), (.int 410)])
  refine step (fun t k => XS.icmpNo X0.here hx rfl (hb hby d0_4) rfl (flt (by decide : ¬ ((410 : Int32) < (200 : Int32)))).1 k) ?_
  show G s₁ (mkF m 7 #[.val (.int 410), .unset] [])
  refine step (fun t k => XS.iloadN X0.here hx rfl (hb hby d0_7) rfl k) ?_
  show G s₁ (mkF m 8 #[.val (.int 410), .unset] [(.int 410)])
  refine step (fun t k => XS.sipush X0.here hx rfl (hb hby d0_8) k) ?_
  show G s₁ (mkF m 11 #[.val (.int 410), .unset] [(.int 204), (.int 410)])
  refine step (fun t k => XS.icmpYes X0.here hx rfl (pc0 := 11) (pc' := 21) rfl (hb hby d0_11) rfl (tlt (by decide : (204 : Int32) < (410 : Int32))).2.2.1 (by decide) (by decide) k) ?_
  show G s₁ (mkF m 21 #[.val (.int 410), .unset] [])
  refine step (fun t k => XS.iloadN X0.here hx rfl (hb hby d0_21) rfl k) ?_
  show G s₁ (mkF m 22 #[.val (.int 410), .unset] [(.int 410)])
  refine step (fun t k => XS.sipush X0.here hx rfl (hb hby d0_22) k) ?_
  show G s₁ (mkF m 25 #[.val (.int 410), .unset] [(.int 400), (.int 410)])
  refine step (fun t k => XS.icmpYes X0.here hx rfl (pc0 := 25) (pc' := 35) rfl (hb hby d0_25) rfl (feq (by decide : ¬ ((410 : Int32) = (400 : Int32)))).2 (by decide) (by decide) k) ?_
  show G s₁ (mkF m 35 #[.val (.int 410), .unset] [])
  refine step (fun t k => XS.iloadN X0.here hx rfl (hb hby d0_35) rfl k) ?_
  show G s₁ (mkF m 36 #[.val (.int 410), .unset] [(.int 410)])
  refine step (fun t k => XS.sipush X0.here hx rfl (hb hby d0_36) k) ?_
  show G s₁ (mkF m 39 #[.val (.int 410), .unset] [(.int 401), (.int 410)])
  refine step (fun t k => XS.icmpYes X0.here hx rfl (pc0 := 39) (pc' := 49) rfl (hb hby d0_39) rfl (feq (by decide : ¬ ((410 : Int32) = (401 : Int32)))).2 (by decide) (by decide) k) ?_
  show G s₁ (mkF m 49 #[.val (.int 410), .unset] [])
  refine step (fun t k => XS.iloadN X0.here hx rfl (hb hby d0_49) rfl k) ?_
  show G s₁ (mkF m 50 #[.val (.int 410), .unset] [(.int 410)])
  refine step (fun t k => XS.sipush X0.here hx rfl (hb hby d0_50) k) ?_
  show G s₁ (mkF m 53 #[.val (.int 410), .unset] [(.int 403), (.int 410)])
  refine step (fun t k => XS.icmpYes X0.here hx rfl (pc0 := 53) (pc' := 63) rfl (hb hby d0_53) rfl (feq (by decide : ¬ ((410 : Int32) = (403 : Int32)))).2 (by decide) (by decide) k) ?_
  show G s₁ (mkF m 63 #[.val (.int 410), .unset] [])
  refine step (fun t k => XS.iloadN X0.here hx rfl (hb hby d0_63) rfl k) ?_
  show G s₁ (mkF m 64 #[.val (.int 410), .unset] [(.int 410)])
  refine step (fun t k => XS.sipush X0.here hx rfl (hb hby d0_64) k) ?_
  show G s₁ (mkF m 67 #[.val (.int 410), .unset] [(.int 404), (.int 410)])
  refine step (fun t k => XS.icmpYes X0.here hx rfl (pc0 := 67) (pc' := 77) rfl (hb hby d0_67) rfl (feq (by decide : ¬ ((410 : Int32) = (404 : Int32)))).2 (by decide) (by decide) k) ?_
  show G s₁ (mkF m 77 #[.val (.int 410), .unset] [])
  refine step (fun t k => XS.iloadN X0.here hx rfl (hb hby d0_77) rfl k) ?_
  show G s₁ (mkF m 78 #[.val (.int 410), .unset] [(.int 410)])
  refine step (fun t k => XS.sipush X0.here hx rfl (hb hby d0_78) k) ?_
  show G s₁ (mkF m 81 #[.val (.int 410), .unset] [(.int 408), (.int 410)])
  refine step (fun t k => XS.icmpYes X0.here hx rfl (pc0 := 81) (pc' := 91) rfl (hb hby d0_81) rfl (feq (by decide : ¬ ((410 : Int32) = (408 : Int32)))).2 (by decide) (by decide) k) ?_
  show G s₁ (mkF m 91 #[.val (.int 410), .unset] [])
  refine step (fun t k => XS.iloadN X0.here hx rfl (hb hby d0_91) rfl k) ?_
  show G s₁ (mkF m 92 #[.val (.int 410), .unset] [(.int 410)])
  refine step (fun t k => XS.sipush X0.here hx rfl (hb hby d0_92) k) ?_
  show G s₁ (mkF m 95 #[.val (.int 410), .unset] [(.int 410), (.int 410)])
  refine step (fun t k => XS.icmpNo X0.here hx rfl (hb hby d0_95) rfl (teq (by decide : (410 : Int32) = (410 : Int32))).2 k) ?_
  show G s₁ (mkF m 98 #[.val (.int 410), .unset] [])
  obtain ⟨T1, X1, e1, st1⟩ := getS2 X0 hx hZ hown (host := "") (Or.inl (ww41 hw)) Via.refl e0 (Sta.ext O0.2 ST.k10) (g := (mkF m 98 #[.val (.int 410), .unset] [])) rfl (hb hby d0_98)
  refine step st1 ?_
  show G T1 (mkF m 101 #[.val (.int 410), .unset] [(.ref w_GONE)])
  refine step (fun t k => XS.astoreN X1.here hx rfl (hb hby d0_101) rfl rfl (l' := #[.val (.int 410), .val (.ref w_GONE)]) rfl k) ?_
  show G T1 (mkF m 102 #[.val (.int 410), .val (.ref w_GONE)] [])
  refine step (fun t k => XS.goto X1.here hx rfl (pc0 := 102) (pc' := 186) rfl (hb hby d0_102) (by decide) (by decide) k) ?_
  show G T1 (mkF m 186 #[.val (.int 410), .val (.ref w_GONE)] [])
  refine step (fun t k => XS.aloadN X1.here hx rfl (hb hby d0_186) rfl rfl k) ?_
  show G T1 (mkF m 187 #[.val (.int 410), .val (.ref w_GONE)] [(.ref w_GONE)])
  exact ret (v := some (.ref w_GONE)) X1 (fun h => by rw [Bd.returns] at h; cases h) (fun fs hr => retA X1 hx Bd.returns rfl rfl (hb hby d0_187) hr) e1 ⟨rfl, N0, rfl⟩ (by decide) (by decide)
theorem d0_105 : decode prog_8_method_6_code 105 = .ok (.iload_n 0, 1) := by decide +kernel
theorem d0_106 : decode prog_8_method_6_code 106 = .ok (.sipush 413, 3) := by decide +kernel
theorem d0_109 : decode prog_8_method_6_code 109 = .ok (.if_icmp .ne 10, 3) := by decide +kernel
theorem d0_112 : decode prog_8_method_6_code 112 = .ok (.getstatic 25, 3) := by decide +kernel
theorem ww42 {Z : State} {a0 : Array Value} (hw : ∀ d ∈ tables_1, d.before a0 Z = true) : Jvm.Cond.before (Jvm.Cond.fieldLink cn_0 (25 : Nat) cn_0 "PAYLOAD_TOO_LARGE" cn_1) a0 Z = true := hw _ (List.mem_of_getElem? (i := 42) rfl)
theorem d0_115 : decode prog_8_method_6_code 115 = .ok (.astore_n 1, 1) := by decide +kernel
theorem d0_116 : decode prog_8_method_6_code 116 = .ok (.goto 70, 3) := by decide +kernel
abbrev rr_of413 : Room := { frames := 0, cells := 0, slots := 0, locals := 0 }
theorem ef_of413 (m : MethodId)  : entryFrame m #[(.int 413)] 2 = mkF m 0 #[.val (.int 413), .unset] [] := by first | (simp [entryFrame, mkF, argsToLocals, Value.category]; done) | rfl
def f_of413 (w_DELIVERED : Addr) (w_BAD_REQUEST : Addr) (w_UNAUTHORIZED : Addr) (w_FORBIDDEN : Addr) (w_NOT_FOUND : Addr) (w_GONE : Addr) (w_TIMED_OUT : Addr) (w_PAYLOAD_TOO_LARGE : Addr) (w_BUSY : Addr) (w_REDIRECTED : Addr) (w_SERVER_ERROR : Addr) (w_FAILED : Addr) (w_SOCKET_ERROR : Addr) (w_RESOLUTION_ERROR : Addr) (w_PROBATION : Addr)  : Addr := w_PAYLOAD_TOO_LARGE
def Q_of413 (Z : State) (w_DELIVERED : Addr) (w_BAD_REQUEST : Addr) (w_UNAUTHORIZED : Addr) (w_FORBIDDEN : Addr) (w_NOT_FOUND : Addr) (w_GONE : Addr) (w_TIMED_OUT : Addr) (w_PAYLOAD_TOO_LARGE : Addr) (w_BUSY : Addr) (w_REDIRECTED : Addr) (w_SERVER_ERROR : Addr) (w_FAILED : Addr) (w_SOCKET_ERROR : Addr) (w_RESOLUTION_ERROR : Addr) (w_PROBATION : Addr)  (h0 : Heap) (n0 : Nat) (v : Option Value) (h : Heap) (L : List Loc) : Prop := v = some (.ref (f_of413 w_DELIVERED w_BAD_REQUEST w_UNAUTHORIZED w_FORBIDDEN w_NOT_FOUND w_GONE w_TIMED_OUT w_PAYLOAD_TOO_LARGE w_BUSY w_REDIRECTED w_SERVER_ERROR w_FAILED w_SOCKET_ERROR w_RESOLUTION_ERROR w_PROBATION)) ∧ Fr n0 L ∧ h = h0
set_option maxRecDepth 65536 in
set_option maxHeartbeats 40000000 in
theorem rm_of413 (l : Launch) (Z : State) (a0 : Array Value) (hw : ∀ d ∈ tables_1, d.before a0 Z = true) (ws : List Jvm.Cond) (w_DELIVERED : Addr) (w_BAD_REQUEST : Addr) (w_UNAUTHORIZED : Addr) (w_FORBIDDEN : Addr) (w_NOT_FOUND : Addr) (w_GONE : Addr) (w_TIMED_OUT : Addr) (w_PAYLOAD_TOO_LARGE : Addr) (w_BUSY : Addr) (w_REDIRECTED : Addr) (w_SERVER_ERROR : Addr) (w_FAILED : Addr) (w_SOCKET_ERROR : Addr) (w_RESOLUTION_ERROR : Addr) (w_PROBATION : Addr)  (h0 : Heap) (n0 : Nat) (Z0 : n0 ≤ h0.size) (ST : own_St Z w_DELIVERED w_BAD_REQUEST w_UNAUTHORIZED w_FORBIDDEN w_NOT_FOUND w_GONE w_TIMED_OUT w_PAYLOAD_TOO_LARGE w_BUSY w_REDIRECTED w_SERVER_ERROR w_FAILED w_SOCKET_ERROR w_RESOLUTION_ERROR w_PROBATION) (O0 : Old Z n0 h0) :
    MetFree l y_0 (head1 (Jvm.Cond.code y_0 prog_8_method_6_code 2 (some (.object cn_0)) :: ws) rr_of413) (fun a U => a = #[(.int 413)] ∧ Z.Warmed39 U.vm ∧ U.heap = h0) (fun _ _ _ _ _ => True) (fun _ U o U' => ∃ v L, o = .returned v ∧ Q_of413 Z w_DELIVERED w_BAD_REQUEST w_UNAUTHORIZED w_FORBIDDEN w_NOT_FOUND w_GONE w_TIMED_OUT w_PAYLOAD_TOO_LARGE w_BUSY w_REDIRECTED w_SERVER_ERROR w_FAILED w_SOCKET_ERROR w_RESOLUTION_ERROR w_PROBATION h0 n0 v U'.heap L ∧ FrameEnd U o U' L rr_of413.cells rr_of413.slots) := by
  refine MetFree.of_bodySF (plainFor_of_name pn_0) hisR ?_
  intro p e s m args below meth c s₁ Bd hml0 hP hK
  obtain ⟨rfl, hZ, hh⟩ := hP
  have hx := Bd.exec
  have hby := Bd.bytes
  have hml : c.maxLocals = 2 := hml0
  have hown : s.vm.findClass cn_0 = some m.cls := findClass_of_methodNamed Bd.named
  have hnm := (name_of_methodNamed Bd.named Bd.method).1
  have X0 : Stand p l e rr_of413 s m #[(.int 413)] below meth c s₁ [] 0 0 := Stand.of_body Bd
  have e0 : s₁.heap = h0 := by rw [← hh, Bd.state]; rfl
  have N0 := Fr.nil n0
  obtain ⟨G, step, ret, fin⟩ := own_open (p := p) (l := l) (e := e) (R := rr_of413) (s := s) (m := m) (args := #[(.int 413)]) (below := below) (meth := meth) (c := c) (rr_of413.cells) (rr_of413.slots) (Q_of413 Z w_DELIVERED w_BAD_REQUEST w_UNAUTHORIZED w_FORBIDDEN w_NOT_FOUND w_GONE w_TIMED_OUT w_PAYLOAD_TOO_LARGE w_BUSY w_REDIRECTED w_SERVER_ERROR w_FAILED w_SOCKET_ERROR w_RESOLUTION_ERROR w_PROBATION h0 n0) Bd.notSynchronized
  refine fin (g := entryFrame m #[(.int 413)] 2) ?_
  rw [ef_of413 m ]
  show G s₁ (mkF m 0 #[.val (.int 413), .unset] [])
  refine step (fun t k => XS.iloadN X0.here hx rfl (hb hby d0_0) rfl k) ?_
  show G s₁ (mkF m 1 #[.val (.int 413), .unset] [(.int 413)])
  refine step (fun t k => XS.sipush X0.here hx rfl (hb hby d0_1) k) ?_
  show G s₁ (mkF m 4 #[.val (.int 413), .unset] [(.int 200), (.int 413)])
  refine step (fun t k => XS.icmpNo X0.here hx rfl (hb hby d0_4) rfl (flt (by decide : ¬ ((413 : Int32) < (200 : Int32)))).1 k) ?_
  show G s₁ (mkF m 7 #[.val (.int 413), .unset] [])
  refine step (fun t k => XS.iloadN X0.here hx rfl (hb hby d0_7) rfl k) ?_
  show G s₁ (mkF m 8 #[.val (.int 413), .unset] [(.int 413)])
  refine step (fun t k => XS.sipush X0.here hx rfl (hb hby d0_8) k) ?_
  show G s₁ (mkF m 11 #[.val (.int 413), .unset] [(.int 204), (.int 413)])
  refine step (fun t k => XS.icmpYes X0.here hx rfl (pc0 := 11) (pc' := 21) rfl (hb hby d0_11) rfl (tlt (by decide : (204 : Int32) < (413 : Int32))).2.2.1 (by decide) (by decide) k) ?_
  show G s₁ (mkF m 21 #[.val (.int 413), .unset] [])
  refine step (fun t k => XS.iloadN X0.here hx rfl (hb hby d0_21) rfl k) ?_
  show G s₁ (mkF m 22 #[.val (.int 413), .unset] [(.int 413)])
  refine step (fun t k => XS.sipush X0.here hx rfl (hb hby d0_22) k) ?_
  show G s₁ (mkF m 25 #[.val (.int 413), .unset] [(.int 400), (.int 413)])
  refine step (fun t k => XS.icmpYes X0.here hx rfl (pc0 := 25) (pc' := 35) rfl (hb hby d0_25) rfl (feq (by decide : ¬ ((413 : Int32) = (400 : Int32)))).2 (by decide) (by decide) k) ?_
  show G s₁ (mkF m 35 #[.val (.int 413), .unset] [])
  refine step (fun t k => XS.iloadN X0.here hx rfl (hb hby d0_35) rfl k) ?_
  show G s₁ (mkF m 36 #[.val (.int 413), .unset] [(.int 413)])
  refine step (fun t k => XS.sipush X0.here hx rfl (hb hby d0_36) k) ?_
  show G s₁ (mkF m 39 #[.val (.int 413), .unset] [(.int 401), (.int 413)])
  refine step (fun t k => XS.icmpYes X0.here hx rfl (pc0 := 39) (pc' := 49) rfl (hb hby d0_39) rfl (feq (by decide : ¬ ((413 : Int32) = (401 : Int32)))).2 (by decide) (by decide) k) ?_
  show G s₁ (mkF m 49 #[.val (.int 413), .unset] [])
  refine step (fun t k => XS.iloadN X0.here hx rfl (hb hby d0_49) rfl k) ?_
  show G s₁ (mkF m 50 #[.val (.int 413), .unset] [(.int 413)])
  refine step (fun t k => XS.sipush X0.here hx rfl (hb hby d0_50) k) ?_
  show G s₁ (mkF m 53 #[.val (.int 413), .unset] [(.int 403), (.int 413)])
  refine step (fun t k => XS.icmpYes X0.here hx rfl (pc0 := 53) (pc' := 63) rfl (hb hby d0_53) rfl (feq (by decide : ¬ ((413 : Int32) = (403 : Int32)))).2 (by decide) (by decide) k) ?_
  show G s₁ (mkF m 63 #[.val (.int 413), .unset] [])
  refine step (fun t k => XS.iloadN X0.here hx rfl (hb hby d0_63) rfl k) ?_
  show G s₁ (mkF m 64 #[.val (.int 413), .unset] [(.int 413)])
  refine step (fun t k => XS.sipush X0.here hx rfl (hb hby d0_64) k) ?_
  show G s₁ (mkF m 67 #[.val (.int 413), .unset] [(.int 404), (.int 413)])
  refine step (fun t k => XS.icmpYes X0.here hx rfl (pc0 := 67) (pc' := 77) rfl (hb hby d0_67) rfl (feq (by decide : ¬ ((413 : Int32) = (404 : Int32)))).2 (by decide) (by decide) k) ?_
  show G s₁ (mkF m 77 #[.val (.int 413), .unset] [])
  refine step (fun t k => XS.iloadN X0.here hx rfl (hb hby d0_77) rfl k) ?_
  show G s₁ (mkF m 78 #[.val (.int 413), .unset] [(.int 413)])
  refine step (fun t k => XS.sipush X0.here hx rfl (hb hby d0_78) k) ?_
  show G s₁ (mkF m 81 #[.val (.int 413), .unset] [(.int 408), (.int 413)])
  refine step (fun t k => XS.icmpYes X0.here hx rfl (pc0 := 81) (pc' := 91) rfl (hb hby d0_81) rfl (feq (by decide : ¬ ((413 : Int32) = (408 : Int32)))).2 (by decide) (by decide) k) ?_
  show G s₁ (mkF m 91 #[.val (.int 413), .unset] [])
  refine step (fun t k => XS.iloadN X0.here hx rfl (hb hby d0_91) rfl k) ?_
  show G s₁ (mkF m 92 #[.val (.int 413), .unset] [(.int 413)])
  refine step (fun t k => XS.sipush X0.here hx rfl (hb hby d0_92) k) ?_
  show G s₁ (mkF m 95 #[.val (.int 413), .unset] [(.int 410), (.int 413)])
  refine step (fun t k => XS.icmpYes X0.here hx rfl (pc0 := 95) (pc' := 105) rfl (hb hby d0_95) rfl (feq (by decide : ¬ ((413 : Int32) = (410 : Int32)))).2 (by decide) (by decide) k) ?_
  show G s₁ (mkF m 105 #[.val (.int 413), .unset] [])
  refine step (fun t k => XS.iloadN X0.here hx rfl (hb hby d0_105) rfl k) ?_
  show G s₁ (mkF m 106 #[.val (.int 413), .unset] [(.int 413)])
  refine step (fun t k => XS.sipush X0.here hx rfl (hb hby d0_106) k) ?_
  show G s₁ (mkF m 109 #[.val (.int 413), .unset] [(.int 413), (.int 413)])
  refine step (fun t k => XS.icmpNo X0.here hx rfl (hb hby d0_109) rfl (teq (by decide : (413 : Int32) = (413 : Int32))).2 k) ?_
  show G s₁ (mkF m 112 #[.val (.int 413), .unset] [])
  obtain ⟨T1, X1, e1, st1⟩ := getS2 X0 hx hZ hown (host := "") (Or.inl (ww42 hw)) Via.refl e0 (Sta.ext O0.2 ST.k14) (g := (mkF m 112 #[.val (.int 413), .unset] [])) rfl (hb hby d0_112)
  refine step st1 ?_
  show G T1 (mkF m 115 #[.val (.int 413), .unset] [(.ref w_PAYLOAD_TOO_LARGE)])
  refine step (fun t k => XS.astoreN X1.here hx rfl (hb hby d0_115) rfl rfl (l' := #[.val (.int 413), .val (.ref w_PAYLOAD_TOO_LARGE)]) rfl k) ?_
  show G T1 (mkF m 116 #[.val (.int 413), .val (.ref w_PAYLOAD_TOO_LARGE)] [])
  refine step (fun t k => XS.goto X1.here hx rfl (pc0 := 116) (pc' := 186) rfl (hb hby d0_116) (by decide) (by decide) k) ?_
  show G T1 (mkF m 186 #[.val (.int 413), .val (.ref w_PAYLOAD_TOO_LARGE)] [])
  refine step (fun t k => XS.aloadN X1.here hx rfl (hb hby d0_186) rfl rfl k) ?_
  show G T1 (mkF m 187 #[.val (.int 413), .val (.ref w_PAYLOAD_TOO_LARGE)] [(.ref w_PAYLOAD_TOO_LARGE)])
  exact ret (v := some (.ref w_PAYLOAD_TOO_LARGE)) X1 (fun h => by rw [Bd.returns] at h; cases h) (fun fs hr => retA X1 hx Bd.returns rfl rfl (hb hby d0_187) hr) e1 ⟨rfl, N0, rfl⟩ (by decide) (by decide)
theorem d1_0 : decode jdk_37_method_2_code 0 = .ok (.aload_n 0, 1) := by decide +kernel
theorem d1_1 : decode jdk_37_method_2_code 1 = .ok (.getfield 7, 3) := by decide +kernel
theorem ww55 {Z : State} {a0 : Array Value} (hw : ∀ d ∈ tables_1, d.before a0 Z = true) : Jvm.Cond.before (Jvm.Cond.fieldLink cn_3 (7 : Nat) cn_3 "ordinal" "I") a0 Z = true := hw _ (List.mem_of_getElem? (i := 55) rfl)
theorem d1_4 : decode jdk_37_method_2_code 4 = .ok (.ireturn, 1) := by decide +kernel
abbrev rr_ordi : Room := { frames := 0, cells := 0, slots := 0, locals := 0 }
abbrev y_1 : MethodName := ⟨cn_3, "ordinal", "()I"⟩
theorem pn_1 : plainName cn_3 = true := by first | (simp [plainName, overriddenIn]; done) | decide +kernel
theorem ef_ordi (m : MethodId) (o0 : Addr) : entryFrame m #[(.ref o0)] 1 = mkF m 0 #[.val (.ref o0)] [] := by first | (simp [entryFrame, mkF, argsToLocals, Value.category]; done) | rfl
def f_ordi (w_DELIVERED : Addr) (w_BAD_REQUEST : Addr) (w_UNAUTHORIZED : Addr) (w_FORBIDDEN : Addr) (w_NOT_FOUND : Addr) (w_GONE : Addr) (w_TIMED_OUT : Addr) (w_PAYLOAD_TOO_LARGE : Addr) (w_BUSY : Addr) (w_REDIRECTED : Addr) (w_SERVER_ERROR : Addr) (w_FAILED : Addr) (w_SOCKET_ERROR : Addr) (w_RESOLUTION_ERROR : Addr) (w_PROBATION : Addr) (o0 : Addr) (od : Int32) : Int32 := od
def Q_ordi (Z : State) (w_DELIVERED : Addr) (w_BAD_REQUEST : Addr) (w_UNAUTHORIZED : Addr) (w_FORBIDDEN : Addr) (w_NOT_FOUND : Addr) (w_GONE : Addr) (w_TIMED_OUT : Addr) (w_PAYLOAD_TOO_LARGE : Addr) (w_BUSY : Addr) (w_REDIRECTED : Addr) (w_SERVER_ERROR : Addr) (w_FAILED : Addr) (w_SOCKET_ERROR : Addr) (w_RESOLUTION_ERROR : Addr) (w_PROBATION : Addr) (o0 : Addr) (od : Int32) (h0 : Heap) (n0 : Nat) (v : Option Value) (h : Heap) (L : List Loc) : Prop := v = some (.int (f_ordi w_DELIVERED w_BAD_REQUEST w_UNAUTHORIZED w_FORBIDDEN w_NOT_FOUND w_GONE w_TIMED_OUT w_PAYLOAD_TOO_LARGE w_BUSY w_REDIRECTED w_SERVER_ERROR w_FAILED w_SOCKET_ERROR w_RESOLUTION_ERROR w_PROBATION o0 od)) ∧ Fr n0 L ∧ h = h0
set_option maxRecDepth 65536 in
set_option maxHeartbeats 40000000 in
theorem rm_ordi (l : Launch) (Z : State) (a0 : Array Value) (hw : ∀ d ∈ tables_1, d.before a0 Z = true) (ws : List Jvm.Cond) (w_DELIVERED : Addr) (w_BAD_REQUEST : Addr) (w_UNAUTHORIZED : Addr) (w_FORBIDDEN : Addr) (w_NOT_FOUND : Addr) (w_GONE : Addr) (w_TIMED_OUT : Addr) (w_PAYLOAD_TOO_LARGE : Addr) (w_BUSY : Addr) (w_REDIRECTED : Addr) (w_SERVER_ERROR : Addr) (w_FAILED : Addr) (w_SOCKET_ERROR : Addr) (w_RESOLUTION_ERROR : Addr) (w_PROBATION : Addr) (o0 : Addr) (od : Int32) (h0 : Heap) (n0 : Nat) (Z0 : n0 ≤ h0.size) (ST : own_St Z w_DELIVERED w_BAD_REQUEST w_UNAUTHORIZED w_FORBIDDEN w_NOT_FOUND w_GONE w_TIMED_OUT w_PAYLOAD_TOO_LARGE w_BUSY w_REDIRECTED w_SERVER_ERROR w_FAILED w_SOCKET_ERROR w_RESOLUTION_ERROR w_PROBATION) (O0 : Old Z n0 h0) (Fod : Fld Z h0 o0 cn_3 "ordinal" "I" (.int od)) :
    MetFree l y_1 (head1 (Jvm.Cond.code y_1 jdk_37_method_2_code 1 (some .int) :: ws) rr_ordi) (fun a U => a = #[(.ref o0)] ∧ Z.Warmed39 U.vm ∧ U.heap = h0) (fun _ _ _ _ _ => True) (fun _ U o U' => ∃ v L, o = .returned v ∧ Q_ordi Z w_DELIVERED w_BAD_REQUEST w_UNAUTHORIZED w_FORBIDDEN w_NOT_FOUND w_GONE w_TIMED_OUT w_PAYLOAD_TOO_LARGE w_BUSY w_REDIRECTED w_SERVER_ERROR w_FAILED w_SOCKET_ERROR w_RESOLUTION_ERROR w_PROBATION o0 od h0 n0 v U'.heap L ∧ FrameEnd U o U' L rr_ordi.cells rr_ordi.slots) := by
  refine MetFree.of_bodySF (plainFor_of_name pn_1) hisR ?_
  intro p e s m args below meth c s₁ Bd hml0 hP hK
  obtain ⟨rfl, hZ, hh⟩ := hP
  have hx := Bd.exec
  have hby := Bd.bytes
  have hml : c.maxLocals = 1 := hml0
  have hown : s.vm.findClass cn_3 = some m.cls := findClass_of_methodNamed Bd.named
  have hnm := (name_of_methodNamed Bd.named Bd.method).1
  have X0 : Stand p l e rr_ordi s m #[(.ref o0)] below meth c s₁ [] 0 0 := Stand.of_body Bd
  have e0 : s₁.heap = h0 := by rw [← hh, Bd.state]; rfl
  have N0 := Fr.nil n0
  obtain ⟨G, step, ret, fin⟩ := own_open (p := p) (l := l) (e := e) (R := rr_ordi) (s := s) (m := m) (args := #[(.ref o0)]) (below := below) (meth := meth) (c := c) (rr_ordi.cells) (rr_ordi.slots) (Q_ordi Z w_DELIVERED w_BAD_REQUEST w_UNAUTHORIZED w_FORBIDDEN w_NOT_FOUND w_GONE w_TIMED_OUT w_PAYLOAD_TOO_LARGE w_BUSY w_REDIRECTED w_SERVER_ERROR w_FAILED w_SOCKET_ERROR w_RESOLUTION_ERROR w_PROBATION o0 od h0 n0) Bd.notSynchronized
  refine fin (g := entryFrame m #[(.ref o0)] 1) ?_
  rw [ef_ordi m o0]
  show G s₁ (mkF m 0 #[.val (.ref o0)] [])
  refine step (fun t k => XS.aloadN X0.here hx rfl (hb hby d1_0) rfl rfl k) ?_
  show G s₁ (mkF m 1 #[.val (.ref o0)] [(.ref o0)])
  obtain ⟨T1, X1, e1, st1⟩ := getF X0 hx hZ hown (host := "") (Or.inl (ww55 hw)) Via.refl e0 Fod (g := (mkF m 1 #[.val (.ref o0)] [(.ref o0)])) rfl rfl (hb hby d1_1)
  refine step st1 ?_
  show G T1 (mkF m 4 #[.val (.ref o0)] [(.int od)])
  exact ret (v := some (.int od)) X1 (fun h => by rw [Bd.returns] at h; cases h) (fun fs hr => retI X1 hx Bd.returns (hb hby d1_4) hr) e1 ⟨rfl, N0, rfl⟩ (by decide) (by decide)
abbrev y_2 : MethodName := ⟨cn_0, "ordinal", "()I"⟩
theorem d2_0 : decode prog_8_method_7_code 0 = .ok (.aload_n 0, 1) := by decide +kernel
theorem d2_1 : decode prog_8_method_7_code 1 = .ok (.invokevirtual 77, 3) := by decide +kernel
theorem ww48 {Z : State} {a0 : Array Value} (hw : ∀ d ∈ tables_1, d.before a0 Z = true) : Jvm.Cond.before (Jvm.Cond.methodLink cn_0 (77 : Nat) ({ cls := cn_0, name := "ordinal", desc := "()I" } : Jvm.MethodName)) a0 Z = true := hw _ (List.mem_of_getElem? (i := 48) rfl)
theorem ww52 {Z : State} {a0 : Array Value} (hw : ∀ d ∈ tables_1, d.before a0 Z = true) : Jvm.Cond.before (Jvm.Cond.selects cn_0 ({ cls := cn_0, name := "ordinal", desc := "()I" } : Jvm.MethodName) ({ cls := cn_3, name := "ordinal", desc := "()I" } : Jvm.MethodName)) a0 Z = true := hw _ (List.mem_of_getElem? (i := 52) rfl)
theorem ww54 {Z : State} {a0 : Array Value} (hw : ∀ d ∈ tables_1, d.before a0 Z = true) : Jvm.Cond.before (Jvm.Cond.code ({ cls := cn_3, name := "ordinal", desc := "()I" } : Jvm.MethodName) jdk_37_method_2_code (1 : Nat) (Option.some Jvm.ClassFile.FieldType.int)) a0 Z = true := hw _ (List.mem_of_getElem? (i := 54) rfl)
theorem ww53 {Z : State} {a0 : Array Value} (hw : ∀ d ∈ tables_1, d.before a0 Z = true) : Jvm.Cond.before (Jvm.Cond.initialized cn_3) a0 Z = true := hw _ (List.mem_of_getElem? (i := 53) rfl)
theorem pd_0 : parseMethodDescriptor "()I" = some ⟨[], some .int⟩ := by decide +kernel
theorem ww49 {Z : State} {a0 : Array Value} (hw : ∀ d ∈ tables_1, d.before a0 Z = true) : Jvm.Cond.before (Jvm.Cond.sameMethod cn_0 cn_3 "ordinal" "()I") a0 Z = true := hw _ (List.mem_of_getElem? (i := 49) rfl)
theorem ww50 {Z : State} {a0 : Array Value} (hw : ∀ d ∈ tables_1, d.before a0 Z = true) : Jvm.Cond.before (Jvm.Cond.declares ({ cls := cn_3, name := "ordinal", desc := "()I" } : Jvm.MethodName)) a0 Z = true := hw _ (List.mem_of_getElem? (i := 50) rfl)
theorem ww51 {Z : State} {a0 : Array Value} (hw : ∀ d ∈ tables_1, d.before a0 Z = true) : Jvm.Cond.before (Jvm.Cond.instanceMethod ({ cls := cn_3, name := "ordinal", desc := "()I" } : Jvm.MethodName)) a0 Z = true := hw _ (List.mem_of_getElem? (i := 51) rfl)
theorem d2_4 : decode prog_8_method_7_code 4 = .ok (.tableswitch 48 1 7 #[44, 44, 44, 48, 44, 48, 44], 44) := by decide +kernel
theorem d2_48 : decode prog_8_method_7_code 48 = .ok (.iconst 0, 1) := by decide +kernel
theorem d2_49 : decode prog_8_method_7_code 49 = .ok (.goto 4, 3) := by decide +kernel
theorem d2_53 : decode prog_8_method_7_code 53 = .ok (.ireturn, 1) := by decide +kernel
theorem d2_52 : decode prog_8_method_7_code 52 = .ok (.iconst 1, 1) := by decide +kernel
abbrev rr_retr : Room := { frames := 1, cells := 0, slots := 0, locals := 12 }
abbrev y_3 : MethodName := ⟨cn_0, "isRetried", "()Z"⟩
theorem ef_retr (m : MethodId) (o0 : Addr) : entryFrame m #[(.ref o0)] 1 = mkF m 0 #[.val (.ref o0)] [] := by first | (simp [entryFrame, mkF, argsToLocals, Value.category]; done) | rfl
def f_retr (w_DELIVERED : Addr) (w_BAD_REQUEST : Addr) (w_UNAUTHORIZED : Addr) (w_FORBIDDEN : Addr) (w_NOT_FOUND : Addr) (w_GONE : Addr) (w_TIMED_OUT : Addr) (w_PAYLOAD_TOO_LARGE : Addr) (w_BUSY : Addr) (w_REDIRECTED : Addr) (w_SERVER_ERROR : Addr) (w_FAILED : Addr) (w_SOCKET_ERROR : Addr) (w_RESOLUTION_ERROR : Addr) (w_PROBATION : Addr) (o0 : Addr) (od : Int32) : Int32 := (if od = (1 : Int32) then (0 : Int32) else (if od = (2 : Int32) then (0 : Int32) else (if od = (3 : Int32) then (0 : Int32) else (if od = (4 : Int32) then (1 : Int32) else (if od = (5 : Int32) then (0 : Int32) else (if od = (6 : Int32) then (1 : Int32) else (if od = (7 : Int32) then (0 : Int32) else (1 : Int32))))))))
def Q_retr (Z : State) (w_DELIVERED : Addr) (w_BAD_REQUEST : Addr) (w_UNAUTHORIZED : Addr) (w_FORBIDDEN : Addr) (w_NOT_FOUND : Addr) (w_GONE : Addr) (w_TIMED_OUT : Addr) (w_PAYLOAD_TOO_LARGE : Addr) (w_BUSY : Addr) (w_REDIRECTED : Addr) (w_SERVER_ERROR : Addr) (w_FAILED : Addr) (w_SOCKET_ERROR : Addr) (w_RESOLUTION_ERROR : Addr) (w_PROBATION : Addr) (o0 : Addr) (od : Int32) (h0 : Heap) (n0 : Nat) (v : Option Value) (h : Heap) (L : List Loc) : Prop := v = some (.int (f_retr w_DELIVERED w_BAD_REQUEST w_UNAUTHORIZED w_FORBIDDEN w_NOT_FOUND w_GONE w_TIMED_OUT w_PAYLOAD_TOO_LARGE w_BUSY w_REDIRECTED w_SERVER_ERROR w_FAILED w_SOCKET_ERROR w_RESOLUTION_ERROR w_PROBATION o0 od)) ∧ Fr n0 L ∧ h = h0
set_option maxRecDepth 65536 in
set_option maxHeartbeats 40000000 in
theorem rm_retr (l : Launch) (Z : State) (a0 : Array Value) (hw : ∀ d ∈ tables_1, d.before a0 Z = true) (ws : List Jvm.Cond) (w_DELIVERED : Addr) (w_BAD_REQUEST : Addr) (w_UNAUTHORIZED : Addr) (w_FORBIDDEN : Addr) (w_NOT_FOUND : Addr) (w_GONE : Addr) (w_TIMED_OUT : Addr) (w_PAYLOAD_TOO_LARGE : Addr) (w_BUSY : Addr) (w_REDIRECTED : Addr) (w_SERVER_ERROR : Addr) (w_FAILED : Addr) (w_SOCKET_ERROR : Addr) (w_RESOLUTION_ERROR : Addr) (w_PROBATION : Addr) (o0 : Addr) (od : Int32) (h0 : Heap) (n0 : Nat) (Z0 : n0 ≤ h0.size) (ST : own_St Z w_DELIVERED w_BAD_REQUEST w_UNAUTHORIZED w_FORBIDDEN w_NOT_FOUND w_GONE w_TIMED_OUT w_PAYLOAD_TOO_LARGE w_BUSY w_REDIRECTED w_SERVER_ERROR w_FAILED w_SOCKET_ERROR w_RESOLUTION_ERROR w_PROBATION) (O0 : Old Z n0 h0) (Ex : Exa Z h0 o0 cn_0) (Fod : Fld Z h0 o0 cn_3 "ordinal" "I" (.int od)) :
    MetFree l y_3 (head1 (Jvm.Cond.code y_3 prog_8_method_7_code 1 (some .boolean) :: ws) rr_retr) (fun a U => a = #[(.ref o0)] ∧ Z.Warmed39 U.vm ∧ U.heap = h0) (fun _ _ _ _ _ => True) (fun _ U o U' => ∃ v L, o = .returned v ∧ Q_retr Z w_DELIVERED w_BAD_REQUEST w_UNAUTHORIZED w_FORBIDDEN w_NOT_FOUND w_GONE w_TIMED_OUT w_PAYLOAD_TOO_LARGE w_BUSY w_REDIRECTED w_SERVER_ERROR w_FAILED w_SOCKET_ERROR w_RESOLUTION_ERROR w_PROBATION o0 od h0 n0 v U'.heap L ∧ FrameEnd U o U' L rr_retr.cells rr_retr.slots) := by
  refine MetFree.of_bodySF (plainFor_of_name pn_0) hisR ?_
  intro p e s m args below meth c s₁ Bd hml0 hP hK
  obtain ⟨rfl, hZ, hh⟩ := hP
  have hx := Bd.exec
  have hby := Bd.bytes
  have hml : c.maxLocals = 1 := hml0
  have hown : s.vm.findClass cn_0 = some m.cls := findClass_of_methodNamed Bd.named
  have hnm := (name_of_methodNamed Bd.named Bd.method).1
  have X0 : Stand p l e rr_retr s m #[(.ref o0)] below meth c s₁ [] 0 0 := Stand.of_body Bd
  have e0 : s₁.heap = h0 := by rw [← hh, Bd.state]; rfl
  have N0 := Fr.nil n0
  obtain ⟨G, step, ret, fin⟩ := own_open (p := p) (l := l) (e := e) (R := rr_retr) (s := s) (m := m) (args := #[(.ref o0)]) (below := below) (meth := meth) (c := c) (rr_retr.cells) (rr_retr.slots) (Q_retr Z w_DELIVERED w_BAD_REQUEST w_UNAUTHORIZED w_FORBIDDEN w_NOT_FOUND w_GONE w_TIMED_OUT w_PAYLOAD_TOO_LARGE w_BUSY w_REDIRECTED w_SERVER_ERROR w_FAILED w_SOCKET_ERROR w_RESOLUTION_ERROR w_PROBATION o0 od h0 n0) Bd.notSynchronized
  refine fin (g := entryFrame m #[(.ref o0)] 1) ?_
  rw [ef_retr m o0]
  show G s₁ (mkF m 0 #[.val (.ref o0)] [])
  refine step (fun t k => XS.aloadN X0.here hx rfl (hb hby d2_0) rfl rfl k) ?_
  show G s₁ (mkF m 1 #[.val (.ref o0)] [(.ref o0)])
  have hK1 := (backOf (R := rr_retr) (p := p) (e := e) (below := below) (s := s) (args := #[(.ref o0)]) (len := 3) (W := 0) (rm_ordi l Z a0 hw [] w_DELIVERED w_BAD_REQUEST w_UNAUTHORIZED w_FORBIDDEN w_NOT_FOUND w_GONE w_TIMED_OUT w_PAYLOAD_TOO_LARGE w_BUSY w_REDIRECTED w_SERVER_ERROR w_FAILED w_SOCKET_ERROR w_RESOLUTION_ERROR w_PROBATION o0 od h0 n0 (own_old_le O0) ST O0 Fod) hZ (ww54 hw) (ww53 hw) (by decide) (by decide))
  obtain ⟨cq1, kq1, q1a, q1b, q1c⟩ := isOf hZ e0 Ex
  obtain ⟨_, _, ⟨T1, L1, k1, n1⟩, -, X1, ⟨Lc1, hQ1, l1, y1, z1⟩, st1⟩ := X0.virtualBackUp hx (x := y_2) (y := y_1) (owner := cn_3) hown (mvT hZ (ww48 hw)) (mvT hZ (ww49 hw)) (mvT hZ (ww50 hw)) (by decide) (mvT hZ (ww52 hw)) (mvT hZ (ww51 hw)) hK1 q1a q1c (g := (mkF m 1 #[.val (.ref o0)] [(.ref o0)])) rfl (by rw [hml]; rfl) (Steps.refl _) (argsL := []) (rest := []) (lenOf pd_0 rfl) rfl (by show 2 * 0 + _ ≤ _; exact Nat.le_of_eq rfl) (hb hby d2_1) (fun _ _ => ⟨rfl, e0, (by decide : 0 + 0 ≤ _), (by decide : 0 + 0 ≤ _)⟩)
  dsimp only [Pt.U, Pt.locs, Pt.cells, Pt.slots] at X1 l1 y1 z1 st1 hQ1
  subst l1 y1 z1
  obtain ⟨rfl, N1q, e1⟩ := hQ1
  have N1 := Fr.app N0 N1q
  obtain ⟨lc1, X1, N1⟩ := own_gen X1 N1
  refine step (fun t k => st1.trans k) ?_
  show G T1 (mkF m 4 #[.val (.ref o0)] [(.int (f_ordi w_DELIVERED w_BAD_REQUEST w_UNAUTHORIZED w_FORBIDDEN w_NOT_FOUND w_GONE w_TIMED_OUT w_PAYLOAD_TOO_LARGE w_BUSY w_REDIRECTED w_SERVER_ERROR w_FAILED w_SOCKET_ERROR w_RESOLUTION_ERROR w_PROBATION o0 od))])
  have r2 : (f_ordi w_DELIVERED w_BAD_REQUEST w_UNAUTHORIZED w_FORBIDDEN w_NOT_FOUND w_GONE w_TIMED_OUT w_PAYLOAD_TOO_LARGE w_BUSY w_REDIRECTED w_SERVER_ERROR w_FAILED w_SOCKET_ERROR w_RESOLUTION_ERROR w_PROBATION o0 od) = od := rfl
  rw [r2]
  show G T1 (mkF m 4 #[.val (.ref o0)] [(.int od)])
  by_cases hc3 : od = (1 : Int32)
  · skip
    refine step (fun t k => XS.tswIn X1.here hx rfl (pc0 := 4) (pc' := 48) rfl (hb hby d2_4) rfl (by rw [hc3]; decide) (by rw [hc3]; rfl) (by decide) (by decide) k) ?_
    show G T1 (mkF m 48 #[.val (.ref o0)] [])
    refine step (fun t k => XS.iconst X1.here hx rfl (hb hby d2_48) k) ?_
    show G T1 (mkF m 49 #[.val (.ref o0)] [(.int 0)])
    refine step (fun t k => XS.goto X1.here hx rfl (pc0 := 49) (pc' := 53) rfl (hb hby d2_49) (by decide) (by decide) k) ?_
    show G T1 (mkF m 53 #[.val (.ref o0)] [(.int 0)])
    exact ret (v := some (.int 0)) X1 (fun h => by rw [Bd.returns] at h; cases h) (fun fs hr => retN X1 hx (t := .boolean) Bd.returns (by simp) (hb hby d2_53) hr) e1 ⟨by unfold f_retr; rw [if_pos hc3], N1, rfl⟩ (by decide) (by decide)
  · skip
    by_cases hc4 : od = (2 : Int32)
    · skip
      refine step (fun t k => XS.tswIn X1.here hx rfl (pc0 := 4) (pc' := 48) rfl (hb hby d2_4) rfl (by rw [hc4]; decide) (by rw [hc4]; rfl) (by decide) (by decide) k) ?_
      show G T1 (mkF m 48 #[.val (.ref o0)] [])
      refine step (fun t k => XS.iconst X1.here hx rfl (hb hby d2_48) k) ?_
      show G T1 (mkF m 49 #[.val (.ref o0)] [(.int 0)])
      refine step (fun t k => XS.goto X1.here hx rfl (pc0 := 49) (pc' := 53) rfl (hb hby d2_49) (by decide) (by decide) k) ?_
      show G T1 (mkF m 53 #[.val (.ref o0)] [(.int 0)])
      exact ret (v := some (.int 0)) X1 (fun h => by rw [Bd.returns] at h; cases h) (fun fs hr => retN X1 hx (t := .boolean) Bd.returns (by simp) (hb hby d2_53) hr) e1 ⟨by unfold f_retr; rw [if_neg hc3, if_pos hc4], N1, rfl⟩ (by decide) (by decide)
    · skip
      by_cases hc5 : od = (3 : Int32)
      · skip
        refine step (fun t k => XS.tswIn X1.here hx rfl (pc0 := 4) (pc' := 48) rfl (hb hby d2_4) rfl (by rw [hc5]; decide) (by rw [hc5]; rfl) (by decide) (by decide) k) ?_
        show G T1 (mkF m 48 #[.val (.ref o0)] [])
        refine step (fun t k => XS.iconst X1.here hx rfl (hb hby d2_48) k) ?_
        show G T1 (mkF m 49 #[.val (.ref o0)] [(.int 0)])
        refine step (fun t k => XS.goto X1.here hx rfl (pc0 := 49) (pc' := 53) rfl (hb hby d2_49) (by decide) (by decide) k) ?_
        show G T1 (mkF m 53 #[.val (.ref o0)] [(.int 0)])
        exact ret (v := some (.int 0)) X1 (fun h => by rw [Bd.returns] at h; cases h) (fun fs hr => retN X1 hx (t := .boolean) Bd.returns (by simp) (hb hby d2_53) hr) e1 ⟨by unfold f_retr; rw [if_neg hc3, if_neg hc4, if_pos hc5], N1, rfl⟩ (by decide) (by decide)
      · skip
        by_cases hc6 : od = (4 : Int32)
        · skip
          refine step (fun t k => XS.tswIn X1.here hx rfl (pc0 := 4) (pc' := 52) rfl (hb hby d2_4) rfl (by rw [hc6]; decide) (by rw [hc6]; rfl) (by decide) (by decide) k) ?_
          show G T1 (mkF m 52 #[.val (.ref o0)] [])
          refine step (fun t k => XS.iconst X1.here hx rfl (hb hby d2_52) k) ?_
          show G T1 (mkF m 53 #[.val (.ref o0)] [(.int 1)])
          exact ret (v := some (.int 1)) X1 (fun h => by rw [Bd.returns] at h; cases h) (fun fs hr => retN X1 hx (t := .boolean) Bd.returns (by simp) (hb hby d2_53) hr) e1 ⟨by unfold f_retr; rw [if_neg hc3, if_neg hc4, if_neg hc5, if_pos hc6], N1, rfl⟩ (by decide) (by decide)
        · skip
          by_cases hc7 : od = (5 : Int32)
          · skip
            refine step (fun t k => XS.tswIn X1.here hx rfl (pc0 := 4) (pc' := 48) rfl (hb hby d2_4) rfl (by rw [hc7]; decide) (by rw [hc7]; rfl) (by decide) (by decide) k) ?_
            show G T1 (mkF m 48 #[.val (.ref o0)] [])
            refine step (fun t k => XS.iconst X1.here hx rfl (hb hby d2_48) k) ?_
            show G T1 (mkF m 49 #[.val (.ref o0)] [(.int 0)])
            refine step (fun t k => XS.goto X1.here hx rfl (pc0 := 49) (pc' := 53) rfl (hb hby d2_49) (by decide) (by decide) k) ?_
            show G T1 (mkF m 53 #[.val (.ref o0)] [(.int 0)])
            exact ret (v := some (.int 0)) X1 (fun h => by rw [Bd.returns] at h; cases h) (fun fs hr => retN X1 hx (t := .boolean) Bd.returns (by simp) (hb hby d2_53) hr) e1 ⟨by unfold f_retr; rw [if_neg hc3, if_neg hc4, if_neg hc5, if_neg hc6, if_pos hc7], N1, rfl⟩ (by decide) (by decide)
          · skip
            by_cases hc8 : od = (6 : Int32)
            · skip
              refine step (fun t k => XS.tswIn X1.here hx rfl (pc0 := 4) (pc' := 52) rfl (hb hby d2_4) rfl (by rw [hc8]; decide) (by rw [hc8]; rfl) (by decide) (by decide) k) ?_
              show G T1 (mkF m 52 #[.val (.ref o0)] [])
              refine step (fun t k => XS.iconst X1.here hx rfl (hb hby d2_52) k) ?_
              show G T1 (mkF m 53 #[.val (.ref o0)] [(.int 1)])
              exact ret (v := some (.int 1)) X1 (fun h => by rw [Bd.returns] at h; cases h) (fun fs hr => retN X1 hx (t := .boolean) Bd.returns (by simp) (hb hby d2_53) hr) e1 ⟨by unfold f_retr; rw [if_neg hc3, if_neg hc4, if_neg hc5, if_neg hc6, if_neg hc7, if_pos hc8], N1, rfl⟩ (by decide) (by decide)
            · skip
              by_cases hc9 : od = (7 : Int32)
              · skip
                refine step (fun t k => XS.tswIn X1.here hx rfl (pc0 := 4) (pc' := 48) rfl (hb hby d2_4) rfl (by rw [hc9]; decide) (by rw [hc9]; rfl) (by decide) (by decide) k) ?_
                show G T1 (mkF m 48 #[.val (.ref o0)] [])
                refine step (fun t k => XS.iconst X1.here hx rfl (hb hby d2_48) k) ?_
                show G T1 (mkF m 49 #[.val (.ref o0)] [(.int 0)])
                refine step (fun t k => XS.goto X1.here hx rfl (pc0 := 49) (pc' := 53) rfl (hb hby d2_49) (by decide) (by decide) k) ?_
                show G T1 (mkF m 53 #[.val (.ref o0)] [(.int 0)])
                exact ret (v := some (.int 0)) X1 (fun h => by rw [Bd.returns] at h; cases h) (fun fs hr => retN X1 hx (t := .boolean) Bd.returns (by simp) (hb hby d2_53) hr) e1 ⟨by unfold f_retr; rw [if_neg hc3, if_neg hc4, if_neg hc5, if_neg hc6, if_neg hc7, if_neg hc8, if_pos hc9], N1, rfl⟩ (by decide) (by decide)
              · skip
                have ho10 : od.toInt < 1 ∨ od.toInt > 7 := by
                  have q1 : ¬ (od.toInt = 1) := fun q => hc3 (own_xeq.mpr (q.trans (by decide)))
                  have q2 : ¬ (od.toInt = 2) := fun q => hc4 (own_xeq.mpr (q.trans (by decide)))
                  have q3 : ¬ (od.toInt = 3) := fun q => hc5 (own_xeq.mpr (q.trans (by decide)))
                  have q4 : ¬ (od.toInt = 4) := fun q => hc6 (own_xeq.mpr (q.trans (by decide)))
                  have q5 : ¬ (od.toInt = 5) := fun q => hc7 (own_xeq.mpr (q.trans (by decide)))
                  have q6 : ¬ (od.toInt = 6) := fun q => hc8 (own_xeq.mpr (q.trans (by decide)))
                  have q7 : ¬ (od.toInt = 7) := fun q => hc9 (own_xeq.mpr (q.trans (by decide)))
                  omega
                refine step (fun t k => XS.tswOut X1.here hx rfl (pc0 := 4) (pc' := 52) rfl (hb hby d2_4) rfl ho10 (by decide) (by decide) k) ?_
                show G T1 (mkF m 52 #[.val (.ref o0)] [])
                refine step (fun t k => XS.iconst X1.here hx rfl (hb hby d2_52) k) ?_
                show G T1 (mkF m 53 #[.val (.ref o0)] [(.int 1)])
                exact ret (v := some (.int 1)) X1 (fun h => by rw [Bd.returns] at h; cases h) (fun fs hr => retN X1 hx (t := .boolean) Bd.returns (by simp) (hb hby d2_53) hr) e1 ⟨by unfold f_retr; rw [if_neg hc3, if_neg hc4, if_neg hc5, if_neg hc6, if_neg hc7, if_neg hc8, if_neg hc9], N1, rfl⟩ (by decide) (by decide)
theorem own_split (k : Int32) : ((k &&& (2147483647 : Int32)) % (15 : Int32)) = (0 : Int32) ∨ ((k &&& (2147483647 : Int32)) % (15 : Int32)) = (1 : Int32) ∨ ((k &&& (2147483647 : Int32)) % (15 : Int32)) = (2 : Int32) ∨ ((k &&& (2147483647 : Int32)) % (15 : Int32)) = (3 : Int32) ∨ ((k &&& (2147483647 : Int32)) % (15 : Int32)) = (4 : Int32) ∨ ((k &&& (2147483647 : Int32)) % (15 : Int32)) = (5 : Int32) ∨ ((k &&& (2147483647 : Int32)) % (15 : Int32)) = (6 : Int32) ∨ ((k &&& (2147483647 : Int32)) % (15 : Int32)) = (7 : Int32) ∨ ((k &&& (2147483647 : Int32)) % (15 : Int32)) = (8 : Int32) ∨ ((k &&& (2147483647 : Int32)) % (15 : Int32)) = (9 : Int32) ∨ ((k &&& (2147483647 : Int32)) % (15 : Int32)) = (10 : Int32) ∨ ((k &&& (2147483647 : Int32)) % (15 : Int32)) = (11 : Int32) ∨ ((k &&& (2147483647 : Int32)) % (15 : Int32)) = (12 : Int32) ∨ ((k &&& (2147483647 : Int32)) % (15 : Int32)) = (13 : Int32) ∨ ((k &&& (2147483647 : Int32)) % (15 : Int32)) = (14 : Int32) := by
  have c1 := c_mask k (2147483647 : Int32) 31 (by decide) (by decide)
  have c2 := c_irem (k &&& (2147483647 : Int32)) (15 : Int32) 15 (by decide)
  have r1 := rng32 k
  have q0 : (0 : Int32).toInt = 0 := by decide
  have q1 : (1 : Int32).toInt = 1 := by decide
  have q2 : (2 : Int32).toInt = 2 := by decide
  have q3 : (3 : Int32).toInt = 3 := by decide
  have q4 : (4 : Int32).toInt = 4 := by decide
  have q5 : (5 : Int32).toInt = 5 := by decide
  have q6 : (6 : Int32).toInt = 6 := by decide
  have q7 : (7 : Int32).toInt = 7 := by decide
  have q8 : (8 : Int32).toInt = 8 := by decide
  have q9 : (9 : Int32).toInt = 9 := by decide
  have q10 : (10 : Int32).toInt = 10 := by decide
  have q11 : (11 : Int32).toInt = 11 := by decide
  have q12 : (12 : Int32).toInt = 12 := by decide
  have q13 : (13 : Int32).toInt = 13 := by decide
  have q14 : (14 : Int32).toInt = 14 := by decide
  simp only [own_xeq, q0, q1, q2, q3, q4, q5, q6, q7, q8, q9, q10, q11, q12, q13, q14]
  generalize ((k &&& (2147483647 : Int32)) % (15 : Int32)).toInt = d at *
  generalize (k &&& (2147483647 : Int32)).toInt = x at *
  omega
theorem ww0 {Z : State} {a0 : Array Value} (hw : ∀ d ∈ tables_1, d.before a0 Z = true) : Jvm.Cond.before (Jvm.Cond.classLink cn_2 (7 : Nat) cn_0) a0 Z = true := hw _ (List.mem_of_getElem? (i := 0) rfl)
theorem ww1 {Z : State} {a0 : Array Value} (hw : ∀ d ∈ tables_1, d.before a0 Z = true) : Jvm.Cond.before (Jvm.Cond.arrayOver (Jvm.ClassFile.FieldType.object cn_0)) a0 Z = true := hw _ (List.mem_of_getElem? (i := 1) rfl)
theorem ww2 {Z : State} {a0 : Array Value} (hw : ∀ d ∈ tables_1, d.before a0 Z = true) : Jvm.Cond.before (Jvm.Cond.fieldLink cn_2 (9 : Nat) cn_0 "DELIVERED" cn_1) a0 Z = true := hw _ (List.mem_of_getElem? (i := 2) rfl)
theorem ww6 {Z : State} {a0 : Array Value} (hw : ∀ d ∈ tables_1, d.before a0 Z = true) : Jvm.Cond.before (Jvm.Cond.fieldLink cn_2 (13 : Nat) cn_0 "BAD_REQUEST" cn_1) a0 Z = true := hw _ (List.mem_of_getElem? (i := 6) rfl)
theorem ww8 {Z : State} {a0 : Array Value} (hw : ∀ d ∈ tables_1, d.before a0 Z = true) : Jvm.Cond.before (Jvm.Cond.fieldLink cn_2 (16 : Nat) cn_0 "UNAUTHORIZED" cn_1) a0 Z = true := hw _ (List.mem_of_getElem? (i := 8) rfl)
theorem ww10 {Z : State} {a0 : Array Value} (hw : ∀ d ∈ tables_1, d.before a0 Z = true) : Jvm.Cond.before (Jvm.Cond.fieldLink cn_2 (19 : Nat) cn_0 "FORBIDDEN" cn_1) a0 Z = true := hw _ (List.mem_of_getElem? (i := 10) rfl)
theorem ww12 {Z : State} {a0 : Array Value} (hw : ∀ d ∈ tables_1, d.before a0 Z = true) : Jvm.Cond.before (Jvm.Cond.fieldLink cn_2 (22 : Nat) cn_0 "NOT_FOUND" cn_1) a0 Z = true := hw _ (List.mem_of_getElem? (i := 12) rfl)
theorem ww14 {Z : State} {a0 : Array Value} (hw : ∀ d ∈ tables_1, d.before a0 Z = true) : Jvm.Cond.before (Jvm.Cond.fieldLink cn_2 (25 : Nat) cn_0 "GONE" cn_1) a0 Z = true := hw _ (List.mem_of_getElem? (i := 14) rfl)
theorem ww16 {Z : State} {a0 : Array Value} (hw : ∀ d ∈ tables_1, d.before a0 Z = true) : Jvm.Cond.before (Jvm.Cond.fieldLink cn_2 (28 : Nat) cn_0 "TIMED_OUT" cn_1) a0 Z = true := hw _ (List.mem_of_getElem? (i := 16) rfl)
theorem ww18 {Z : State} {a0 : Array Value} (hw : ∀ d ∈ tables_1, d.before a0 Z = true) : Jvm.Cond.before (Jvm.Cond.fieldLink cn_2 (31 : Nat) cn_0 "PAYLOAD_TOO_LARGE" cn_1) a0 Z = true := hw _ (List.mem_of_getElem? (i := 18) rfl)
theorem ww20 {Z : State} {a0 : Array Value} (hw : ∀ d ∈ tables_1, d.before a0 Z = true) : Jvm.Cond.before (Jvm.Cond.fieldLink cn_2 (34 : Nat) cn_0 "BUSY" cn_1) a0 Z = true := hw _ (List.mem_of_getElem? (i := 20) rfl)
theorem ww22 {Z : State} {a0 : Array Value} (hw : ∀ d ∈ tables_1, d.before a0 Z = true) : Jvm.Cond.before (Jvm.Cond.fieldLink cn_2 (37 : Nat) cn_0 "REDIRECTED" cn_1) a0 Z = true := hw _ (List.mem_of_getElem? (i := 22) rfl)
theorem ww24 {Z : State} {a0 : Array Value} (hw : ∀ d ∈ tables_1, d.before a0 Z = true) : Jvm.Cond.before (Jvm.Cond.fieldLink cn_2 (40 : Nat) cn_0 "SERVER_ERROR" cn_1) a0 Z = true := hw _ (List.mem_of_getElem? (i := 24) rfl)
theorem ww26 {Z : State} {a0 : Array Value} (hw : ∀ d ∈ tables_1, d.before a0 Z = true) : Jvm.Cond.before (Jvm.Cond.fieldLink cn_2 (43 : Nat) cn_0 "FAILED" cn_1) a0 Z = true := hw _ (List.mem_of_getElem? (i := 26) rfl)
theorem ww28 {Z : State} {a0 : Array Value} (hw : ∀ d ∈ tables_1, d.before a0 Z = true) : Jvm.Cond.before (Jvm.Cond.fieldLink cn_2 (46 : Nat) cn_0 "SOCKET_ERROR" cn_1) a0 Z = true := hw _ (List.mem_of_getElem? (i := 28) rfl)
theorem ww30 {Z : State} {a0 : Array Value} (hw : ∀ d ∈ tables_1, d.before a0 Z = true) : Jvm.Cond.before (Jvm.Cond.fieldLink cn_2 (49 : Nat) cn_0 "RESOLUTION_ERROR" cn_1) a0 Z = true := hw _ (List.mem_of_getElem? (i := 30) rfl)
theorem ww32 {Z : State} {a0 : Array Value} (hw : ∀ d ∈ tables_1, d.before a0 Z = true) : Jvm.Cond.before (Jvm.Cond.fieldLink cn_2 (52 : Nat) cn_0 "PROBATION" cn_1) a0 Z = true := hw _ (List.mem_of_getElem? (i := 32) rfl)
theorem ww34 {Z : State} {a0 : Array Value} (hw : ∀ d ∈ tables_1, d.before a0 Z = true) : Jvm.Cond.before (Jvm.Cond.constant cn_2 (55 : Nat) (2147483647 : Int32)) a0 Z = true := hw _ (List.mem_of_getElem? (i := 34) rfl)
theorem ww35 {Z : State} {a0 : Array Value} (hw : ∀ d ∈ tables_1, d.before a0 Z = true) : Jvm.Cond.before (Jvm.Cond.methodLink cn_2 (56 : Nat) ({ cls := cn_0, name := "ofStatus", desc := cn_4 } : Jvm.MethodName)) a0 Z = true := hw _ (List.mem_of_getElem? (i := 35) rfl)
theorem ww37 {Z : State} {a0 : Array Value} (hw : ∀ d ∈ tables_1, d.before a0 Z = true) : Jvm.Cond.before (Jvm.Cond.code ({ cls := cn_0, name := "ofStatus", desc := cn_4 } : Jvm.MethodName) prog_8_method_6_code (2 : Nat) (Option.some (Jvm.ClassFile.FieldType.object cn_0))) a0 Z = true := hw _ (List.mem_of_getElem? (i := 37) rfl)
theorem pd_1 : parseMethodDescriptor cn_4 = some ⟨[.int], some (.object cn_0)⟩ := by decide +kernel
theorem ww36 {Z : State} {a0 : Array Value} (hw : ∀ d ∈ tables_1, d.before a0 Z = true) : Jvm.Cond.before (Jvm.Cond.static ({ cls := cn_0, name := "ofStatus", desc := cn_4 } : Jvm.MethodName)) a0 Z = true := hw _ (List.mem_of_getElem? (i := 36) rfl)
theorem ww43 {Z : State} {a0 : Array Value} (hw : ∀ d ∈ tables_1, d.before a0 Z = true) : Jvm.Cond.before (Jvm.Cond.methodLink cn_2 (60 : Nat) ({ cls := cn_0, name := "isRetried", desc := "()Z" } : Jvm.MethodName)) a0 Z = true := hw _ (List.mem_of_getElem? (i := 43) rfl)
theorem ww46 {Z : State} {a0 : Array Value} (hw : ∀ d ∈ tables_1, d.before a0 Z = true) : Jvm.Cond.before (Jvm.Cond.selects cn_0 ({ cls := cn_0, name := "isRetried", desc := "()Z" } : Jvm.MethodName) ({ cls := cn_0, name := "isRetried", desc := "()Z" } : Jvm.MethodName)) a0 Z = true := hw _ (List.mem_of_getElem? (i := 46) rfl)
theorem ww47 {Z : State} {a0 : Array Value} (hw : ∀ d ∈ tables_1, d.before a0 Z = true) : Jvm.Cond.before (Jvm.Cond.code ({ cls := cn_0, name := "isRetried", desc := "()Z" } : Jvm.MethodName) prog_8_method_7_code (1 : Nat) (Option.some Jvm.ClassFile.FieldType.boolean)) a0 Z = true := hw _ (List.mem_of_getElem? (i := 47) rfl)
theorem pd_2 : parseMethodDescriptor "()Z" = some ⟨[], some .boolean⟩ := by decide +kernel
theorem ww44 {Z : State} {a0 : Array Value} (hw : ∀ d ∈ tables_1, d.before a0 Z = true) : Jvm.Cond.before (Jvm.Cond.declares ({ cls := cn_0, name := "isRetried", desc := "()Z" } : Jvm.MethodName)) a0 Z = true := hw _ (List.mem_of_getElem? (i := 44) rfl)
theorem ww45 {Z : State} {a0 : Array Value} (hw : ∀ d ∈ tables_1, d.before a0 Z = true) : Jvm.Cond.before (Jvm.Cond.instanceMethod ({ cls := cn_0, name := "isRetried", desc := "()Z" } : Jvm.MethodName)) a0 Z = true := hw _ (List.mem_of_getElem? (i := 45) rfl)
abbrev y_4 : MethodName := ⟨cn_2, "law", "(I)Z"⟩
theorem pn_2 : plainName cn_2 = true := by first | (simp [plainName, overriddenIn]; done) | decide +kernel
theorem ef_law (m : MethodId) (p0 : Int32) : entryFrame m #[(.int p0)] maxLocals = mkF m 0 #[.val (.int p0), .unset, .unset, .unset, .unset, .unset, .unset, .unset, .unset] [] := by first | (simp [entryFrame, mkF, argsToLocals, Value.category, maxLocals]; done) | rfl
def Q_law (Z : State) (w_DELIVERED : Addr) (w_BAD_REQUEST : Addr) (w_UNAUTHORIZED : Addr) (w_FORBIDDEN : Addr) (w_NOT_FOUND : Addr) (w_GONE : Addr) (w_TIMED_OUT : Addr) (w_PAYLOAD_TOO_LARGE : Addr) (w_BUSY : Addr) (w_REDIRECTED : Addr) (w_SERVER_ERROR : Addr) (w_FAILED : Addr) (w_SOCKET_ERROR : Addr) (w_RESOLUTION_ERROR : Addr) (w_PROBATION : Addr) (p0 : Int32) (h0 : Heap) (n0 : Nat) (v : Option Value) (h : Heap) (L : List Loc) : Prop := v = some (.int 1) ∧ Fr n0 L
set_option maxRecDepth 65536 in
set_option maxHeartbeats 40000000 in
theorem rm_law (l : Launch) (Z : State) (a0 : Array Value) (hw : ∀ d ∈ tables_1, d.before a0 Z = true) (ws : List Jvm.Cond) (w_DELIVERED : Addr) (w_BAD_REQUEST : Addr) (w_UNAUTHORIZED : Addr) (w_FORBIDDEN : Addr) (w_NOT_FOUND : Addr) (w_GONE : Addr) (w_TIMED_OUT : Addr) (w_PAYLOAD_TOO_LARGE : Addr) (w_BUSY : Addr) (w_REDIRECTED : Addr) (w_SERVER_ERROR : Addr) (w_FAILED : Addr) (w_SOCKET_ERROR : Addr) (w_RESOLUTION_ERROR : Addr) (w_PROBATION : Addr) (p0 : Int32) (h0 : Heap) (n0 : Nat) (Z0 : n0 ≤ h0.size) (ST : own_St Z w_DELIVERED w_BAD_REQUEST w_UNAUTHORIZED w_FORBIDDEN w_NOT_FOUND w_GONE w_TIMED_OUT w_PAYLOAD_TOO_LARGE w_BUSY w_REDIRECTED w_SERVER_ERROR w_FAILED w_SOCKET_ERROR w_RESOLUTION_ERROR w_PROBATION) (O0 : Old Z n0 h0) :
    MetFree l x (head1 (Jvm.Cond.code x code maxLocals ret :: ws) room_1) (fun a U => a = #[(.int p0)] ∧ Z.Warmed39 U.vm ∧ U.heap = h0) (fun _ _ _ _ _ => True) (fun _ U o U' => ∃ v L, o = .returned v ∧ Q_law Z w_DELIVERED w_BAD_REQUEST w_UNAUTHORIZED w_FORBIDDEN w_NOT_FOUND w_GONE w_TIMED_OUT w_PAYLOAD_TOO_LARGE w_BUSY w_REDIRECTED w_SERVER_ERROR w_FAILED w_SOCKET_ERROR w_RESOLUTION_ERROR w_PROBATION p0 h0 n0 v U'.heap L ∧ FrameEnd U o U' L 1 15) := by
  refine MetFree.of_bodySF (plainFor_of_name pn_2) hisR ?_
  intro p e s m args below meth c s₁ Bd hml0 hP hK
  obtain ⟨rfl, hZ, hh⟩ := hP
  have hx := Bd.exec
  have hby := Bd.bytes
  have hml : c.maxLocals = 9 := hml0
  have hown : s.vm.findClass cn_2 = some m.cls := findClass_of_methodNamed Bd.named
  have hnm := (name_of_methodNamed Bd.named Bd.method).1
  have X0 : Stand p l e room_1 s m #[(.int p0)] below meth c s₁ [] 0 0 := Stand.of_body Bd
  have e0 : s₁.heap = h0 := by rw [← hh, Bd.state]; rfl
  have N0 := Fr.nil n0
  obtain ⟨G, step, ret, fin⟩ := own_open (p := p) (l := l) (e := e) (R := room_1) (s := s) (m := m) (args := #[(.int p0)]) (below := below) (meth := meth) (c := c) (1) (15) (Q_law Z w_DELIVERED w_BAD_REQUEST w_UNAUTHORIZED w_FORBIDDEN w_NOT_FOUND w_GONE w_TIMED_OUT w_PAYLOAD_TOO_LARGE w_BUSY w_REDIRECTED w_SERVER_ERROR w_FAILED w_SOCKET_ERROR w_RESOLUTION_ERROR w_PROBATION p0 h0 n0) Bd.notSynchronized
  refine fin (g := entryFrame m #[(.int p0)] maxLocals) ?_
  rw [ef_law m p0]
  obtain ⟨ls0, hls0⟩  := own_sl #[.val (.int p0), .unset, .unset, .unset, .unset, .unset, .unset, .unset, .unset]
  suffices hG0 : G s₁ (mkF m 0 ls0 []) by rw [hls0] at hG0; exact hG0
  show G s₁ (mkF m 0 ls0 [])
  refine step (fun t k => XS.bipush X0.here hx rfl (hb hby at_0) k) ?_
  show G s₁ (mkF m 2 ls0 [(.int 15)])
  obtain ⟨T1, h1, k1, X1, e1, E1, A1, B1, U1, st1⟩ := newRE X0 hx hZ hown (ww0 hw) (ww1 hw) e0 (g := (mkF m 2 ls0 [(.int 15)])) rfl (hb hby at_2) rfl (by decide) (cap := 15) (by decide) (by decide) (by decide) (by decide) (ad := "[Lcom/example/redeliver/redeliver/core/Outcome;") (by decide)
  obtain ⟨b1, g1⟩ : ∃ z, z = h0.size := ⟨_, rfl⟩
  rw [← g1] at A1 B1 st1
  have V1 : Arv Z h1 b1 k1 (.object cn_0) (15 : Int32) [.null, .null, .null, .null, .null, .null, .null, .null, .null, .null, .null, .null, .null, .null, .null] .null := (Arv.new A1 (by decide)).pad (pad_rep [] .null 15)
  have ge_b1 : n0 ≤ b1 := Nat.le_trans (own_old_le O0) (Nat.le_of_eq g1.symm)
  have O1 := O0.ext E1
  refine step st1 ?_
  show G T1 (mkF m 5 ls0 [(.ref b1)])
  refine step (fun t k => XS.dup X1.here hx rfl (hb hby at_5) rfl rfl k) ?_
  show G T1 (mkF m 6 ls0 [(.ref b1), (.ref b1)])
  refine step (fun t k => XS.iconst X1.here hx rfl (hb hby at_6) k) ?_
  show G T1 (mkF m 7 ls0 [(.int 0), (.ref b1), (.ref b1)])
  obtain ⟨T2, X2, e2, st2⟩ := getS2 X1 hx hZ hown (host := "") (Or.inl (ww2 hw)) Via.refl e1 (Sta.ext O1.2 ST.k0) (g := (mkF m 7 ls0 [(.int 0), (.ref b1), (.ref b1)])) rfl (hb hby at_7)
  refine step st2 ?_
  show G T2 (mkF m 10 ls0 [(.ref w_DELIVERED), (.int 0), (.ref b1), (.ref b1)])
  obtain ⟨T3, h3, X3, e3, W3, V3, st3⟩ := own_stR X2 hx hZ e2 V1 (j := (0 : Int32)) (by decide) (i := 0) rfl (by show 0 < 15; decide) (fun A q => Sto.ofV A q U1 (Ins.self (Exa.ext O1.2 ST.k1))) (g := (mkF m 10 ls0 [(.ref w_DELIVERED), (.int 0), (.ref b1), (.ref b1)])) rfl rfl (hb hby at_10)
  replace V3 : Arv Z h3 b1 k1 (.object cn_0) (15 : Int32) [(.ref w_DELIVERED), .null, .null, .null, .null, .null, .null, .null, .null, .null, .null, .null, .null, .null, .null] .null := V3
  have N3 := Fr.snoc X3 N0 ge_b1
  obtain ⟨lc3, X3, N3⟩ := own_gen X3 N3
  have O3 := O1.wr W3 ge_b1
  refine step st3 ?_
  show G T3 (mkF m 11 ls0 [(.ref b1)])
  refine step (fun t k => XS.dup X3.here hx rfl (hb hby at_11) rfl rfl k) ?_
  show G T3 (mkF m 12 ls0 [(.ref b1), (.ref b1)])
  refine step (fun t k => XS.iconst X3.here hx rfl (hb hby at_12) k) ?_
  show G T3 (mkF m 13 ls0 [(.int 1), (.ref b1), (.ref b1)])
  obtain ⟨T4, X4, e4, st4⟩ := getS2 X3 hx hZ hown (host := "") (Or.inl (ww6 hw)) Via.refl e3 (Sta.ext O3.2 ST.k2) (g := (mkF m 13 ls0 [(.int 1), (.ref b1), (.ref b1)])) rfl (hb hby at_13)
  refine step st4 ?_
  show G T4 (mkF m 16 ls0 [(.ref w_BAD_REQUEST), (.int 1), (.ref b1), (.ref b1)])
  obtain ⟨T5, h5, X5, e5, W5, V5, st5⟩ := own_stR X4 hx hZ e4 V3 (j := (1 : Int32)) (by decide) (i := 1) rfl (by show 1 < 15; decide) (fun A q => Sto.ofV A q U1 (Ins.self (Exa.ext O3.2 ST.k3))) (g := (mkF m 16 ls0 [(.ref w_BAD_REQUEST), (.int 1), (.ref b1), (.ref b1)])) rfl rfl (hb hby at_16)
  replace V5 : Arv Z h5 b1 k1 (.object cn_0) (15 : Int32) [(.ref w_DELIVERED), (.ref w_BAD_REQUEST), .null, .null, .null, .null, .null, .null, .null, .null, .null, .null, .null, .null, .null] .null := V5
  have N5 := Fr.snoc X5 N3 ge_b1
  obtain ⟨lc5, X5, N5⟩ := own_gen X5 N5
  have O5 := O3.wr W5 ge_b1
  refine step st5 ?_
  show G T5 (mkF m 17 ls0 [(.ref b1)])
  refine step (fun t k => XS.dup X5.here hx rfl (hb hby at_17) rfl rfl k) ?_
  show G T5 (mkF m 18 ls0 [(.ref b1), (.ref b1)])
  refine step (fun t k => XS.iconst X5.here hx rfl (hb hby at_18) k) ?_
  show G T5 (mkF m 19 ls0 [(.int 2), (.ref b1), (.ref b1)])
  obtain ⟨T6, X6, e6, st6⟩ := getS2 X5 hx hZ hown (host := "") (Or.inl (ww8 hw)) Via.refl e5 (Sta.ext O5.2 ST.k4) (g := (mkF m 19 ls0 [(.int 2), (.ref b1), (.ref b1)])) rfl (hb hby at_19)
  refine step st6 ?_
  show G T6 (mkF m 22 ls0 [(.ref w_UNAUTHORIZED), (.int 2), (.ref b1), (.ref b1)])
  obtain ⟨T7, h7, X7, e7, W7, V7, st7⟩ := own_stR X6 hx hZ e6 V5 (j := (2 : Int32)) (by decide) (i := 2) rfl (by show 2 < 15; decide) (fun A q => Sto.ofV A q U1 (Ins.self (Exa.ext O5.2 ST.k5))) (g := (mkF m 22 ls0 [(.ref w_UNAUTHORIZED), (.int 2), (.ref b1), (.ref b1)])) rfl rfl (hb hby at_22)
  replace V7 : Arv Z h7 b1 k1 (.object cn_0) (15 : Int32) [(.ref w_DELIVERED), (.ref w_BAD_REQUEST), (.ref w_UNAUTHORIZED), .null, .null, .null, .null, .null, .null, .null, .null, .null, .null, .null, .null] .null := V7
  have N7 := Fr.snoc X7 N5 ge_b1
  obtain ⟨lc7, X7, N7⟩ := own_gen X7 N7
  have O7 := O5.wr W7 ge_b1
  refine step st7 ?_
  show G T7 (mkF m 23 ls0 [(.ref b1)])
  refine step (fun t k => XS.dup X7.here hx rfl (hb hby at_23) rfl rfl k) ?_
  show G T7 (mkF m 24 ls0 [(.ref b1), (.ref b1)])
  refine step (fun t k => XS.iconst X7.here hx rfl (hb hby at_24) k) ?_
  show G T7 (mkF m 25 ls0 [(.int 3), (.ref b1), (.ref b1)])
  obtain ⟨T8, X8, e8, st8⟩ := getS2 X7 hx hZ hown (host := "") (Or.inl (ww10 hw)) Via.refl e7 (Sta.ext O7.2 ST.k6) (g := (mkF m 25 ls0 [(.int 3), (.ref b1), (.ref b1)])) rfl (hb hby at_25)
  refine step st8 ?_
  show G T8 (mkF m 28 ls0 [(.ref w_FORBIDDEN), (.int 3), (.ref b1), (.ref b1)])
  obtain ⟨T9, h9, X9, e9, W9, V9, st9⟩ := own_stR X8 hx hZ e8 V7 (j := (3 : Int32)) (by decide) (i := 3) rfl (by show 3 < 15; decide) (fun A q => Sto.ofV A q U1 (Ins.self (Exa.ext O7.2 ST.k7))) (g := (mkF m 28 ls0 [(.ref w_FORBIDDEN), (.int 3), (.ref b1), (.ref b1)])) rfl rfl (hb hby at_28)
  replace V9 : Arv Z h9 b1 k1 (.object cn_0) (15 : Int32) [(.ref w_DELIVERED), (.ref w_BAD_REQUEST), (.ref w_UNAUTHORIZED), (.ref w_FORBIDDEN), .null, .null, .null, .null, .null, .null, .null, .null, .null, .null, .null] .null := V9
  have N9 := Fr.snoc X9 N7 ge_b1
  obtain ⟨lc9, X9, N9⟩ := own_gen X9 N9
  have O9 := O7.wr W9 ge_b1
  refine step st9 ?_
  show G T9 (mkF m 29 ls0 [(.ref b1)])
  refine step (fun t k => XS.dup X9.here hx rfl (hb hby at_29) rfl rfl k) ?_
  show G T9 (mkF m 30 ls0 [(.ref b1), (.ref b1)])
  refine step (fun t k => XS.iconst X9.here hx rfl (hb hby at_30) k) ?_
  show G T9 (mkF m 31 ls0 [(.int 4), (.ref b1), (.ref b1)])
  obtain ⟨T10, X10, e10, st10⟩ := getS2 X9 hx hZ hown (host := "") (Or.inl (ww12 hw)) Via.refl e9 (Sta.ext O9.2 ST.k8) (g := (mkF m 31 ls0 [(.int 4), (.ref b1), (.ref b1)])) rfl (hb hby at_31)
  refine step st10 ?_
  show G T10 (mkF m 34 ls0 [(.ref w_NOT_FOUND), (.int 4), (.ref b1), (.ref b1)])
  obtain ⟨T11, h11, X11, e11, W11, V11, st11⟩ := own_stR X10 hx hZ e10 V9 (j := (4 : Int32)) (by decide) (i := 4) rfl (by show 4 < 15; decide) (fun A q => Sto.ofV A q U1 (Ins.self (Exa.ext O9.2 ST.k9))) (g := (mkF m 34 ls0 [(.ref w_NOT_FOUND), (.int 4), (.ref b1), (.ref b1)])) rfl rfl (hb hby at_34)
  replace V11 : Arv Z h11 b1 k1 (.object cn_0) (15 : Int32) [(.ref w_DELIVERED), (.ref w_BAD_REQUEST), (.ref w_UNAUTHORIZED), (.ref w_FORBIDDEN), (.ref w_NOT_FOUND), .null, .null, .null, .null, .null, .null, .null, .null, .null, .null] .null := V11
  have N11 := Fr.snoc X11 N9 ge_b1
  obtain ⟨lc11, X11, N11⟩ := own_gen X11 N11
  have O11 := O9.wr W11 ge_b1
  refine step st11 ?_
  show G T11 (mkF m 35 ls0 [(.ref b1)])
  refine step (fun t k => XS.dup X11.here hx rfl (hb hby at_35) rfl rfl k) ?_
  show G T11 (mkF m 36 ls0 [(.ref b1), (.ref b1)])
  refine step (fun t k => XS.iconst X11.here hx rfl (hb hby at_36) k) ?_
  show G T11 (mkF m 37 ls0 [(.int 5), (.ref b1), (.ref b1)])
  obtain ⟨T12, X12, e12, st12⟩ := getS2 X11 hx hZ hown (host := "") (Or.inl (ww14 hw)) Via.refl e11 (Sta.ext O11.2 ST.k10) (g := (mkF m 37 ls0 [(.int 5), (.ref b1), (.ref b1)])) rfl (hb hby at_37)
  refine step st12 ?_
  show G T12 (mkF m 40 ls0 [(.ref w_GONE), (.int 5), (.ref b1), (.ref b1)])
  obtain ⟨T13, h13, X13, e13, W13, V13, st13⟩ := own_stR X12 hx hZ e12 V11 (j := (5 : Int32)) (by decide) (i := 5) rfl (by show 5 < 15; decide) (fun A q => Sto.ofV A q U1 (Ins.self (Exa.ext O11.2 ST.k11))) (g := (mkF m 40 ls0 [(.ref w_GONE), (.int 5), (.ref b1), (.ref b1)])) rfl rfl (hb hby at_40)
  replace V13 : Arv Z h13 b1 k1 (.object cn_0) (15 : Int32) [(.ref w_DELIVERED), (.ref w_BAD_REQUEST), (.ref w_UNAUTHORIZED), (.ref w_FORBIDDEN), (.ref w_NOT_FOUND), (.ref w_GONE), .null, .null, .null, .null, .null, .null, .null, .null, .null] .null := V13
  have N13 := Fr.snoc X13 N11 ge_b1
  obtain ⟨lc13, X13, N13⟩ := own_gen X13 N13
  have O13 := O11.wr W13 ge_b1
  refine step st13 ?_
  show G T13 (mkF m 41 ls0 [(.ref b1)])
  refine step (fun t k => XS.dup X13.here hx rfl (hb hby at_41) rfl rfl k) ?_
  show G T13 (mkF m 42 ls0 [(.ref b1), (.ref b1)])
  refine step (fun t k => XS.bipush X13.here hx rfl (hb hby at_42) k) ?_
  show G T13 (mkF m 44 ls0 [(.int 6), (.ref b1), (.ref b1)])
  obtain ⟨T14, X14, e14, st14⟩ := getS2 X13 hx hZ hown (host := "") (Or.inl (ww16 hw)) Via.refl e13 (Sta.ext O13.2 ST.k12) (g := (mkF m 44 ls0 [(.int 6), (.ref b1), (.ref b1)])) rfl (hb hby at_44)
  refine step st14 ?_
  show G T14 (mkF m 47 ls0 [(.ref w_TIMED_OUT), (.int 6), (.ref b1), (.ref b1)])
  obtain ⟨T15, h15, X15, e15, W15, V15, st15⟩ := own_stR X14 hx hZ e14 V13 (j := (6 : Int32)) (by decide) (i := 6) rfl (by show 6 < 15; decide) (fun A q => Sto.ofV A q U1 (Ins.self (Exa.ext O13.2 ST.k13))) (g := (mkF m 47 ls0 [(.ref w_TIMED_OUT), (.int 6), (.ref b1), (.ref b1)])) rfl rfl (hb hby at_47)
  replace V15 : Arv Z h15 b1 k1 (.object cn_0) (15 : Int32) [(.ref w_DELIVERED), (.ref w_BAD_REQUEST), (.ref w_UNAUTHORIZED), (.ref w_FORBIDDEN), (.ref w_NOT_FOUND), (.ref w_GONE), (.ref w_TIMED_OUT), .null, .null, .null, .null, .null, .null, .null, .null] .null := V15
  have N15 := Fr.snoc X15 N13 ge_b1
  obtain ⟨lc15, X15, N15⟩ := own_gen X15 N15
  have O15 := O13.wr W15 ge_b1
  refine step st15 ?_
  show G T15 (mkF m 48 ls0 [(.ref b1)])
  refine step (fun t k => XS.dup X15.here hx rfl (hb hby at_48) rfl rfl k) ?_
  show G T15 (mkF m 49 ls0 [(.ref b1), (.ref b1)])
  refine step (fun t k => XS.bipush X15.here hx rfl (hb hby at_49) k) ?_
  show G T15 (mkF m 51 ls0 [(.int 7), (.ref b1), (.ref b1)])
  obtain ⟨T16, X16, e16, st16⟩ := getS2 X15 hx hZ hown (host := "") (Or.inl (ww18 hw)) Via.refl e15 (Sta.ext O15.2 ST.k14) (g := (mkF m 51 ls0 [(.int 7), (.ref b1), (.ref b1)])) rfl (hb hby at_51)
  refine step st16 ?_
  show G T16 (mkF m 54 ls0 [(.ref w_PAYLOAD_TOO_LARGE), (.int 7), (.ref b1), (.ref b1)])
  obtain ⟨T17, h17, X17, e17, W17, V17, st17⟩ := own_stR X16 hx hZ e16 V15 (j := (7 : Int32)) (by decide) (i := 7) rfl (by show 7 < 15; decide) (fun A q => Sto.ofV A q U1 (Ins.self (Exa.ext O15.2 ST.k15))) (g := (mkF m 54 ls0 [(.ref w_PAYLOAD_TOO_LARGE), (.int 7), (.ref b1), (.ref b1)])) rfl rfl (hb hby at_54)
  replace V17 : Arv Z h17 b1 k1 (.object cn_0) (15 : Int32) [(.ref w_DELIVERED), (.ref w_BAD_REQUEST), (.ref w_UNAUTHORIZED), (.ref w_FORBIDDEN), (.ref w_NOT_FOUND), (.ref w_GONE), (.ref w_TIMED_OUT), (.ref w_PAYLOAD_TOO_LARGE), .null, .null, .null, .null, .null, .null, .null] .null := V17
  have N17 := Fr.snoc X17 N15 ge_b1
  obtain ⟨lc17, X17, N17⟩ := own_gen X17 N17
  have O17 := O15.wr W17 ge_b1
  refine step st17 ?_
  show G T17 (mkF m 55 ls0 [(.ref b1)])
  refine step (fun t k => XS.dup X17.here hx rfl (hb hby at_55) rfl rfl k) ?_
  show G T17 (mkF m 56 ls0 [(.ref b1), (.ref b1)])
  refine step (fun t k => XS.bipush X17.here hx rfl (hb hby at_56) k) ?_
  show G T17 (mkF m 58 ls0 [(.int 8), (.ref b1), (.ref b1)])
  obtain ⟨T18, X18, e18, st18⟩ := getS2 X17 hx hZ hown (host := "") (Or.inl (ww20 hw)) Via.refl e17 (Sta.ext O17.2 ST.k16) (g := (mkF m 58 ls0 [(.int 8), (.ref b1), (.ref b1)])) rfl (hb hby at_58)
  refine step st18 ?_
  show G T18 (mkF m 61 ls0 [(.ref w_BUSY), (.int 8), (.ref b1), (.ref b1)])
  obtain ⟨T19, h19, X19, e19, W19, V19, st19⟩ := own_stR X18 hx hZ e18 V17 (j := (8 : Int32)) (by decide) (i := 8) rfl (by show 8 < 15; decide) (fun A q => Sto.ofV A q U1 (Ins.self (Exa.ext O17.2 ST.k17))) (g := (mkF m 61 ls0 [(.ref w_BUSY), (.int 8), (.ref b1), (.ref b1)])) rfl rfl (hb hby at_61)
  replace V19 : Arv Z h19 b1 k1 (.object cn_0) (15 : Int32) [(.ref w_DELIVERED), (.ref w_BAD_REQUEST), (.ref w_UNAUTHORIZED), (.ref w_FORBIDDEN), (.ref w_NOT_FOUND), (.ref w_GONE), (.ref w_TIMED_OUT), (.ref w_PAYLOAD_TOO_LARGE), (.ref w_BUSY), .null, .null, .null, .null, .null, .null] .null := V19
  have N19 := Fr.snoc X19 N17 ge_b1
  obtain ⟨lc19, X19, N19⟩ := own_gen X19 N19
  have O19 := O17.wr W19 ge_b1
  refine step st19 ?_
  show G T19 (mkF m 62 ls0 [(.ref b1)])
  refine step (fun t k => XS.dup X19.here hx rfl (hb hby at_62) rfl rfl k) ?_
  show G T19 (mkF m 63 ls0 [(.ref b1), (.ref b1)])
  refine step (fun t k => XS.bipush X19.here hx rfl (hb hby at_63) k) ?_
  show G T19 (mkF m 65 ls0 [(.int 9), (.ref b1), (.ref b1)])
  obtain ⟨T20, X20, e20, st20⟩ := getS2 X19 hx hZ hown (host := "") (Or.inl (ww22 hw)) Via.refl e19 (Sta.ext O19.2 ST.k18) (g := (mkF m 65 ls0 [(.int 9), (.ref b1), (.ref b1)])) rfl (hb hby at_65)
  refine step st20 ?_
  show G T20 (mkF m 68 ls0 [(.ref w_REDIRECTED), (.int 9), (.ref b1), (.ref b1)])
  obtain ⟨T21, h21, X21, e21, W21, V21, st21⟩ := own_stR X20 hx hZ e20 V19 (j := (9 : Int32)) (by decide) (i := 9) rfl (by show 9 < 15; decide) (fun A q => Sto.ofV A q U1 (Ins.self (Exa.ext O19.2 ST.k19))) (g := (mkF m 68 ls0 [(.ref w_REDIRECTED), (.int 9), (.ref b1), (.ref b1)])) rfl rfl (hb hby at_68)
  replace V21 : Arv Z h21 b1 k1 (.object cn_0) (15 : Int32) [(.ref w_DELIVERED), (.ref w_BAD_REQUEST), (.ref w_UNAUTHORIZED), (.ref w_FORBIDDEN), (.ref w_NOT_FOUND), (.ref w_GONE), (.ref w_TIMED_OUT), (.ref w_PAYLOAD_TOO_LARGE), (.ref w_BUSY), (.ref w_REDIRECTED), .null, .null, .null, .null, .null] .null := V21
  have N21 := Fr.snoc X21 N19 ge_b1
  obtain ⟨lc21, X21, N21⟩ := own_gen X21 N21
  have O21 := O19.wr W21 ge_b1
  refine step st21 ?_
  show G T21 (mkF m 69 ls0 [(.ref b1)])
  refine step (fun t k => XS.dup X21.here hx rfl (hb hby at_69) rfl rfl k) ?_
  show G T21 (mkF m 70 ls0 [(.ref b1), (.ref b1)])
  refine step (fun t k => XS.bipush X21.here hx rfl (hb hby at_70) k) ?_
  show G T21 (mkF m 72 ls0 [(.int 10), (.ref b1), (.ref b1)])
  obtain ⟨T22, X22, e22, st22⟩ := getS2 X21 hx hZ hown (host := "") (Or.inl (ww24 hw)) Via.refl e21 (Sta.ext O21.2 ST.k20) (g := (mkF m 72 ls0 [(.int 10), (.ref b1), (.ref b1)])) rfl (hb hby at_72)
  refine step st22 ?_
  show G T22 (mkF m 75 ls0 [(.ref w_SERVER_ERROR), (.int 10), (.ref b1), (.ref b1)])
  obtain ⟨T23, h23, X23, e23, W23, V23, st23⟩ := own_stR X22 hx hZ e22 V21 (j := (10 : Int32)) (by decide) (i := 10) rfl (by show 10 < 15; decide) (fun A q => Sto.ofV A q U1 (Ins.self (Exa.ext O21.2 ST.k21))) (g := (mkF m 75 ls0 [(.ref w_SERVER_ERROR), (.int 10), (.ref b1), (.ref b1)])) rfl rfl (hb hby at_75)
  replace V23 : Arv Z h23 b1 k1 (.object cn_0) (15 : Int32) [(.ref w_DELIVERED), (.ref w_BAD_REQUEST), (.ref w_UNAUTHORIZED), (.ref w_FORBIDDEN), (.ref w_NOT_FOUND), (.ref w_GONE), (.ref w_TIMED_OUT), (.ref w_PAYLOAD_TOO_LARGE), (.ref w_BUSY), (.ref w_REDIRECTED), (.ref w_SERVER_ERROR), .null, .null, .null, .null] .null := V23
  have N23 := Fr.snoc X23 N21 ge_b1
  obtain ⟨lc23, X23, N23⟩ := own_gen X23 N23
  have O23 := O21.wr W23 ge_b1
  refine step st23 ?_
  show G T23 (mkF m 76 ls0 [(.ref b1)])
  refine step (fun t k => XS.dup X23.here hx rfl (hb hby at_76) rfl rfl k) ?_
  show G T23 (mkF m 77 ls0 [(.ref b1), (.ref b1)])
  refine step (fun t k => XS.bipush X23.here hx rfl (hb hby at_77) k) ?_
  show G T23 (mkF m 79 ls0 [(.int 11), (.ref b1), (.ref b1)])
  obtain ⟨T24, X24, e24, st24⟩ := getS2 X23 hx hZ hown (host := "") (Or.inl (ww26 hw)) Via.refl e23 (Sta.ext O23.2 ST.k22) (g := (mkF m 79 ls0 [(.int 11), (.ref b1), (.ref b1)])) rfl (hb hby at_79)
  refine step st24 ?_
  show G T24 (mkF m 82 ls0 [(.ref w_FAILED), (.int 11), (.ref b1), (.ref b1)])
  obtain ⟨T25, h25, X25, e25, W25, V25, st25⟩ := own_stR X24 hx hZ e24 V23 (j := (11 : Int32)) (by decide) (i := 11) rfl (by show 11 < 15; decide) (fun A q => Sto.ofV A q U1 (Ins.self (Exa.ext O23.2 ST.k23))) (g := (mkF m 82 ls0 [(.ref w_FAILED), (.int 11), (.ref b1), (.ref b1)])) rfl rfl (hb hby at_82)
  replace V25 : Arv Z h25 b1 k1 (.object cn_0) (15 : Int32) [(.ref w_DELIVERED), (.ref w_BAD_REQUEST), (.ref w_UNAUTHORIZED), (.ref w_FORBIDDEN), (.ref w_NOT_FOUND), (.ref w_GONE), (.ref w_TIMED_OUT), (.ref w_PAYLOAD_TOO_LARGE), (.ref w_BUSY), (.ref w_REDIRECTED), (.ref w_SERVER_ERROR), (.ref w_FAILED), .null, .null, .null] .null := V25
  have N25 := Fr.snoc X25 N23 ge_b1
  obtain ⟨lc25, X25, N25⟩ := own_gen X25 N25
  have O25 := O23.wr W25 ge_b1
  refine step st25 ?_
  show G T25 (mkF m 83 ls0 [(.ref b1)])
  refine step (fun t k => XS.dup X25.here hx rfl (hb hby at_83) rfl rfl k) ?_
  show G T25 (mkF m 84 ls0 [(.ref b1), (.ref b1)])
  refine step (fun t k => XS.bipush X25.here hx rfl (hb hby at_84) k) ?_
  show G T25 (mkF m 86 ls0 [(.int 12), (.ref b1), (.ref b1)])
  obtain ⟨T26, X26, e26, st26⟩ := getS2 X25 hx hZ hown (host := "") (Or.inl (ww28 hw)) Via.refl e25 (Sta.ext O25.2 ST.k24) (g := (mkF m 86 ls0 [(.int 12), (.ref b1), (.ref b1)])) rfl (hb hby at_86)
  refine step st26 ?_
  show G T26 (mkF m 89 ls0 [(.ref w_SOCKET_ERROR), (.int 12), (.ref b1), (.ref b1)])
  obtain ⟨T27, h27, X27, e27, W27, V27, st27⟩ := own_stR X26 hx hZ e26 V25 (j := (12 : Int32)) (by decide) (i := 12) rfl (by show 12 < 15; decide) (fun A q => Sto.ofV A q U1 (Ins.self (Exa.ext O25.2 ST.k25))) (g := (mkF m 89 ls0 [(.ref w_SOCKET_ERROR), (.int 12), (.ref b1), (.ref b1)])) rfl rfl (hb hby at_89)
  replace V27 : Arv Z h27 b1 k1 (.object cn_0) (15 : Int32) [(.ref w_DELIVERED), (.ref w_BAD_REQUEST), (.ref w_UNAUTHORIZED), (.ref w_FORBIDDEN), (.ref w_NOT_FOUND), (.ref w_GONE), (.ref w_TIMED_OUT), (.ref w_PAYLOAD_TOO_LARGE), (.ref w_BUSY), (.ref w_REDIRECTED), (.ref w_SERVER_ERROR), (.ref w_FAILED), (.ref w_SOCKET_ERROR), .null, .null] .null := V27
  have N27 := Fr.snoc X27 N25 ge_b1
  obtain ⟨lc27, X27, N27⟩ := own_gen X27 N27
  have O27 := O25.wr W27 ge_b1
  refine step st27 ?_
  show G T27 (mkF m 90 ls0 [(.ref b1)])
  refine step (fun t k => XS.dup X27.here hx rfl (hb hby at_90) rfl rfl k) ?_
  show G T27 (mkF m 91 ls0 [(.ref b1), (.ref b1)])
  refine step (fun t k => XS.bipush X27.here hx rfl (hb hby at_91) k) ?_
  show G T27 (mkF m 93 ls0 [(.int 13), (.ref b1), (.ref b1)])
  obtain ⟨T28, X28, e28, st28⟩ := getS2 X27 hx hZ hown (host := "") (Or.inl (ww30 hw)) Via.refl e27 (Sta.ext O27.2 ST.k26) (g := (mkF m 93 ls0 [(.int 13), (.ref b1), (.ref b1)])) rfl (hb hby at_93)
  refine step st28 ?_
  show G T28 (mkF m 96 ls0 [(.ref w_RESOLUTION_ERROR), (.int 13), (.ref b1), (.ref b1)])
  obtain ⟨T29, h29, X29, e29, W29, V29, st29⟩ := own_stR X28 hx hZ e28 V27 (j := (13 : Int32)) (by decide) (i := 13) rfl (by show 13 < 15; decide) (fun A q => Sto.ofV A q U1 (Ins.self (Exa.ext O27.2 ST.k27))) (g := (mkF m 96 ls0 [(.ref w_RESOLUTION_ERROR), (.int 13), (.ref b1), (.ref b1)])) rfl rfl (hb hby at_96)
  replace V29 : Arv Z h29 b1 k1 (.object cn_0) (15 : Int32) [(.ref w_DELIVERED), (.ref w_BAD_REQUEST), (.ref w_UNAUTHORIZED), (.ref w_FORBIDDEN), (.ref w_NOT_FOUND), (.ref w_GONE), (.ref w_TIMED_OUT), (.ref w_PAYLOAD_TOO_LARGE), (.ref w_BUSY), (.ref w_REDIRECTED), (.ref w_SERVER_ERROR), (.ref w_FAILED), (.ref w_SOCKET_ERROR), (.ref w_RESOLUTION_ERROR), .null] .null := V29
  have N29 := Fr.snoc X29 N27 ge_b1
  obtain ⟨lc29, X29, N29⟩ := own_gen X29 N29
  have O29 := O27.wr W29 ge_b1
  refine step st29 ?_
  show G T29 (mkF m 97 ls0 [(.ref b1)])
  refine step (fun t k => XS.dup X29.here hx rfl (hb hby at_97) rfl rfl k) ?_
  show G T29 (mkF m 98 ls0 [(.ref b1), (.ref b1)])
  refine step (fun t k => XS.bipush X29.here hx rfl (hb hby at_98) k) ?_
  show G T29 (mkF m 100 ls0 [(.int 14), (.ref b1), (.ref b1)])
  obtain ⟨T30, X30, e30, st30⟩ := getS2 X29 hx hZ hown (host := "") (Or.inl (ww32 hw)) Via.refl e29 (Sta.ext O29.2 ST.k28) (g := (mkF m 100 ls0 [(.int 14), (.ref b1), (.ref b1)])) rfl (hb hby at_100)
  refine step st30 ?_
  show G T30 (mkF m 103 ls0 [(.ref w_PROBATION), (.int 14), (.ref b1), (.ref b1)])
  obtain ⟨T31, h31, X31, e31, W31, V31, st31⟩ := own_stR X30 hx hZ e30 V29 (j := (14 : Int32)) (by decide) (i := 14) rfl (by show 14 < 15; decide) (fun A q => Sto.ofV A q U1 (Ins.self (Exa.ext O29.2 ST.k29))) (g := (mkF m 103 ls0 [(.ref w_PROBATION), (.int 14), (.ref b1), (.ref b1)])) rfl rfl (hb hby at_103)
  replace V31 : Arv Z h31 b1 k1 (.object cn_0) (15 : Int32) [(.ref w_DELIVERED), (.ref w_BAD_REQUEST), (.ref w_UNAUTHORIZED), (.ref w_FORBIDDEN), (.ref w_NOT_FOUND), (.ref w_GONE), (.ref w_TIMED_OUT), (.ref w_PAYLOAD_TOO_LARGE), (.ref w_BUSY), (.ref w_REDIRECTED), (.ref w_SERVER_ERROR), (.ref w_FAILED), (.ref w_SOCKET_ERROR), (.ref w_RESOLUTION_ERROR), (.ref w_PROBATION)] .null := V31
  have N31 := Fr.snoc X31 N29 ge_b1
  obtain ⟨lc31, X31, N31⟩ := own_gen X31 N31
  have O31 := O29.wr W31 ge_b1
  refine step st31 ?_
  show G T31 (mkF m 104 ls0 [(.ref b1)])
  obtain ⟨ls32, hls32⟩  := own_sl #[.val (.int p0), .val (.ref b1), .unset, .unset, .unset, .unset, .unset, .unset, .unset]
  refine step (fun t k => XS.astoreN X31.here hx rfl (hb hby at_104) rfl rfl (l' := ls32) (by rw [hls0, hls32]; rfl) k) ?_
  show G T31 (mkF m 105 ls32 [])
  refine step (fun t k => XS.aloadN X31.here hx rfl (hb hby at_105) (by rw [hls32]; rfl) rfl k) ?_
  show G T31 (mkF m 106 ls32 [(.ref b1)])
  refine step (fun t k => XS.iloadN X31.here hx rfl (hb hby at_106) (by rw [hls32]; rfl) k) ?_
  show G T31 (mkF m 107 ls32 [(.int p0), (.ref b1)])
  have q33 := X31.ldcInt hx hown (mvT hZ (ww34 hw)) (g := (mkF m 107 ls32 [(.int p0), (.ref b1)])) rfl (hb hby at_107)
  refine step q33 ?_
  show G T31 (mkF m 109 ls32 [(.int 2147483647), (.int p0), (.ref b1)])
  refine step (fun t k => XS.iand X31.here hx rfl (hb hby at_109) rfl k) ?_
  show G T31 (mkF m 110 ls32 [(.int (p0 &&& (2147483647 : Int32))), (.ref b1)])
  refine step (fun t k => XS.bipush X31.here hx rfl (hb hby at_110) k) ?_
  show G T31 (mkF m 112 ls32 [(.int 15), (.int (p0 &&& (2147483647 : Int32))), (.ref b1)])
  refine step (fun t k => iremM X31 hx rfl (hb hby at_112) rfl (by decide) k) ?_
  show G T31 (mkF m 113 ls32 [(.int ((p0 &&& (2147483647 : Int32)) % (15 : Int32))), (.ref b1)])
  rcases own_split p0 with hk | hk | hk | hk | hk | hk | hk | hk | hk | hk | hk | hk | hk | hk | hk
  · rw [hk]
    show G T31 (mkF m 113 ls32 [(.int 0), (.ref b1)])
    have q34 := own_ldR X31 hx hZ e31 V31 (j := (0 : Int32)) (v := (.ref w_DELIVERED)) (by decide) (own_at (i := 0) rfl rfl) rfl (g := (mkF m 113 ls32 [(.int 0), (.ref b1)])) rfl rfl (hb hby at_113)
    refine step q34 ?_
    show G T31 (mkF m 114 ls32 [(.ref w_DELIVERED)])
    obtain ⟨ls35, hls35⟩  := own_sl #[.val (.int p0), .val (.ref b1), .val (.ref w_DELIVERED), .unset, .unset, .unset, .unset, .unset, .unset]
    refine step (fun t k => XS.astoreN X31.here hx rfl (hb hby at_114) rfl rfl (l' := ls35) (by rw [hls32, hls35]; rfl) k) ?_
    show G T31 (mkF m 115 ls35 [])
    refine step (fun t k => XS.sipush X31.here hx rfl (hb hby at_115) k) ?_
    show G T31 (mkF m 118 ls35 [(.int 400)])
    have hK36 := (backOf (R := room_1) (p := p) (e := e) (below := below) (s := s) (args := #[(.int p0)]) (len := 3) (W := 0) (rm_of400 l Z a0 hw [] w_DELIVERED w_BAD_REQUEST w_UNAUTHORIZED w_FORBIDDEN w_NOT_FOUND w_GONE w_TIMED_OUT w_PAYLOAD_TOO_LARGE w_BUSY w_REDIRECTED w_SERVER_ERROR w_FAILED w_SOCKET_ERROR w_RESOLUTION_ERROR w_PROBATION h31 n0 (own_old_le O31) ST O31) hZ (ww37 hw) (ww3 hw) (by decide) (by decide))
    obtain ⟨_, _, ⟨T36, L36, k36, n36⟩, -, X36, ⟨Lc36, hQ36, l36, y36, z36⟩, st36⟩ := Jvm.LawKit.callS X31 hx (y := y_0) hown (mvT hZ (ww35 hw)) (mvT hZ (ww36 hw)) (mvT hZ (ww3 hw)) (mvT hZ (ww37 hw)) (by decide) hK36 (g := (mkF m 118 ls35 [(.int 400)])) rfl (by rw [hml, hls35]; rfl) (argsL := [(.int 400)]) (rest := []) (lenOf pd_1 rfl) rfl (by show 2 * 0 + _ ≤ _; exact Nat.le_of_eq rfl) (hb hby at_118) (fun _ _ => ⟨rfl, e31, (by decide : 1 + 0 ≤ _), (by decide : 15 + 0 ≤ _)⟩)
    dsimp only [Pt.U, Pt.locs, Pt.cells, Pt.slots] at X36 l36 y36 z36 st36 hQ36
    subst l36 y36 z36
    obtain ⟨rfl, N36q, e36⟩ := hQ36
    have N36 := Fr.app N31 N36q
    obtain ⟨lc36, X36, N36⟩ := own_gen X36 N36
    refine step (fun t k => st36 t k) ?_
    show G T36 (mkF m 121 ls35 [(.ref (f_of400 w_DELIVERED w_BAD_REQUEST w_UNAUTHORIZED w_FORBIDDEN w_NOT_FOUND w_GONE w_TIMED_OUT w_PAYLOAD_TOO_LARGE w_BUSY w_REDIRECTED w_SERVER_ERROR w_FAILED w_SOCKET_ERROR w_RESOLUTION_ERROR w_PROBATION))])
    have r37 : (f_of400 w_DELIVERED w_BAD_REQUEST w_UNAUTHORIZED w_FORBIDDEN w_NOT_FOUND w_GONE w_TIMED_OUT w_PAYLOAD_TOO_LARGE w_BUSY w_REDIRECTED w_SERVER_ERROR w_FAILED w_SOCKET_ERROR w_RESOLUTION_ERROR w_PROBATION) = w_BAD_REQUEST := rfl
    rw [r37]
    show G T36 (mkF m 121 ls35 [(.ref w_BAD_REQUEST)])
    obtain ⟨ls38, hls38⟩  := own_sl #[.val (.int p0), .val (.ref b1), .val (.ref w_DELIVERED), .val (.ref w_BAD_REQUEST), .unset, .unset, .unset, .unset, .unset]
    refine step (fun t k => XS.astoreN X36.here hx rfl (hb hby at_121) rfl rfl (l' := ls38) (by rw [hls35, hls38]; rfl) k) ?_
    show G T36 (mkF m 122 ls38 [])
    refine step (fun t k => XS.sipush X36.here hx rfl (hb hby at_122) k) ?_
    show G T36 (mkF m 125 ls38 [(.int 401)])
    have hK39 := (backOf (R := room_1) (p := p) (e := e) (below := below) (s := s) (args := #[(.int p0)]) (len := 3) (W := 0) (rm_of401 l Z a0 hw [] w_DELIVERED w_BAD_REQUEST w_UNAUTHORIZED w_FORBIDDEN w_NOT_FOUND w_GONE w_TIMED_OUT w_PAYLOAD_TOO_LARGE w_BUSY w_REDIRECTED w_SERVER_ERROR w_FAILED w_SOCKET_ERROR w_RESOLUTION_ERROR w_PROBATION h31 n0 (own_old_le O31) ST O31) hZ (ww37 hw) (ww3 hw) (by decide) (by decide))
    obtain ⟨_, _, ⟨T39, L39, k39, n39⟩, -, X39, ⟨Lc39, hQ39, l39, y39, z39⟩, st39⟩ := Jvm.LawKit.callS X36 hx (y := y_0) hown (mvT hZ (ww35 hw)) (mvT hZ (ww36 hw)) (mvT hZ (ww3 hw)) (mvT hZ (ww37 hw)) (by decide) hK39 (g := (mkF m 125 ls38 [(.int 401)])) rfl (by rw [hml, hls38]; rfl) (argsL := [(.int 401)]) (rest := []) (lenOf pd_1 rfl) rfl (by show 2 * 0 + _ ≤ _; exact Nat.le_of_eq rfl) (hb hby at_125) (fun _ _ => ⟨rfl, e36, (by decide : 1 + 0 ≤ _), (by decide : 15 + 0 ≤ _)⟩)
    dsimp only [Pt.U, Pt.locs, Pt.cells, Pt.slots] at X39 l39 y39 z39 st39 hQ39
    subst l39 y39 z39
    obtain ⟨rfl, N39q, e39⟩ := hQ39
    have N39 := Fr.app N36 N39q
    obtain ⟨lc39, X39, N39⟩ := own_gen X39 N39
    refine step (fun t k => st39 t k) ?_
    show G T39 (mkF m 128 ls38 [(.ref (f_of401 w_DELIVERED w_BAD_REQUEST w_UNAUTHORIZED w_FORBIDDEN w_NOT_FOUND w_GONE w_TIMED_OUT w_PAYLOAD_TOO_LARGE w_BUSY w_REDIRECTED w_SERVER_ERROR w_FAILED w_SOCKET_ERROR w_RESOLUTION_ERROR w_PROBATION))])
    have r40 : (f_of401 w_DELIVERED w_BAD_REQUEST w_UNAUTHORIZED w_FORBIDDEN w_NOT_FOUND w_GONE w_TIMED_OUT w_PAYLOAD_TOO_LARGE w_BUSY w_REDIRECTED w_SERVER_ERROR w_FAILED w_SOCKET_ERROR w_RESOLUTION_ERROR w_PROBATION) = w_UNAUTHORIZED := rfl
    rw [r40]
    show G T39 (mkF m 128 ls38 [(.ref w_UNAUTHORIZED)])
    obtain ⟨ls41, hls41⟩  := own_sl #[.val (.int p0), .val (.ref b1), .val (.ref w_DELIVERED), .val (.ref w_BAD_REQUEST), .val (.ref w_UNAUTHORIZED), .unset, .unset, .unset, .unset]
    refine step (fun t k => XS.astore X39.here hx rfl (hb hby at_128) rfl rfl (l' := ls41) (by rw [hls38, hls41]; rfl) k) ?_
    show G T39 (mkF m 130 ls41 [])
    refine step (fun t k => XS.sipush X39.here hx rfl (hb hby at_130) k) ?_
    show G T39 (mkF m 133 ls41 [(.int 403)])
    have hK42 := (backOf (R := room_1) (p := p) (e := e) (below := below) (s := s) (args := #[(.int p0)]) (len := 3) (W := 0) (rm_of403 l Z a0 hw [] w_DELIVERED w_BAD_REQUEST w_UNAUTHORIZED w_FORBIDDEN w_NOT_FOUND w_GONE w_TIMED_OUT w_PAYLOAD_TOO_LARGE w_BUSY w_REDIRECTED w_SERVER_ERROR w_FAILED w_SOCKET_ERROR w_RESOLUTION_ERROR w_PROBATION h31 n0 (own_old_le O31) ST O31) hZ (ww37 hw) (ww3 hw) (by decide) (by decide))
    obtain ⟨_, _, ⟨T42, L42, k42, n42⟩, -, X42, ⟨Lc42, hQ42, l42, y42, z42⟩, st42⟩ := Jvm.LawKit.callS X39 hx (y := y_0) hown (mvT hZ (ww35 hw)) (mvT hZ (ww36 hw)) (mvT hZ (ww3 hw)) (mvT hZ (ww37 hw)) (by decide) hK42 (g := (mkF m 133 ls41 [(.int 403)])) rfl (by rw [hml, hls41]; rfl) (argsL := [(.int 403)]) (rest := []) (lenOf pd_1 rfl) rfl (by show 2 * 0 + _ ≤ _; exact Nat.le_of_eq rfl) (hb hby at_133) (fun _ _ => ⟨rfl, e39, (by decide : 1 + 0 ≤ _), (by decide : 15 + 0 ≤ _)⟩)
    dsimp only [Pt.U, Pt.locs, Pt.cells, Pt.slots] at X42 l42 y42 z42 st42 hQ42
    subst l42 y42 z42
    obtain ⟨rfl, N42q, e42⟩ := hQ42
    have N42 := Fr.app N39 N42q
    obtain ⟨lc42, X42, N42⟩ := own_gen X42 N42
    refine step (fun t k => st42 t k) ?_
    show G T42 (mkF m 136 ls41 [(.ref (f_of403 w_DELIVERED w_BAD_REQUEST w_UNAUTHORIZED w_FORBIDDEN w_NOT_FOUND w_GONE w_TIMED_OUT w_PAYLOAD_TOO_LARGE w_BUSY w_REDIRECTED w_SERVER_ERROR w_FAILED w_SOCKET_ERROR w_RESOLUTION_ERROR w_PROBATION))])
    have r43 : (f_of403 w_DELIVERED w_BAD_REQUEST w_UNAUTHORIZED w_FORBIDDEN w_NOT_FOUND w_GONE w_TIMED_OUT w_PAYLOAD_TOO_LARGE w_BUSY w_REDIRECTED w_SERVER_ERROR w_FAILED w_SOCKET_ERROR w_RESOLUTION_ERROR w_PROBATION) = w_FORBIDDEN := rfl
    rw [r43]
    show G T42 (mkF m 136 ls41 [(.ref w_FORBIDDEN)])
    obtain ⟨ls44, hls44⟩  := own_sl #[.val (.int p0), .val (.ref b1), .val (.ref w_DELIVERED), .val (.ref w_BAD_REQUEST), .val (.ref w_UNAUTHORIZED), .val (.ref w_FORBIDDEN), .unset, .unset, .unset]
    refine step (fun t k => XS.astore X42.here hx rfl (hb hby at_136) rfl rfl (l' := ls44) (by rw [hls41, hls44]; rfl) k) ?_
    show G T42 (mkF m 138 ls44 [])
    refine step (fun t k => XS.sipush X42.here hx rfl (hb hby at_138) k) ?_
    show G T42 (mkF m 141 ls44 [(.int 410)])
    have hK45 := (backOf (R := room_1) (p := p) (e := e) (below := below) (s := s) (args := #[(.int p0)]) (len := 3) (W := 0) (rm_of410 l Z a0 hw [] w_DELIVERED w_BAD_REQUEST w_UNAUTHORIZED w_FORBIDDEN w_NOT_FOUND w_GONE w_TIMED_OUT w_PAYLOAD_TOO_LARGE w_BUSY w_REDIRECTED w_SERVER_ERROR w_FAILED w_SOCKET_ERROR w_RESOLUTION_ERROR w_PROBATION h31 n0 (own_old_le O31) ST O31) hZ (ww37 hw) (ww3 hw) (by decide) (by decide))
    obtain ⟨_, _, ⟨T45, L45, k45, n45⟩, -, X45, ⟨Lc45, hQ45, l45, y45, z45⟩, st45⟩ := Jvm.LawKit.callS X42 hx (y := y_0) hown (mvT hZ (ww35 hw)) (mvT hZ (ww36 hw)) (mvT hZ (ww3 hw)) (mvT hZ (ww37 hw)) (by decide) hK45 (g := (mkF m 141 ls44 [(.int 410)])) rfl (by rw [hml, hls44]; rfl) (argsL := [(.int 410)]) (rest := []) (lenOf pd_1 rfl) rfl (by show 2 * 0 + _ ≤ _; exact Nat.le_of_eq rfl) (hb hby at_141) (fun _ _ => ⟨rfl, e42, (by decide : 1 + 0 ≤ _), (by decide : 15 + 0 ≤ _)⟩)
    dsimp only [Pt.U, Pt.locs, Pt.cells, Pt.slots] at X45 l45 y45 z45 st45 hQ45
    subst l45 y45 z45
    obtain ⟨rfl, N45q, e45⟩ := hQ45
    have N45 := Fr.app N42 N45q
    obtain ⟨lc45, X45, N45⟩ := own_gen X45 N45
    refine step (fun t k => st45 t k) ?_
    show G T45 (mkF m 144 ls44 [(.ref (f_of410 w_DELIVERED w_BAD_REQUEST w_UNAUTHORIZED w_FORBIDDEN w_NOT_FOUND w_GONE w_TIMED_OUT w_PAYLOAD_TOO_LARGE w_BUSY w_REDIRECTED w_SERVER_ERROR w_FAILED w_SOCKET_ERROR w_RESOLUTION_ERROR w_PROBATION))])
    have r46 : (f_of410 w_DELIVERED w_BAD_REQUEST w_UNAUTHORIZED w_FORBIDDEN w_NOT_FOUND w_GONE w_TIMED_OUT w_PAYLOAD_TOO_LARGE w_BUSY w_REDIRECTED w_SERVER_ERROR w_FAILED w_SOCKET_ERROR w_RESOLUTION_ERROR w_PROBATION) = w_GONE := rfl
    rw [r46]
    show G T45 (mkF m 144 ls44 [(.ref w_GONE)])
    obtain ⟨ls47, hls47⟩  := own_sl #[.val (.int p0), .val (.ref b1), .val (.ref w_DELIVERED), .val (.ref w_BAD_REQUEST), .val (.ref w_UNAUTHORIZED), .val (.ref w_FORBIDDEN), .val (.ref w_GONE), .unset, .unset]
    refine step (fun t k => XS.astore X45.here hx rfl (hb hby at_144) rfl rfl (l' := ls47) (by rw [hls44, hls47]; rfl) k) ?_
    show G T45 (mkF m 146 ls47 [])
    refine step (fun t k => XS.sipush X45.here hx rfl (hb hby at_146) k) ?_
    show G T45 (mkF m 149 ls47 [(.int 413)])
    have hK48 := (backOf (R := room_1) (p := p) (e := e) (below := below) (s := s) (args := #[(.int p0)]) (len := 3) (W := 0) (rm_of413 l Z a0 hw [] w_DELIVERED w_BAD_REQUEST w_UNAUTHORIZED w_FORBIDDEN w_NOT_FOUND w_GONE w_TIMED_OUT w_PAYLOAD_TOO_LARGE w_BUSY w_REDIRECTED w_SERVER_ERROR w_FAILED w_SOCKET_ERROR w_RESOLUTION_ERROR w_PROBATION h31 n0 (own_old_le O31) ST O31) hZ (ww37 hw) (ww3 hw) (by decide) (by decide))
    obtain ⟨_, _, ⟨T48, L48, k48, n48⟩, -, X48, ⟨Lc48, hQ48, l48, y48, z48⟩, st48⟩ := Jvm.LawKit.callS X45 hx (y := y_0) hown (mvT hZ (ww35 hw)) (mvT hZ (ww36 hw)) (mvT hZ (ww3 hw)) (mvT hZ (ww37 hw)) (by decide) hK48 (g := (mkF m 149 ls47 [(.int 413)])) rfl (by rw [hml, hls47]; rfl) (argsL := [(.int 413)]) (rest := []) (lenOf pd_1 rfl) rfl (by show 2 * 0 + _ ≤ _; exact Nat.le_of_eq rfl) (hb hby at_149) (fun _ _ => ⟨rfl, e45, (by decide : 1 + 0 ≤ _), (by decide : 15 + 0 ≤ _)⟩)
    dsimp only [Pt.U, Pt.locs, Pt.cells, Pt.slots] at X48 l48 y48 z48 st48 hQ48
    subst l48 y48 z48
    obtain ⟨rfl, N48q, e48⟩ := hQ48
    have N48 := Fr.app N45 N48q
    obtain ⟨lc48, X48, N48⟩ := own_gen X48 N48
    refine step (fun t k => st48 t k) ?_
    show G T48 (mkF m 152 ls47 [(.ref (f_of413 w_DELIVERED w_BAD_REQUEST w_UNAUTHORIZED w_FORBIDDEN w_NOT_FOUND w_GONE w_TIMED_OUT w_PAYLOAD_TOO_LARGE w_BUSY w_REDIRECTED w_SERVER_ERROR w_FAILED w_SOCKET_ERROR w_RESOLUTION_ERROR w_PROBATION))])
    have r49 : (f_of413 w_DELIVERED w_BAD_REQUEST w_UNAUTHORIZED w_FORBIDDEN w_NOT_FOUND w_GONE w_TIMED_OUT w_PAYLOAD_TOO_LARGE w_BUSY w_REDIRECTED w_SERVER_ERROR w_FAILED w_SOCKET_ERROR w_RESOLUTION_ERROR w_PROBATION) = w_PAYLOAD_TOO_LARGE := rfl
    rw [r49]
    show G T48 (mkF m 152 ls47 [(.ref w_PAYLOAD_TOO_LARGE)])
    obtain ⟨ls50, hls50⟩  := own_sl #[.val (.int p0), .val (.ref b1), .val (.ref w_DELIVERED), .val (.ref w_BAD_REQUEST), .val (.ref w_UNAUTHORIZED), .val (.ref w_FORBIDDEN), .val (.ref w_GONE), .val (.ref w_PAYLOAD_TOO_LARGE), .unset]
    refine step (fun t k => XS.astore X48.here hx rfl (hb hby at_152) rfl rfl (l' := ls50) (by rw [hls47, hls50]; rfl) k) ?_
    show G T48 (mkF m 154 ls50 [])
    refine step (fun t k => XS.aloadN X48.here hx rfl (hb hby at_154) (by rw [hls50]; rfl) rfl k) ?_
    show G T48 (mkF m 155 ls50 [(.ref w_DELIVERED)])
    refine step (fun t k => XS.aloadN X48.here hx rfl (hb hby at_155) (by rw [hls50]; rfl) rfl k) ?_
    show G T48 (mkF m 156 ls50 [(.ref w_BAD_REQUEST), (.ref w_DELIVERED)])
    refine step (fun t k => Jvm.RoadKit.acmp X48 hx rfl rfl rfl (pc0 := 156) (pc' := 159) (same := false) rfl (hb hby at_156) rfl (decide_eq_false fun q => (Fld.ne ST.k30 ST.k31 (fun q => absurd (Value.int.inj q) (by decide))) (Value.ref.inj q)) (by decide) (by decide) k) ?_
    show G T48 (mkF m 159 ls50 [])
    refine step (fun t k => XS.aloadN X48.here hx rfl (hb hby at_159) (by rw [hls50]; rfl) rfl k) ?_
    show G T48 (mkF m 160 ls50 [(.ref w_DELIVERED)])
    refine step (fun t k => XS.aload X48.here hx rfl (hb hby at_160) (by rw [hls50]; rfl) rfl k) ?_
    show G T48 (mkF m 162 ls50 [(.ref w_UNAUTHORIZED), (.ref w_DELIVERED)])
    refine step (fun t k => Jvm.RoadKit.acmp X48 hx rfl rfl rfl (pc0 := 162) (pc' := 165) (same := false) rfl (hb hby at_162) rfl (decide_eq_false fun q => (Fld.ne ST.k30 ST.k32 (fun q => absurd (Value.int.inj q) (by decide))) (Value.ref.inj q)) (by decide) (by decide) k) ?_
    show G T48 (mkF m 165 ls50 [])
    refine step (fun t k => XS.aloadN X48.here hx rfl (hb hby at_165) (by rw [hls50]; rfl) rfl k) ?_
    show G T48 (mkF m 166 ls50 [(.ref w_DELIVERED)])
    refine step (fun t k => XS.aload X48.here hx rfl (hb hby at_166) (by rw [hls50]; rfl) rfl k) ?_
    show G T48 (mkF m 168 ls50 [(.ref w_FORBIDDEN), (.ref w_DELIVERED)])
    refine step (fun t k => Jvm.RoadKit.acmp X48 hx rfl rfl rfl (pc0 := 168) (pc' := 171) (same := false) rfl (hb hby at_168) rfl (decide_eq_false fun q => (Fld.ne ST.k30 ST.k33 (fun q => absurd (Value.int.inj q) (by decide))) (Value.ref.inj q)) (by decide) (by decide) k) ?_
    show G T48 (mkF m 171 ls50 [])
    refine step (fun t k => XS.aloadN X48.here hx rfl (hb hby at_171) (by rw [hls50]; rfl) rfl k) ?_
    show G T48 (mkF m 172 ls50 [(.ref w_DELIVERED)])
    refine step (fun t k => XS.aload X48.here hx rfl (hb hby at_172) (by rw [hls50]; rfl) rfl k) ?_
    show G T48 (mkF m 174 ls50 [(.ref w_GONE), (.ref w_DELIVERED)])
    refine step (fun t k => Jvm.RoadKit.acmp X48 hx rfl rfl rfl (pc0 := 174) (pc' := 177) (same := false) rfl (hb hby at_174) rfl (decide_eq_false fun q => (Fld.ne ST.k30 ST.k34 (fun q => absurd (Value.int.inj q) (by decide))) (Value.ref.inj q)) (by decide) (by decide) k) ?_
    show G T48 (mkF m 177 ls50 [])
    refine step (fun t k => XS.aloadN X48.here hx rfl (hb hby at_177) (by rw [hls50]; rfl) rfl k) ?_
    show G T48 (mkF m 178 ls50 [(.ref w_DELIVERED)])
    refine step (fun t k => XS.aload X48.here hx rfl (hb hby at_178) (by rw [hls50]; rfl) rfl k) ?_
    show G T48 (mkF m 180 ls50 [(.ref w_PAYLOAD_TOO_LARGE), (.ref w_DELIVERED)])
    refine step (fun t k => Jvm.RoadKit.acmp X48 hx rfl rfl rfl (pc0 := 180) (pc' := 187) (same := false) rfl (hb hby at_180) rfl (decide_eq_false fun q => (Fld.ne ST.k30 ST.k35 (fun q => absurd (Value.int.inj q) (by decide))) (Value.ref.inj q)) (by decide) (by decide) k) ?_
    show G T48 (mkF m 187 ls50 [])
    refine step (fun t k => XS.iconst X48.here hx rfl (hb hby at_187) k) ?_
    show G T48 (mkF m 188 ls50 [(.int 0)])
    obtain ⟨ls51, hls51⟩  := own_sl #[.val (.int p0), .val (.ref b1), .val (.ref w_DELIVERED), .val (.ref w_BAD_REQUEST), .val (.ref w_UNAUTHORIZED), .val (.ref w_FORBIDDEN), .val (.ref w_GONE), .val (.ref w_PAYLOAD_TOO_LARGE), .val (.int 0)]
    refine step (fun t k => XS.istore X48.here hx rfl (hb hby at_188) rfl (l' := ls51) (by rw [hls50, hls51]; rfl) k) ?_
    show G T48 (mkF m 190 ls51 [])
    refine step (fun t k => XS.aloadN X48.here hx rfl (hb hby at_190) (by rw [hls51]; rfl) rfl k) ?_
    show G T48 (mkF m 191 ls51 [(.ref w_DELIVERED)])
    have hK52 := (backOf (R := room_1) (p := p) (e := e) (below := below) (s := s) (args := #[(.int p0)]) (len := 3) (W := 0) (rm_retr l Z a0 hw [] w_DELIVERED w_BAD_REQUEST w_UNAUTHORIZED w_FORBIDDEN w_NOT_FOUND w_GONE w_TIMED_OUT w_PAYLOAD_TOO_LARGE w_BUSY w_REDIRECTED w_SERVER_ERROR w_FAILED w_SOCKET_ERROR w_RESOLUTION_ERROR w_PROBATION w_DELIVERED (0 : Int32) h31 n0 (own_old_le O31) ST O31 (Exa.ext O31.2 ST.k1) (Fld.ext O31.2 ST.k30)) hZ (ww47 hw) (ww3 hw) (by decide) (by decide))
    obtain ⟨cq52, kq52, q52a, q52b, q52c⟩ := isOf hZ e48 (Exa.ext O31.2 ST.k1)
    obtain ⟨_, _, ⟨T52, L52, k52, n52⟩, -, X52, ⟨Lc52, hQ52, l52, y52, z52⟩, st52⟩ := X48.virtualBack hx (y := y_3) (z := y_3) hown (mvT hZ (ww43 hw)) (mvT hZ (ww44 hw)) (notFace_of_selects (args := #[]) (mvT hZ (ww46 hw))) (mvT hZ (ww46 hw)) (mvT hZ (ww45 hw)) (by decide) hK52 q52a q52c (g := (mkF m 191 ls51 [(.ref w_DELIVERED)])) rfl (by rw [hml, hls51]; rfl) (Steps.refl _) (argsL := []) (rest := []) (lenOf pd_2 rfl) rfl (by show 2 * 0 + _ ≤ _; exact Nat.le_of_eq rfl) (hb hby at_191) (fun _ _ => ⟨rfl, e48, (by decide : 1 + 0 ≤ _), (by decide : 15 + 0 ≤ _)⟩)
    dsimp only [Pt.U, Pt.locs, Pt.cells, Pt.slots] at X52 l52 y52 z52 st52 hQ52
    subst l52 y52 z52
    obtain ⟨rfl, N52q, e52⟩ := hQ52
    have N52 := Fr.app N48 N52q
    obtain ⟨lc52, X52, N52⟩ := own_gen X52 N52
    refine step (fun t k => st52.trans k) ?_
    show G T52 (mkF m 194 ls51 [(.int (f_retr w_DELIVERED w_BAD_REQUEST w_UNAUTHORIZED w_FORBIDDEN w_NOT_FOUND w_GONE w_TIMED_OUT w_PAYLOAD_TOO_LARGE w_BUSY w_REDIRECTED w_SERVER_ERROR w_FAILED w_SOCKET_ERROR w_RESOLUTION_ERROR w_PROBATION w_DELIVERED (0 : Int32)))])
    have r53 : (f_retr w_DELIVERED w_BAD_REQUEST w_UNAUTHORIZED w_FORBIDDEN w_NOT_FOUND w_GONE w_TIMED_OUT w_PAYLOAD_TOO_LARGE w_BUSY w_REDIRECTED w_SERVER_ERROR w_FAILED w_SOCKET_ERROR w_RESOLUTION_ERROR w_PROBATION w_DELIVERED (0 : Int32)) = (1 : Int32) := by
      unfold f_retr
      rw [if_neg (by decide : ¬ ((0 : Int32) = (1 : Int32))), if_neg (by decide : ¬ ((0 : Int32) = (2 : Int32))), if_neg (by decide : ¬ ((0 : Int32) = (3 : Int32))), if_neg (by decide : ¬ ((0 : Int32) = (4 : Int32))), if_neg (by decide : ¬ ((0 : Int32) = (5 : Int32))), if_neg (by decide : ¬ ((0 : Int32) = (6 : Int32))), if_neg (by decide : ¬ ((0 : Int32) = (7 : Int32)))]
    rw [r53]
    show G T52 (mkF m 194 ls51 [(.int 1)])
    refine step (fun t k => XS.iload X52.here hx rfl (hb hby at_194) (by rw [hls51]; rfl) k) ?_
    show G T52 (mkF m 196 ls51 [(.int 0), (.int 1)])
    refine step (fun t k => XS.ifNo X52.here hx rfl (hb hby at_196) rfl ((if0 _ _).trans (teq (by decide : (0 : Int32) = (0 : Int32))).2) k) ?_
    show G T52 (mkF m 199 ls51 [(.int 1)])
    refine step (fun t k => XS.iconst X52.here hx rfl (hb hby at_199) k) ?_
    show G T52 (mkF m 200 ls51 [(.int 1), (.int 1)])
    refine step (fun t k => XS.goto X52.here hx rfl (pc0 := 200) (pc' := 204) rfl (hb hby at_200) (by decide) (by decide) k) ?_
    show G T52 (mkF m 204 ls51 [(.int 1), (.int 1)])
    refine step (fun t k => XS.icmpNo X52.here hx rfl (hb hby at_204) rfl (teq (by decide : (1 : Int32) = (1 : Int32))).2 k) ?_
    show G T52 (mkF m 207 ls51 [])
    refine step (fun t k => XS.iconst X52.here hx rfl (hb hby at_207) k) ?_
    show G T52 (mkF m 208 ls51 [(.int 1)])
    refine step (fun t k => XS.goto X52.here hx rfl (pc0 := 208) (pc' := 212) rfl (hb hby at_208) (by decide) (by decide) k) ?_
    show G T52 (mkF m 212 ls51 [(.int 1)])
    exact ret (v := some (.int 1)) X52 (fun h => by rw [Bd.returns] at h; cases h) (fun fs hr => retN X52 hx (t := .boolean) Bd.returns (by simp) (hb hby at_212) hr) e52 ⟨rfl, N52⟩ (by decide) (by decide)
  · rw [hk]
    show G T31 (mkF m 113 ls32 [(.int 1), (.ref b1)])
    have q54 := own_ldR X31 hx hZ e31 V31 (j := (1 : Int32)) (v := (.ref w_BAD_REQUEST)) (by decide) (own_at (i := 1) rfl rfl) rfl (g := (mkF m 113 ls32 [(.int 1), (.ref b1)])) rfl rfl (hb hby at_113)
    refine step q54 ?_
    show G T31 (mkF m 114 ls32 [(.ref w_BAD_REQUEST)])
    obtain ⟨ls55, hls55⟩  := own_sl #[.val (.int p0), .val (.ref b1), .val (.ref w_BAD_REQUEST), .unset, .unset, .unset, .unset, .unset, .unset]
    refine step (fun t k => XS.astoreN X31.here hx rfl (hb hby at_114) rfl rfl (l' := ls55) (by rw [hls32, hls55]; rfl) k) ?_
    show G T31 (mkF m 115 ls55 [])
    refine step (fun t k => XS.sipush X31.here hx rfl (hb hby at_115) k) ?_
    show G T31 (mkF m 118 ls55 [(.int 400)])
    have hK56 := (backOf (R := room_1) (p := p) (e := e) (below := below) (s := s) (args := #[(.int p0)]) (len := 3) (W := 0) (rm_of400 l Z a0 hw [] w_DELIVERED w_BAD_REQUEST w_UNAUTHORIZED w_FORBIDDEN w_NOT_FOUND w_GONE w_TIMED_OUT w_PAYLOAD_TOO_LARGE w_BUSY w_REDIRECTED w_SERVER_ERROR w_FAILED w_SOCKET_ERROR w_RESOLUTION_ERROR w_PROBATION h31 n0 (own_old_le O31) ST O31) hZ (ww37 hw) (ww3 hw) (by decide) (by decide))
    obtain ⟨_, _, ⟨T56, L56, k56, n56⟩, -, X56, ⟨Lc56, hQ56, l56, y56, z56⟩, st56⟩ := Jvm.LawKit.callS X31 hx (y := y_0) hown (mvT hZ (ww35 hw)) (mvT hZ (ww36 hw)) (mvT hZ (ww3 hw)) (mvT hZ (ww37 hw)) (by decide) hK56 (g := (mkF m 118 ls55 [(.int 400)])) rfl (by rw [hml, hls55]; rfl) (argsL := [(.int 400)]) (rest := []) (lenOf pd_1 rfl) rfl (by show 2 * 0 + _ ≤ _; exact Nat.le_of_eq rfl) (hb hby at_118) (fun _ _ => ⟨rfl, e31, (by decide : 1 + 0 ≤ _), (by decide : 15 + 0 ≤ _)⟩)
    dsimp only [Pt.U, Pt.locs, Pt.cells, Pt.slots] at X56 l56 y56 z56 st56 hQ56
    subst l56 y56 z56
    obtain ⟨rfl, N56q, e56⟩ := hQ56
    have N56 := Fr.app N31 N56q
    obtain ⟨lc56, X56, N56⟩ := own_gen X56 N56
    refine step (fun t k => st56 t k) ?_
    show G T56 (mkF m 121 ls55 [(.ref (f_of400 w_DELIVERED w_BAD_REQUEST w_UNAUTHORIZED w_FORBIDDEN w_NOT_FOUND w_GONE w_TIMED_OUT w_PAYLOAD_TOO_LARGE w_BUSY w_REDIRECTED w_SERVER_ERROR w_FAILED w_SOCKET_ERROR w_RESOLUTION_ERROR w_PROBATION))])
    have r57 : (f_of400 w_DELIVERED w_BAD_REQUEST w_UNAUTHORIZED w_FORBIDDEN w_NOT_FOUND w_GONE w_TIMED_OUT w_PAYLOAD_TOO_LARGE w_BUSY w_REDIRECTED w_SERVER_ERROR w_FAILED w_SOCKET_ERROR w_RESOLUTION_ERROR w_PROBATION) = w_BAD_REQUEST := rfl
    rw [r57]
    show G T56 (mkF m 121 ls55 [(.ref w_BAD_REQUEST)])
    obtain ⟨ls58, hls58⟩  := own_sl #[.val (.int p0), .val (.ref b1), .val (.ref w_BAD_REQUEST), .val (.ref w_BAD_REQUEST), .unset, .unset, .unset, .unset, .unset]
    refine step (fun t k => XS.astoreN X56.here hx rfl (hb hby at_121) rfl rfl (l' := ls58) (by rw [hls55, hls58]; rfl) k) ?_
    show G T56 (mkF m 122 ls58 [])
    refine step (fun t k => XS.sipush X56.here hx rfl (hb hby at_122) k) ?_
    show G T56 (mkF m 125 ls58 [(.int 401)])
    have hK59 := (backOf (R := room_1) (p := p) (e := e) (below := below) (s := s) (args := #[(.int p0)]) (len := 3) (W := 0) (rm_of401 l Z a0 hw [] w_DELIVERED w_BAD_REQUEST w_UNAUTHORIZED w_FORBIDDEN w_NOT_FOUND w_GONE w_TIMED_OUT w_PAYLOAD_TOO_LARGE w_BUSY w_REDIRECTED w_SERVER_ERROR w_FAILED w_SOCKET_ERROR w_RESOLUTION_ERROR w_PROBATION h31 n0 (own_old_le O31) ST O31) hZ (ww37 hw) (ww3 hw) (by decide) (by decide))
    obtain ⟨_, _, ⟨T59, L59, k59, n59⟩, -, X59, ⟨Lc59, hQ59, l59, y59, z59⟩, st59⟩ := Jvm.LawKit.callS X56 hx (y := y_0) hown (mvT hZ (ww35 hw)) (mvT hZ (ww36 hw)) (mvT hZ (ww3 hw)) (mvT hZ (ww37 hw)) (by decide) hK59 (g := (mkF m 125 ls58 [(.int 401)])) rfl (by rw [hml, hls58]; rfl) (argsL := [(.int 401)]) (rest := []) (lenOf pd_1 rfl) rfl (by show 2 * 0 + _ ≤ _; exact Nat.le_of_eq rfl) (hb hby at_125) (fun _ _ => ⟨rfl, e56, (by decide : 1 + 0 ≤ _), (by decide : 15 + 0 ≤ _)⟩)
    dsimp only [Pt.U, Pt.locs, Pt.cells, Pt.slots] at X59 l59 y59 z59 st59 hQ59
    subst l59 y59 z59
    obtain ⟨rfl, N59q, e59⟩ := hQ59
    have N59 := Fr.app N56 N59q
    obtain ⟨lc59, X59, N59⟩ := own_gen X59 N59
    refine step (fun t k => st59 t k) ?_
    show G T59 (mkF m 128 ls58 [(.ref (f_of401 w_DELIVERED w_BAD_REQUEST w_UNAUTHORIZED w_FORBIDDEN w_NOT_FOUND w_GONE w_TIMED_OUT w_PAYLOAD_TOO_LARGE w_BUSY w_REDIRECTED w_SERVER_ERROR w_FAILED w_SOCKET_ERROR w_RESOLUTION_ERROR w_PROBATION))])
    have r60 : (f_of401 w_DELIVERED w_BAD_REQUEST w_UNAUTHORIZED w_FORBIDDEN w_NOT_FOUND w_GONE w_TIMED_OUT w_PAYLOAD_TOO_LARGE w_BUSY w_REDIRECTED w_SERVER_ERROR w_FAILED w_SOCKET_ERROR w_RESOLUTION_ERROR w_PROBATION) = w_UNAUTHORIZED := rfl
    rw [r60]
    show G T59 (mkF m 128 ls58 [(.ref w_UNAUTHORIZED)])
    obtain ⟨ls61, hls61⟩  := own_sl #[.val (.int p0), .val (.ref b1), .val (.ref w_BAD_REQUEST), .val (.ref w_BAD_REQUEST), .val (.ref w_UNAUTHORIZED), .unset, .unset, .unset, .unset]
    refine step (fun t k => XS.astore X59.here hx rfl (hb hby at_128) rfl rfl (l' := ls61) (by rw [hls58, hls61]; rfl) k) ?_
    show G T59 (mkF m 130 ls61 [])
    refine step (fun t k => XS.sipush X59.here hx rfl (hb hby at_130) k) ?_
    show G T59 (mkF m 133 ls61 [(.int 403)])
    have hK62 := (backOf (R := room_1) (p := p) (e := e) (below := below) (s := s) (args := #[(.int p0)]) (len := 3) (W := 0) (rm_of403 l Z a0 hw [] w_DELIVERED w_BAD_REQUEST w_UNAUTHORIZED w_FORBIDDEN w_NOT_FOUND w_GONE w_TIMED_OUT w_PAYLOAD_TOO_LARGE w_BUSY w_REDIRECTED w_SERVER_ERROR w_FAILED w_SOCKET_ERROR w_RESOLUTION_ERROR w_PROBATION h31 n0 (own_old_le O31) ST O31) hZ (ww37 hw) (ww3 hw) (by decide) (by decide))
    obtain ⟨_, _, ⟨T62, L62, k62, n62⟩, -, X62, ⟨Lc62, hQ62, l62, y62, z62⟩, st62⟩ := Jvm.LawKit.callS X59 hx (y := y_0) hown (mvT hZ (ww35 hw)) (mvT hZ (ww36 hw)) (mvT hZ (ww3 hw)) (mvT hZ (ww37 hw)) (by decide) hK62 (g := (mkF m 133 ls61 [(.int 403)])) rfl (by rw [hml, hls61]; rfl) (argsL := [(.int 403)]) (rest := []) (lenOf pd_1 rfl) rfl (by show 2 * 0 + _ ≤ _; exact Nat.le_of_eq rfl) (hb hby at_133) (fun _ _ => ⟨rfl, e59, (by decide : 1 + 0 ≤ _), (by decide : 15 + 0 ≤ _)⟩)
    dsimp only [Pt.U, Pt.locs, Pt.cells, Pt.slots] at X62 l62 y62 z62 st62 hQ62
    subst l62 y62 z62
    obtain ⟨rfl, N62q, e62⟩ := hQ62
    have N62 := Fr.app N59 N62q
    obtain ⟨lc62, X62, N62⟩ := own_gen X62 N62
    refine step (fun t k => st62 t k) ?_
    show G T62 (mkF m 136 ls61 [(.ref (f_of403 w_DELIVERED w_BAD_REQUEST w_UNAUTHORIZED w_FORBIDDEN w_NOT_FOUND w_GONE w_TIMED_OUT w_PAYLOAD_TOO_LARGE w_BUSY w_REDIRECTED w_SERVER_ERROR w_FAILED w_SOCKET_ERROR w_RESOLUTION_ERROR w_PROBATION))])
    have r63 : (f_of403 w_DELIVERED w_BAD_REQUEST w_UNAUTHORIZED w_FORBIDDEN w_NOT_FOUND w_GONE w_TIMED_OUT w_PAYLOAD_TOO_LARGE w_BUSY w_REDIRECTED w_SERVER_ERROR w_FAILED w_SOCKET_ERROR w_RESOLUTION_ERROR w_PROBATION) = w_FORBIDDEN := rfl
    rw [r63]
    show G T62 (mkF m 136 ls61 [(.ref w_FORBIDDEN)])
    obtain ⟨ls64, hls64⟩  := own_sl #[.val (.int p0), .val (.ref b1), .val (.ref w_BAD_REQUEST), .val (.ref w_BAD_REQUEST), .val (.ref w_UNAUTHORIZED), .val (.ref w_FORBIDDEN), .unset, .unset, .unset]
    refine step (fun t k => XS.astore X62.here hx rfl (hb hby at_136) rfl rfl (l' := ls64) (by rw [hls61, hls64]; rfl) k) ?_
    show G T62 (mkF m 138 ls64 [])
    refine step (fun t k => XS.sipush X62.here hx rfl (hb hby at_138) k) ?_
    show G T62 (mkF m 141 ls64 [(.int 410)])
    have hK65 := (backOf (R := room_1) (p := p) (e := e) (below := below) (s := s) (args := #[(.int p0)]) (len := 3) (W := 0) (rm_of410 l Z a0 hw [] w_DELIVERED w_BAD_REQUEST w_UNAUTHORIZED w_FORBIDDEN w_NOT_FOUND w_GONE w_TIMED_OUT w_PAYLOAD_TOO_LARGE w_BUSY w_REDIRECTED w_SERVER_ERROR w_FAILED w_SOCKET_ERROR w_RESOLUTION_ERROR w_PROBATION h31 n0 (own_old_le O31) ST O31) hZ (ww37 hw) (ww3 hw) (by decide) (by decide))
    obtain ⟨_, _, ⟨T65, L65, k65, n65⟩, -, X65, ⟨Lc65, hQ65, l65, y65, z65⟩, st65⟩ := Jvm.LawKit.callS X62 hx (y := y_0) hown (mvT hZ (ww35 hw)) (mvT hZ (ww36 hw)) (mvT hZ (ww3 hw)) (mvT hZ (ww37 hw)) (by decide) hK65 (g := (mkF m 141 ls64 [(.int 410)])) rfl (by rw [hml, hls64]; rfl) (argsL := [(.int 410)]) (rest := []) (lenOf pd_1 rfl) rfl (by show 2 * 0 + _ ≤ _; exact Nat.le_of_eq rfl) (hb hby at_141) (fun _ _ => ⟨rfl, e62, (by decide : 1 + 0 ≤ _), (by decide : 15 + 0 ≤ _)⟩)
    dsimp only [Pt.U, Pt.locs, Pt.cells, Pt.slots] at X65 l65 y65 z65 st65 hQ65
    subst l65 y65 z65
    obtain ⟨rfl, N65q, e65⟩ := hQ65
    have N65 := Fr.app N62 N65q
    obtain ⟨lc65, X65, N65⟩ := own_gen X65 N65
    refine step (fun t k => st65 t k) ?_
    show G T65 (mkF m 144 ls64 [(.ref (f_of410 w_DELIVERED w_BAD_REQUEST w_UNAUTHORIZED w_FORBIDDEN w_NOT_FOUND w_GONE w_TIMED_OUT w_PAYLOAD_TOO_LARGE w_BUSY w_REDIRECTED w_SERVER_ERROR w_FAILED w_SOCKET_ERROR w_RESOLUTION_ERROR w_PROBATION))])
    have r66 : (f_of410 w_DELIVERED w_BAD_REQUEST w_UNAUTHORIZED w_FORBIDDEN w_NOT_FOUND w_GONE w_TIMED_OUT w_PAYLOAD_TOO_LARGE w_BUSY w_REDIRECTED w_SERVER_ERROR w_FAILED w_SOCKET_ERROR w_RESOLUTION_ERROR w_PROBATION) = w_GONE := rfl
    rw [r66]
    show G T65 (mkF m 144 ls64 [(.ref w_GONE)])
    obtain ⟨ls67, hls67⟩  := own_sl #[.val (.int p0), .val (.ref b1), .val (.ref w_BAD_REQUEST), .val (.ref w_BAD_REQUEST), .val (.ref w_UNAUTHORIZED), .val (.ref w_FORBIDDEN), .val (.ref w_GONE), .unset, .unset]
    refine step (fun t k => XS.astore X65.here hx rfl (hb hby at_144) rfl rfl (l' := ls67) (by rw [hls64, hls67]; rfl) k) ?_
    show G T65 (mkF m 146 ls67 [])
    refine step (fun t k => XS.sipush X65.here hx rfl (hb hby at_146) k) ?_
    show G T65 (mkF m 149 ls67 [(.int 413)])
    have hK68 := (backOf (R := room_1) (p := p) (e := e) (below := below) (s := s) (args := #[(.int p0)]) (len := 3) (W := 0) (rm_of413 l Z a0 hw [] w_DELIVERED w_BAD_REQUEST w_UNAUTHORIZED w_FORBIDDEN w_NOT_FOUND w_GONE w_TIMED_OUT w_PAYLOAD_TOO_LARGE w_BUSY w_REDIRECTED w_SERVER_ERROR w_FAILED w_SOCKET_ERROR w_RESOLUTION_ERROR w_PROBATION h31 n0 (own_old_le O31) ST O31) hZ (ww37 hw) (ww3 hw) (by decide) (by decide))
    obtain ⟨_, _, ⟨T68, L68, k68, n68⟩, -, X68, ⟨Lc68, hQ68, l68, y68, z68⟩, st68⟩ := Jvm.LawKit.callS X65 hx (y := y_0) hown (mvT hZ (ww35 hw)) (mvT hZ (ww36 hw)) (mvT hZ (ww3 hw)) (mvT hZ (ww37 hw)) (by decide) hK68 (g := (mkF m 149 ls67 [(.int 413)])) rfl (by rw [hml, hls67]; rfl) (argsL := [(.int 413)]) (rest := []) (lenOf pd_1 rfl) rfl (by show 2 * 0 + _ ≤ _; exact Nat.le_of_eq rfl) (hb hby at_149) (fun _ _ => ⟨rfl, e65, (by decide : 1 + 0 ≤ _), (by decide : 15 + 0 ≤ _)⟩)
    dsimp only [Pt.U, Pt.locs, Pt.cells, Pt.slots] at X68 l68 y68 z68 st68 hQ68
    subst l68 y68 z68
    obtain ⟨rfl, N68q, e68⟩ := hQ68
    have N68 := Fr.app N65 N68q
    obtain ⟨lc68, X68, N68⟩ := own_gen X68 N68
    refine step (fun t k => st68 t k) ?_
    show G T68 (mkF m 152 ls67 [(.ref (f_of413 w_DELIVERED w_BAD_REQUEST w_UNAUTHORIZED w_FORBIDDEN w_NOT_FOUND w_GONE w_TIMED_OUT w_PAYLOAD_TOO_LARGE w_BUSY w_REDIRECTED w_SERVER_ERROR w_FAILED w_SOCKET_ERROR w_RESOLUTION_ERROR w_PROBATION))])
    have r69 : (f_of413 w_DELIVERED w_BAD_REQUEST w_UNAUTHORIZED w_FORBIDDEN w_NOT_FOUND w_GONE w_TIMED_OUT w_PAYLOAD_TOO_LARGE w_BUSY w_REDIRECTED w_SERVER_ERROR w_FAILED w_SOCKET_ERROR w_RESOLUTION_ERROR w_PROBATION) = w_PAYLOAD_TOO_LARGE := rfl
    rw [r69]
    show G T68 (mkF m 152 ls67 [(.ref w_PAYLOAD_TOO_LARGE)])
    obtain ⟨ls70, hls70⟩  := own_sl #[.val (.int p0), .val (.ref b1), .val (.ref w_BAD_REQUEST), .val (.ref w_BAD_REQUEST), .val (.ref w_UNAUTHORIZED), .val (.ref w_FORBIDDEN), .val (.ref w_GONE), .val (.ref w_PAYLOAD_TOO_LARGE), .unset]
    refine step (fun t k => XS.astore X68.here hx rfl (hb hby at_152) rfl rfl (l' := ls70) (by rw [hls67, hls70]; rfl) k) ?_
    show G T68 (mkF m 154 ls70 [])
    refine step (fun t k => XS.aloadN X68.here hx rfl (hb hby at_154) (by rw [hls70]; rfl) rfl k) ?_
    show G T68 (mkF m 155 ls70 [(.ref w_BAD_REQUEST)])
    refine step (fun t k => XS.aloadN X68.here hx rfl (hb hby at_155) (by rw [hls70]; rfl) rfl k) ?_
    show G T68 (mkF m 156 ls70 [(.ref w_BAD_REQUEST), (.ref w_BAD_REQUEST)])
    refine step (fun t k => Jvm.RoadKit.acmp X68 hx rfl rfl rfl (pc0 := 156) (pc' := 183) (same := true) rfl (hb hby at_156) rfl (decide_eq_true rfl) (by decide) (by decide) k) ?_
    show G T68 (mkF m 183 ls70 [])
    refine step (fun t k => XS.iconst X68.here hx rfl (hb hby at_183) k) ?_
    show G T68 (mkF m 184 ls70 [(.int 1)])
    refine step (fun t k => XS.goto X68.here hx rfl (pc0 := 184) (pc' := 188) rfl (hb hby at_184) (by decide) (by decide) k) ?_
    show G T68 (mkF m 188 ls70 [(.int 1)])
    obtain ⟨ls71, hls71⟩  := own_sl #[.val (.int p0), .val (.ref b1), .val (.ref w_BAD_REQUEST), .val (.ref w_BAD_REQUEST), .val (.ref w_UNAUTHORIZED), .val (.ref w_FORBIDDEN), .val (.ref w_GONE), .val (.ref w_PAYLOAD_TOO_LARGE), .val (.int 1)]
    refine step (fun t k => XS.istore X68.here hx rfl (hb hby at_188) rfl (l' := ls71) (by rw [hls70, hls71]; rfl) k) ?_
    show G T68 (mkF m 190 ls71 [])
    refine step (fun t k => XS.aloadN X68.here hx rfl (hb hby at_190) (by rw [hls71]; rfl) rfl k) ?_
    show G T68 (mkF m 191 ls71 [(.ref w_BAD_REQUEST)])
    have hK72 := (backOf (R := room_1) (p := p) (e := e) (below := below) (s := s) (args := #[(.int p0)]) (len := 3) (W := 0) (rm_retr l Z a0 hw [] w_DELIVERED w_BAD_REQUEST w_UNAUTHORIZED w_FORBIDDEN w_NOT_FOUND w_GONE w_TIMED_OUT w_PAYLOAD_TOO_LARGE w_BUSY w_REDIRECTED w_SERVER_ERROR w_FAILED w_SOCKET_ERROR w_RESOLUTION_ERROR w_PROBATION w_BAD_REQUEST (1 : Int32) h31 n0 (own_old_le O31) ST O31 (Exa.ext O31.2 ST.k3) (Fld.ext O31.2 ST.k31)) hZ (ww47 hw) (ww3 hw) (by decide) (by decide))
    obtain ⟨cq72, kq72, q72a, q72b, q72c⟩ := isOf hZ e68 (Exa.ext O31.2 ST.k3)
    obtain ⟨_, _, ⟨T72, L72, k72, n72⟩, -, X72, ⟨Lc72, hQ72, l72, y72, z72⟩, st72⟩ := X68.virtualBack hx (y := y_3) (z := y_3) hown (mvT hZ (ww43 hw)) (mvT hZ (ww44 hw)) (notFace_of_selects (args := #[]) (mvT hZ (ww46 hw))) (mvT hZ (ww46 hw)) (mvT hZ (ww45 hw)) (by decide) hK72 q72a q72c (g := (mkF m 191 ls71 [(.ref w_BAD_REQUEST)])) rfl (by rw [hml, hls71]; rfl) (Steps.refl _) (argsL := []) (rest := []) (lenOf pd_2 rfl) rfl (by show 2 * 0 + _ ≤ _; exact Nat.le_of_eq rfl) (hb hby at_191) (fun _ _ => ⟨rfl, e68, (by decide : 1 + 0 ≤ _), (by decide : 15 + 0 ≤ _)⟩)
    dsimp only [Pt.U, Pt.locs, Pt.cells, Pt.slots] at X72 l72 y72 z72 st72 hQ72
    subst l72 y72 z72
    obtain ⟨rfl, N72q, e72⟩ := hQ72
    have N72 := Fr.app N68 N72q
    obtain ⟨lc72, X72, N72⟩ := own_gen X72 N72
    refine step (fun t k => st72.trans k) ?_
    show G T72 (mkF m 194 ls71 [(.int (f_retr w_DELIVERED w_BAD_REQUEST w_UNAUTHORIZED w_FORBIDDEN w_NOT_FOUND w_GONE w_TIMED_OUT w_PAYLOAD_TOO_LARGE w_BUSY w_REDIRECTED w_SERVER_ERROR w_FAILED w_SOCKET_ERROR w_RESOLUTION_ERROR w_PROBATION w_BAD_REQUEST (1 : Int32)))])
    have r73 : (f_retr w_DELIVERED w_BAD_REQUEST w_UNAUTHORIZED w_FORBIDDEN w_NOT_FOUND w_GONE w_TIMED_OUT w_PAYLOAD_TOO_LARGE w_BUSY w_REDIRECTED w_SERVER_ERROR w_FAILED w_SOCKET_ERROR w_RESOLUTION_ERROR w_PROBATION w_BAD_REQUEST (1 : Int32)) = (0 : Int32) := by
      unfold f_retr
      rw [if_pos (by decide : (1 : Int32) = (1 : Int32))]
    rw [r73]
    show G T72 (mkF m 194 ls71 [(.int 0)])
    refine step (fun t k => XS.iload X72.here hx rfl (hb hby at_194) (by rw [hls71]; rfl) k) ?_
    show G T72 (mkF m 196 ls71 [(.int 1), (.int 0)])
    refine step (fun t k => XS.ifYes X72.here hx rfl (pc0 := 196) (pc' := 203) rfl (hb hby at_196) rfl ((if0 _ _).trans (feq (by decide : ¬ ((1 : Int32) = (0 : Int32)))).2) (by decide) (by decide) k) ?_
    show G T72 (mkF m 203 ls71 [(.int 0)])
    refine step (fun t k => XS.iconst X72.here hx rfl (hb hby at_203) k) ?_
    show G T72 (mkF m 204 ls71 [(.int 0), (.int 0)])
    refine step (fun t k => XS.icmpNo X72.here hx rfl (hb hby at_204) rfl (teq (by decide : (0 : Int32) = (0 : Int32))).2 k) ?_
    show G T72 (mkF m 207 ls71 [])
    refine step (fun t k => XS.iconst X72.here hx rfl (hb hby at_207) k) ?_
    show G T72 (mkF m 208 ls71 [(.int 1)])
    refine step (fun t k => XS.goto X72.here hx rfl (pc0 := 208) (pc' := 212) rfl (hb hby at_208) (by decide) (by decide) k) ?_
    show G T72 (mkF m 212 ls71 [(.int 1)])
    exact ret (v := some (.int 1)) X72 (fun h => by rw [Bd.returns] at h; cases h) (fun fs hr => retN X72 hx (t := .boolean) Bd.returns (by simp) (hb hby at_212) hr) e72 ⟨rfl, N72⟩ (by decide) (by decide)
  · rw [hk]
    show G T31 (mkF m 113 ls32 [(.int 2), (.ref b1)])
    have q74 := own_ldR X31 hx hZ e31 V31 (j := (2 : Int32)) (v := (.ref w_UNAUTHORIZED)) (by decide) (own_at (i := 2) rfl rfl) rfl (g := (mkF m 113 ls32 [(.int 2), (.ref b1)])) rfl rfl (hb hby at_113)
    refine step q74 ?_
    show G T31 (mkF m 114 ls32 [(.ref w_UNAUTHORIZED)])
    obtain ⟨ls75, hls75⟩  := own_sl #[.val (.int p0), .val (.ref b1), .val (.ref w_UNAUTHORIZED), .unset, .unset, .unset, .unset, .unset, .unset]
    refine step (fun t k => XS.astoreN X31.here hx rfl (hb hby at_114) rfl rfl (l' := ls75) (by rw [hls32, hls75]; rfl) k) ?_
    show G T31 (mkF m 115 ls75 [])
    refine step (fun t k => XS.sipush X31.here hx rfl (hb hby at_115) k) ?_
    show G T31 (mkF m 118 ls75 [(.int 400)])
    have hK76 := (backOf (R := room_1) (p := p) (e := e) (below := below) (s := s) (args := #[(.int p0)]) (len := 3) (W := 0) (rm_of400 l Z a0 hw [] w_DELIVERED w_BAD_REQUEST w_UNAUTHORIZED w_FORBIDDEN w_NOT_FOUND w_GONE w_TIMED_OUT w_PAYLOAD_TOO_LARGE w_BUSY w_REDIRECTED w_SERVER_ERROR w_FAILED w_SOCKET_ERROR w_RESOLUTION_ERROR w_PROBATION h31 n0 (own_old_le O31) ST O31) hZ (ww37 hw) (ww3 hw) (by decide) (by decide))
    obtain ⟨_, _, ⟨T76, L76, k76, n76⟩, -, X76, ⟨Lc76, hQ76, l76, y76, z76⟩, st76⟩ := Jvm.LawKit.callS X31 hx (y := y_0) hown (mvT hZ (ww35 hw)) (mvT hZ (ww36 hw)) (mvT hZ (ww3 hw)) (mvT hZ (ww37 hw)) (by decide) hK76 (g := (mkF m 118 ls75 [(.int 400)])) rfl (by rw [hml, hls75]; rfl) (argsL := [(.int 400)]) (rest := []) (lenOf pd_1 rfl) rfl (by show 2 * 0 + _ ≤ _; exact Nat.le_of_eq rfl) (hb hby at_118) (fun _ _ => ⟨rfl, e31, (by decide : 1 + 0 ≤ _), (by decide : 15 + 0 ≤ _)⟩)
    dsimp only [Pt.U, Pt.locs, Pt.cells, Pt.slots] at X76 l76 y76 z76 st76 hQ76
    subst l76 y76 z76
    obtain ⟨rfl, N76q, e76⟩ := hQ76
    have N76 := Fr.app N31 N76q
    obtain ⟨lc76, X76, N76⟩ := own_gen X76 N76
    refine step (fun t k => st76 t k) ?_
    show G T76 (mkF m 121 ls75 [(.ref (f_of400 w_DELIVERED w_BAD_REQUEST w_UNAUTHORIZED w_FORBIDDEN w_NOT_FOUND w_GONE w_TIMED_OUT w_PAYLOAD_TOO_LARGE w_BUSY w_REDIRECTED w_SERVER_ERROR w_FAILED w_SOCKET_ERROR w_RESOLUTION_ERROR w_PROBATION))])
    have r77 : (f_of400 w_DELIVERED w_BAD_REQUEST w_UNAUTHORIZED w_FORBIDDEN w_NOT_FOUND w_GONE w_TIMED_OUT w_PAYLOAD_TOO_LARGE w_BUSY w_REDIRECTED w_SERVER_ERROR w_FAILED w_SOCKET_ERROR w_RESOLUTION_ERROR w_PROBATION) = w_BAD_REQUEST := rfl
    rw [r77]
    show G T76 (mkF m 121 ls75 [(.ref w_BAD_REQUEST)])
    obtain ⟨ls78, hls78⟩  := own_sl #[.val (.int p0), .val (.ref b1), .val (.ref w_UNAUTHORIZED), .val (.ref w_BAD_REQUEST), .unset, .unset, .unset, .unset, .unset]
    refine step (fun t k => XS.astoreN X76.here hx rfl (hb hby at_121) rfl rfl (l' := ls78) (by rw [hls75, hls78]; rfl) k) ?_
    show G T76 (mkF m 122 ls78 [])
    refine step (fun t k => XS.sipush X76.here hx rfl (hb hby at_122) k) ?_
    show G T76 (mkF m 125 ls78 [(.int 401)])
    have hK79 := (backOf (R := room_1) (p := p) (e := e) (below := below) (s := s) (args := #[(.int p0)]) (len := 3) (W := 0) (rm_of401 l Z a0 hw [] w_DELIVERED w_BAD_REQUEST w_UNAUTHORIZED w_FORBIDDEN w_NOT_FOUND w_GONE w_TIMED_OUT w_PAYLOAD_TOO_LARGE w_BUSY w_REDIRECTED w_SERVER_ERROR w_FAILED w_SOCKET_ERROR w_RESOLUTION_ERROR w_PROBATION h31 n0 (own_old_le O31) ST O31) hZ (ww37 hw) (ww3 hw) (by decide) (by decide))
    obtain ⟨_, _, ⟨T79, L79, k79, n79⟩, -, X79, ⟨Lc79, hQ79, l79, y79, z79⟩, st79⟩ := Jvm.LawKit.callS X76 hx (y := y_0) hown (mvT hZ (ww35 hw)) (mvT hZ (ww36 hw)) (mvT hZ (ww3 hw)) (mvT hZ (ww37 hw)) (by decide) hK79 (g := (mkF m 125 ls78 [(.int 401)])) rfl (by rw [hml, hls78]; rfl) (argsL := [(.int 401)]) (rest := []) (lenOf pd_1 rfl) rfl (by show 2 * 0 + _ ≤ _; exact Nat.le_of_eq rfl) (hb hby at_125) (fun _ _ => ⟨rfl, e76, (by decide : 1 + 0 ≤ _), (by decide : 15 + 0 ≤ _)⟩)
    dsimp only [Pt.U, Pt.locs, Pt.cells, Pt.slots] at X79 l79 y79 z79 st79 hQ79
    subst l79 y79 z79
    obtain ⟨rfl, N79q, e79⟩ := hQ79
    have N79 := Fr.app N76 N79q
    obtain ⟨lc79, X79, N79⟩ := own_gen X79 N79
    refine step (fun t k => st79 t k) ?_
    show G T79 (mkF m 128 ls78 [(.ref (f_of401 w_DELIVERED w_BAD_REQUEST w_UNAUTHORIZED w_FORBIDDEN w_NOT_FOUND w_GONE w_TIMED_OUT w_PAYLOAD_TOO_LARGE w_BUSY w_REDIRECTED w_SERVER_ERROR w_FAILED w_SOCKET_ERROR w_RESOLUTION_ERROR w_PROBATION))])
    have r80 : (f_of401 w_DELIVERED w_BAD_REQUEST w_UNAUTHORIZED w_FORBIDDEN w_NOT_FOUND w_GONE w_TIMED_OUT w_PAYLOAD_TOO_LARGE w_BUSY w_REDIRECTED w_SERVER_ERROR w_FAILED w_SOCKET_ERROR w_RESOLUTION_ERROR w_PROBATION) = w_UNAUTHORIZED := rfl
    rw [r80]
    show G T79 (mkF m 128 ls78 [(.ref w_UNAUTHORIZED)])
    obtain ⟨ls81, hls81⟩  := own_sl #[.val (.int p0), .val (.ref b1), .val (.ref w_UNAUTHORIZED), .val (.ref w_BAD_REQUEST), .val (.ref w_UNAUTHORIZED), .unset, .unset, .unset, .unset]
    refine step (fun t k => XS.astore X79.here hx rfl (hb hby at_128) rfl rfl (l' := ls81) (by rw [hls78, hls81]; rfl) k) ?_
    show G T79 (mkF m 130 ls81 [])
    refine step (fun t k => XS.sipush X79.here hx rfl (hb hby at_130) k) ?_
    show G T79 (mkF m 133 ls81 [(.int 403)])
    have hK82 := (backOf (R := room_1) (p := p) (e := e) (below := below) (s := s) (args := #[(.int p0)]) (len := 3) (W := 0) (rm_of403 l Z a0 hw [] w_DELIVERED w_BAD_REQUEST w_UNAUTHORIZED w_FORBIDDEN w_NOT_FOUND w_GONE w_TIMED_OUT w_PAYLOAD_TOO_LARGE w_BUSY w_REDIRECTED w_SERVER_ERROR w_FAILED w_SOCKET_ERROR w_RESOLUTION_ERROR w_PROBATION h31 n0 (own_old_le O31) ST O31) hZ (ww37 hw) (ww3 hw) (by decide) (by decide))
    obtain ⟨_, _, ⟨T82, L82, k82, n82⟩, -, X82, ⟨Lc82, hQ82, l82, y82, z82⟩, st82⟩ := Jvm.LawKit.callS X79 hx (y := y_0) hown (mvT hZ (ww35 hw)) (mvT hZ (ww36 hw)) (mvT hZ (ww3 hw)) (mvT hZ (ww37 hw)) (by decide) hK82 (g := (mkF m 133 ls81 [(.int 403)])) rfl (by rw [hml, hls81]; rfl) (argsL := [(.int 403)]) (rest := []) (lenOf pd_1 rfl) rfl (by show 2 * 0 + _ ≤ _; exact Nat.le_of_eq rfl) (hb hby at_133) (fun _ _ => ⟨rfl, e79, (by decide : 1 + 0 ≤ _), (by decide : 15 + 0 ≤ _)⟩)
    dsimp only [Pt.U, Pt.locs, Pt.cells, Pt.slots] at X82 l82 y82 z82 st82 hQ82
    subst l82 y82 z82
    obtain ⟨rfl, N82q, e82⟩ := hQ82
    have N82 := Fr.app N79 N82q
    obtain ⟨lc82, X82, N82⟩ := own_gen X82 N82
    refine step (fun t k => st82 t k) ?_
    show G T82 (mkF m 136 ls81 [(.ref (f_of403 w_DELIVERED w_BAD_REQUEST w_UNAUTHORIZED w_FORBIDDEN w_NOT_FOUND w_GONE w_TIMED_OUT w_PAYLOAD_TOO_LARGE w_BUSY w_REDIRECTED w_SERVER_ERROR w_FAILED w_SOCKET_ERROR w_RESOLUTION_ERROR w_PROBATION))])
    have r83 : (f_of403 w_DELIVERED w_BAD_REQUEST w_UNAUTHORIZED w_FORBIDDEN w_NOT_FOUND w_GONE w_TIMED_OUT w_PAYLOAD_TOO_LARGE w_BUSY w_REDIRECTED w_SERVER_ERROR w_FAILED w_SOCKET_ERROR w_RESOLUTION_ERROR w_PROBATION) = w_FORBIDDEN := rfl
    rw [r83]
    show G T82 (mkF m 136 ls81 [(.ref w_FORBIDDEN)])
    obtain ⟨ls84, hls84⟩  := own_sl #[.val (.int p0), .val (.ref b1), .val (.ref w_UNAUTHORIZED), .val (.ref w_BAD_REQUEST), .val (.ref w_UNAUTHORIZED), .val (.ref w_FORBIDDEN), .unset, .unset, .unset]
    refine step (fun t k => XS.astore X82.here hx rfl (hb hby at_136) rfl rfl (l' := ls84) (by rw [hls81, hls84]; rfl) k) ?_
    show G T82 (mkF m 138 ls84 [])
    refine step (fun t k => XS.sipush X82.here hx rfl (hb hby at_138) k) ?_
    show G T82 (mkF m 141 ls84 [(.int 410)])
    have hK85 := (backOf (R := room_1) (p := p) (e := e) (below := below) (s := s) (args := #[(.int p0)]) (len := 3) (W := 0) (rm_of410 l Z a0 hw [] w_DELIVERED w_BAD_REQUEST w_UNAUTHORIZED w_FORBIDDEN w_NOT_FOUND w_GONE w_TIMED_OUT w_PAYLOAD_TOO_LARGE w_BUSY w_REDIRECTED w_SERVER_ERROR w_FAILED w_SOCKET_ERROR w_RESOLUTION_ERROR w_PROBATION h31 n0 (own_old_le O31) ST O31) hZ (ww37 hw) (ww3 hw) (by decide) (by decide))
    obtain ⟨_, _, ⟨T85, L85, k85, n85⟩, -, X85, ⟨Lc85, hQ85, l85, y85, z85⟩, st85⟩ := Jvm.LawKit.callS X82 hx (y := y_0) hown (mvT hZ (ww35 hw)) (mvT hZ (ww36 hw)) (mvT hZ (ww3 hw)) (mvT hZ (ww37 hw)) (by decide) hK85 (g := (mkF m 141 ls84 [(.int 410)])) rfl (by rw [hml, hls84]; rfl) (argsL := [(.int 410)]) (rest := []) (lenOf pd_1 rfl) rfl (by show 2 * 0 + _ ≤ _; exact Nat.le_of_eq rfl) (hb hby at_141) (fun _ _ => ⟨rfl, e82, (by decide : 1 + 0 ≤ _), (by decide : 15 + 0 ≤ _)⟩)
    dsimp only [Pt.U, Pt.locs, Pt.cells, Pt.slots] at X85 l85 y85 z85 st85 hQ85
    subst l85 y85 z85
    obtain ⟨rfl, N85q, e85⟩ := hQ85
    have N85 := Fr.app N82 N85q
    obtain ⟨lc85, X85, N85⟩ := own_gen X85 N85
    refine step (fun t k => st85 t k) ?_
    show G T85 (mkF m 144 ls84 [(.ref (f_of410 w_DELIVERED w_BAD_REQUEST w_UNAUTHORIZED w_FORBIDDEN w_NOT_FOUND w_GONE w_TIMED_OUT w_PAYLOAD_TOO_LARGE w_BUSY w_REDIRECTED w_SERVER_ERROR w_FAILED w_SOCKET_ERROR w_RESOLUTION_ERROR w_PROBATION))])
    have r86 : (f_of410 w_DELIVERED w_BAD_REQUEST w_UNAUTHORIZED w_FORBIDDEN w_NOT_FOUND w_GONE w_TIMED_OUT w_PAYLOAD_TOO_LARGE w_BUSY w_REDIRECTED w_SERVER_ERROR w_FAILED w_SOCKET_ERROR w_RESOLUTION_ERROR w_PROBATION) = w_GONE := rfl
    rw [r86]
    show G T85 (mkF m 144 ls84 [(.ref w_GONE)])
    obtain ⟨ls87, hls87⟩  := own_sl #[.val (.int p0), .val (.ref b1), .val (.ref w_UNAUTHORIZED), .val (.ref w_BAD_REQUEST), .val (.ref w_UNAUTHORIZED), .val (.ref w_FORBIDDEN), .val (.ref w_GONE), .unset, .unset]
    refine step (fun t k => XS.astore X85.here hx rfl (hb hby at_144) rfl rfl (l' := ls87) (by rw [hls84, hls87]; rfl) k) ?_
    show G T85 (mkF m 146 ls87 [])
    refine step (fun t k => XS.sipush X85.here hx rfl (hb hby at_146) k) ?_
    show G T85 (mkF m 149 ls87 [(.int 413)])
    have hK88 := (backOf (R := room_1) (p := p) (e := e) (below := below) (s := s) (args := #[(.int p0)]) (len := 3) (W := 0) (rm_of413 l Z a0 hw [] w_DELIVERED w_BAD_REQUEST w_UNAUTHORIZED w_FORBIDDEN w_NOT_FOUND w_GONE w_TIMED_OUT w_PAYLOAD_TOO_LARGE w_BUSY w_REDIRECTED w_SERVER_ERROR w_FAILED w_SOCKET_ERROR w_RESOLUTION_ERROR w_PROBATION h31 n0 (own_old_le O31) ST O31) hZ (ww37 hw) (ww3 hw) (by decide) (by decide))
    obtain ⟨_, _, ⟨T88, L88, k88, n88⟩, -, X88, ⟨Lc88, hQ88, l88, y88, z88⟩, st88⟩ := Jvm.LawKit.callS X85 hx (y := y_0) hown (mvT hZ (ww35 hw)) (mvT hZ (ww36 hw)) (mvT hZ (ww3 hw)) (mvT hZ (ww37 hw)) (by decide) hK88 (g := (mkF m 149 ls87 [(.int 413)])) rfl (by rw [hml, hls87]; rfl) (argsL := [(.int 413)]) (rest := []) (lenOf pd_1 rfl) rfl (by show 2 * 0 + _ ≤ _; exact Nat.le_of_eq rfl) (hb hby at_149) (fun _ _ => ⟨rfl, e85, (by decide : 1 + 0 ≤ _), (by decide : 15 + 0 ≤ _)⟩)
    dsimp only [Pt.U, Pt.locs, Pt.cells, Pt.slots] at X88 l88 y88 z88 st88 hQ88
    subst l88 y88 z88
    obtain ⟨rfl, N88q, e88⟩ := hQ88
    have N88 := Fr.app N85 N88q
    obtain ⟨lc88, X88, N88⟩ := own_gen X88 N88
    refine step (fun t k => st88 t k) ?_
    show G T88 (mkF m 152 ls87 [(.ref (f_of413 w_DELIVERED w_BAD_REQUEST w_UNAUTHORIZED w_FORBIDDEN w_NOT_FOUND w_GONE w_TIMED_OUT w_PAYLOAD_TOO_LARGE w_BUSY w_REDIRECTED w_SERVER_ERROR w_FAILED w_SOCKET_ERROR w_RESOLUTION_ERROR w_PROBATION))])
    have r89 : (f_of413 w_DELIVERED w_BAD_REQUEST w_UNAUTHORIZED w_FORBIDDEN w_NOT_FOUND w_GONE w_TIMED_OUT w_PAYLOAD_TOO_LARGE w_BUSY w_REDIRECTED w_SERVER_ERROR w_FAILED w_SOCKET_ERROR w_RESOLUTION_ERROR w_PROBATION) = w_PAYLOAD_TOO_LARGE := rfl
    rw [r89]
    show G T88 (mkF m 152 ls87 [(.ref w_PAYLOAD_TOO_LARGE)])
    obtain ⟨ls90, hls90⟩  := own_sl #[.val (.int p0), .val (.ref b1), .val (.ref w_UNAUTHORIZED), .val (.ref w_BAD_REQUEST), .val (.ref w_UNAUTHORIZED), .val (.ref w_FORBIDDEN), .val (.ref w_GONE), .val (.ref w_PAYLOAD_TOO_LARGE), .unset]
    refine step (fun t k => XS.astore X88.here hx rfl (hb hby at_152) rfl rfl (l' := ls90) (by rw [hls87, hls90]; rfl) k) ?_
    show G T88 (mkF m 154 ls90 [])
    refine step (fun t k => XS.aloadN X88.here hx rfl (hb hby at_154) (by rw [hls90]; rfl) rfl k) ?_
    show G T88 (mkF m 155 ls90 [(.ref w_UNAUTHORIZED)])
    refine step (fun t k => XS.aloadN X88.here hx rfl (hb hby at_155) (by rw [hls90]; rfl) rfl k) ?_
    show G T88 (mkF m 156 ls90 [(.ref w_BAD_REQUEST), (.ref w_UNAUTHORIZED)])
    refine step (fun t k => Jvm.RoadKit.acmp X88 hx rfl rfl rfl (pc0 := 156) (pc' := 159) (same := false) rfl (hb hby at_156) rfl (decide_eq_false fun q => (Fld.ne ST.k32 ST.k31 (fun q => absurd (Value.int.inj q) (by decide))) (Value.ref.inj q)) (by decide) (by decide) k) ?_
    show G T88 (mkF m 159 ls90 [])
    refine step (fun t k => XS.aloadN X88.here hx rfl (hb hby at_159) (by rw [hls90]; rfl) rfl k) ?_
    show G T88 (mkF m 160 ls90 [(.ref w_UNAUTHORIZED)])
    refine step (fun t k => XS.aload X88.here hx rfl (hb hby at_160) (by rw [hls90]; rfl) rfl k) ?_
    show G T88 (mkF m 162 ls90 [(.ref w_UNAUTHORIZED), (.ref w_UNAUTHORIZED)])
    refine step (fun t k => Jvm.RoadKit.acmp X88 hx rfl rfl rfl (pc0 := 162) (pc' := 183) (same := true) rfl (hb hby at_162) rfl (decide_eq_true rfl) (by decide) (by decide) k) ?_
    show G T88 (mkF m 183 ls90 [])
    refine step (fun t k => XS.iconst X88.here hx rfl (hb hby at_183) k) ?_
    show G T88 (mkF m 184 ls90 [(.int 1)])
    refine step (fun t k => XS.goto X88.here hx rfl (pc0 := 184) (pc' := 188) rfl (hb hby at_184) (by decide) (by decide) k) ?_
    show G T88 (mkF m 188 ls90 [(.int 1)])
    obtain ⟨ls91, hls91⟩  := own_sl #[.val (.int p0), .val (.ref b1), .val (.ref w_UNAUTHORIZED), .val (.ref w_BAD_REQUEST), .val (.ref w_UNAUTHORIZED), .val (.ref w_FORBIDDEN), .val (.ref w_GONE), .val (.ref w_PAYLOAD_TOO_LARGE), .val (.int 1)]
    refine step (fun t k => XS.istore X88.here hx rfl (hb hby at_188) rfl (l' := ls91) (by rw [hls90, hls91]; rfl) k) ?_
    show G T88 (mkF m 190 ls91 [])
    refine step (fun t k => XS.aloadN X88.here hx rfl (hb hby at_190) (by rw [hls91]; rfl) rfl k) ?_
    show G T88 (mkF m 191 ls91 [(.ref w_UNAUTHORIZED)])
    have hK92 := (backOf (R := room_1) (p := p) (e := e) (below := below) (s := s) (args := #[(.int p0)]) (len := 3) (W := 0) (rm_retr l Z a0 hw [] w_DELIVERED w_BAD_REQUEST w_UNAUTHORIZED w_FORBIDDEN w_NOT_FOUND w_GONE w_TIMED_OUT w_PAYLOAD_TOO_LARGE w_BUSY w_REDIRECTED w_SERVER_ERROR w_FAILED w_SOCKET_ERROR w_RESOLUTION_ERROR w_PROBATION w_UNAUTHORIZED (2 : Int32) h31 n0 (own_old_le O31) ST O31 (Exa.ext O31.2 ST.k5) (Fld.ext O31.2 ST.k32)) hZ (ww47 hw) (ww3 hw) (by decide) (by decide))
    obtain ⟨cq92, kq92, q92a, q92b, q92c⟩ := isOf hZ e88 (Exa.ext O31.2 ST.k5)
    obtain ⟨_, _, ⟨T92, L92, k92, n92⟩, -, X92, ⟨Lc92, hQ92, l92, y92, z92⟩, st92⟩ := X88.virtualBack hx (y := y_3) (z := y_3) hown (mvT hZ (ww43 hw)) (mvT hZ (ww44 hw)) (notFace_of_selects (args := #[]) (mvT hZ (ww46 hw))) (mvT hZ (ww46 hw)) (mvT hZ (ww45 hw)) (by decide) hK92 q92a q92c (g := (mkF m 191 ls91 [(.ref w_UNAUTHORIZED)])) rfl (by rw [hml, hls91]; rfl) (Steps.refl _) (argsL := []) (rest := []) (lenOf pd_2 rfl) rfl (by show 2 * 0 + _ ≤ _; exact Nat.le_of_eq rfl) (hb hby at_191) (fun _ _ => ⟨rfl, e88, (by decide : 1 + 0 ≤ _), (by decide : 15 + 0 ≤ _)⟩)
    dsimp only [Pt.U, Pt.locs, Pt.cells, Pt.slots] at X92 l92 y92 z92 st92 hQ92
    subst l92 y92 z92
    obtain ⟨rfl, N92q, e92⟩ := hQ92
    have N92 := Fr.app N88 N92q
    obtain ⟨lc92, X92, N92⟩ := own_gen X92 N92
    refine step (fun t k => st92.trans k) ?_
    show G T92 (mkF m 194 ls91 [(.int (f_retr w_DELIVERED w_BAD_REQUEST w_UNAUTHORIZED w_FORBIDDEN w_NOT_FOUND w_GONE w_TIMED_OUT w_PAYLOAD_TOO_LARGE w_BUSY w_REDIRECTED w_SERVER_ERROR w_FAILED w_SOCKET_ERROR w_RESOLUTION_ERROR w_PROBATION w_UNAUTHORIZED (2 : Int32)))])
    have r93 : (f_retr w_DELIVERED w_BAD_REQUEST w_UNAUTHORIZED w_FORBIDDEN w_NOT_FOUND w_GONE w_TIMED_OUT w_PAYLOAD_TOO_LARGE w_BUSY w_REDIRECTED w_SERVER_ERROR w_FAILED w_SOCKET_ERROR w_RESOLUTION_ERROR w_PROBATION w_UNAUTHORIZED (2 : Int32)) = (0 : Int32) := by
      unfold f_retr
      rw [if_neg (by decide : ¬ ((2 : Int32) = (1 : Int32))), if_pos (by decide : (2 : Int32) = (2 : Int32))]
    rw [r93]
    show G T92 (mkF m 194 ls91 [(.int 0)])
    refine step (fun t k => XS.iload X92.here hx rfl (hb hby at_194) (by rw [hls91]; rfl) k) ?_
    show G T92 (mkF m 196 ls91 [(.int 1), (.int 0)])
    refine step (fun t k => XS.ifYes X92.here hx rfl (pc0 := 196) (pc' := 203) rfl (hb hby at_196) rfl ((if0 _ _).trans (feq (by decide : ¬ ((1 : Int32) = (0 : Int32)))).2) (by decide) (by decide) k) ?_
    show G T92 (mkF m 203 ls91 [(.int 0)])
    refine step (fun t k => XS.iconst X92.here hx rfl (hb hby at_203) k) ?_
    show G T92 (mkF m 204 ls91 [(.int 0), (.int 0)])
    refine step (fun t k => XS.icmpNo X92.here hx rfl (hb hby at_204) rfl (teq (by decide : (0 : Int32) = (0 : Int32))).2 k) ?_
    show G T92 (mkF m 207 ls91 [])
    refine step (fun t k => XS.iconst X92.here hx rfl (hb hby at_207) k) ?_
    show G T92 (mkF m 208 ls91 [(.int 1)])
    refine step (fun t k => XS.goto X92.here hx rfl (pc0 := 208) (pc' := 212) rfl (hb hby at_208) (by decide) (by decide) k) ?_
    show G T92 (mkF m 212 ls91 [(.int 1)])
    exact ret (v := some (.int 1)) X92 (fun h => by rw [Bd.returns] at h; cases h) (fun fs hr => retN X92 hx (t := .boolean) Bd.returns (by simp) (hb hby at_212) hr) e92 ⟨rfl, N92⟩ (by decide) (by decide)
  · rw [hk]
    show G T31 (mkF m 113 ls32 [(.int 3), (.ref b1)])
    have q94 := own_ldR X31 hx hZ e31 V31 (j := (3 : Int32)) (v := (.ref w_FORBIDDEN)) (by decide) (own_at (i := 3) rfl rfl) rfl (g := (mkF m 113 ls32 [(.int 3), (.ref b1)])) rfl rfl (hb hby at_113)
    refine step q94 ?_
    show G T31 (mkF m 114 ls32 [(.ref w_FORBIDDEN)])
    obtain ⟨ls95, hls95⟩  := own_sl #[.val (.int p0), .val (.ref b1), .val (.ref w_FORBIDDEN), .unset, .unset, .unset, .unset, .unset, .unset]
    refine step (fun t k => XS.astoreN X31.here hx rfl (hb hby at_114) rfl rfl (l' := ls95) (by rw [hls32, hls95]; rfl) k) ?_
    show G T31 (mkF m 115 ls95 [])
    refine step (fun t k => XS.sipush X31.here hx rfl (hb hby at_115) k) ?_
    show G T31 (mkF m 118 ls95 [(.int 400)])
    have hK96 := (backOf (R := room_1) (p := p) (e := e) (below := below) (s := s) (args := #[(.int p0)]) (len := 3) (W := 0) (rm_of400 l Z a0 hw [] w_DELIVERED w_BAD_REQUEST w_UNAUTHORIZED w_FORBIDDEN w_NOT_FOUND w_GONE w_TIMED_OUT w_PAYLOAD_TOO_LARGE w_BUSY w_REDIRECTED w_SERVER_ERROR w_FAILED w_SOCKET_ERROR w_RESOLUTION_ERROR w_PROBATION h31 n0 (own_old_le O31) ST O31) hZ (ww37 hw) (ww3 hw) (by decide) (by decide))
    obtain ⟨_, _, ⟨T96, L96, k96, n96⟩, -, X96, ⟨Lc96, hQ96, l96, y96, z96⟩, st96⟩ := Jvm.LawKit.callS X31 hx (y := y_0) hown (mvT hZ (ww35 hw)) (mvT hZ (ww36 hw)) (mvT hZ (ww3 hw)) (mvT hZ (ww37 hw)) (by decide) hK96 (g := (mkF m 118 ls95 [(.int 400)])) rfl (by rw [hml, hls95]; rfl) (argsL := [(.int 400)]) (rest := []) (lenOf pd_1 rfl) rfl (by show 2 * 0 + _ ≤ _; exact Nat.le_of_eq rfl) (hb hby at_118) (fun _ _ => ⟨rfl, e31, (by decide : 1 + 0 ≤ _), (by decide : 15 + 0 ≤ _)⟩)
    dsimp only [Pt.U, Pt.locs, Pt.cells, Pt.slots] at X96 l96 y96 z96 st96 hQ96
    subst l96 y96 z96
    obtain ⟨rfl, N96q, e96⟩ := hQ96
    have N96 := Fr.app N31 N96q
    obtain ⟨lc96, X96, N96⟩ := own_gen X96 N96
    refine step (fun t k => st96 t k) ?_
    show G T96 (mkF m 121 ls95 [(.ref (f_of400 w_DELIVERED w_BAD_REQUEST w_UNAUTHORIZED w_FORBIDDEN w_NOT_FOUND w_GONE w_TIMED_OUT w_PAYLOAD_TOO_LARGE w_BUSY w_REDIRECTED w_SERVER_ERROR w_FAILED w_SOCKET_ERROR w_RESOLUTION_ERROR w_PROBATION))])
    have r97 : (f_of400 w_DELIVERED w_BAD_REQUEST w_UNAUTHORIZED w_FORBIDDEN w_NOT_FOUND w_GONE w_TIMED_OUT w_PAYLOAD_TOO_LARGE w_BUSY w_REDIRECTED w_SERVER_ERROR w_FAILED w_SOCKET_ERROR w_RESOLUTION_ERROR w_PROBATION) = w_BAD_REQUEST := rfl
    rw [r97]
    show G T96 (mkF m 121 ls95 [(.ref w_BAD_REQUEST)])
    obtain ⟨ls98, hls98⟩  := own_sl #[.val (.int p0), .val (.ref b1), .val (.ref w_FORBIDDEN), .val (.ref w_BAD_REQUEST), .unset, .unset, .unset, .unset, .unset]
    refine step (fun t k => XS.astoreN X96.here hx rfl (hb hby at_121) rfl rfl (l' := ls98) (by rw [hls95, hls98]; rfl) k) ?_
    show G T96 (mkF m 122 ls98 [])
    refine step (fun t k => XS.sipush X96.here hx rfl (hb hby at_122) k) ?_
    show G T96 (mkF m 125 ls98 [(.int 401)])
    have hK99 := (backOf (R := room_1) (p := p) (e := e) (below := below) (s := s) (args := #[(.int p0)]) (len := 3) (W := 0) (rm_of401 l Z a0 hw [] w_DELIVERED w_BAD_REQUEST w_UNAUTHORIZED w_FORBIDDEN w_NOT_FOUND w_GONE w_TIMED_OUT w_PAYLOAD_TOO_LARGE w_BUSY w_REDIRECTED w_SERVER_ERROR w_FAILED w_SOCKET_ERROR w_RESOLUTION_ERROR w_PROBATION h31 n0 (own_old_le O31) ST O31) hZ (ww37 hw) (ww3 hw) (by decide) (by decide))
    obtain ⟨_, _, ⟨T99, L99, k99, n99⟩, -, X99, ⟨Lc99, hQ99, l99, y99, z99⟩, st99⟩ := Jvm.LawKit.callS X96 hx (y := y_0) hown (mvT hZ (ww35 hw)) (mvT hZ (ww36 hw)) (mvT hZ (ww3 hw)) (mvT hZ (ww37 hw)) (by decide) hK99 (g := (mkF m 125 ls98 [(.int 401)])) rfl (by rw [hml, hls98]; rfl) (argsL := [(.int 401)]) (rest := []) (lenOf pd_1 rfl) rfl (by show 2 * 0 + _ ≤ _; exact Nat.le_of_eq rfl) (hb hby at_125) (fun _ _ => ⟨rfl, e96, (by decide : 1 + 0 ≤ _), (by decide : 15 + 0 ≤ _)⟩)
    dsimp only [Pt.U, Pt.locs, Pt.cells, Pt.slots] at X99 l99 y99 z99 st99 hQ99
    subst l99 y99 z99
    obtain ⟨rfl, N99q, e99⟩ := hQ99
    have N99 := Fr.app N96 N99q
    obtain ⟨lc99, X99, N99⟩ := own_gen X99 N99
    refine step (fun t k => st99 t k) ?_
    show G T99 (mkF m 128 ls98 [(.ref (f_of401 w_DELIVERED w_BAD_REQUEST w_UNAUTHORIZED w_FORBIDDEN w_NOT_FOUND w_GONE w_TIMED_OUT w_PAYLOAD_TOO_LARGE w_BUSY w_REDIRECTED w_SERVER_ERROR w_FAILED w_SOCKET_ERROR w_RESOLUTION_ERROR w_PROBATION))])
    have r100 : (f_of401 w_DELIVERED w_BAD_REQUEST w_UNAUTHORIZED w_FORBIDDEN w_NOT_FOUND w_GONE w_TIMED_OUT w_PAYLOAD_TOO_LARGE w_BUSY w_REDIRECTED w_SERVER_ERROR w_FAILED w_SOCKET_ERROR w_RESOLUTION_ERROR w_PROBATION) = w_UNAUTHORIZED := rfl
    rw [r100]
    show G T99 (mkF m 128 ls98 [(.ref w_UNAUTHORIZED)])
    obtain ⟨ls101, hls101⟩  := own_sl #[.val (.int p0), .val (.ref b1), .val (.ref w_FORBIDDEN), .val (.ref w_BAD_REQUEST), .val (.ref w_UNAUTHORIZED), .unset, .unset, .unset, .unset]
    refine step (fun t k => XS.astore X99.here hx rfl (hb hby at_128) rfl rfl (l' := ls101) (by rw [hls98, hls101]; rfl) k) ?_
    show G T99 (mkF m 130 ls101 [])
    refine step (fun t k => XS.sipush X99.here hx rfl (hb hby at_130) k) ?_
    show G T99 (mkF m 133 ls101 [(.int 403)])
    have hK102 := (backOf (R := room_1) (p := p) (e := e) (below := below) (s := s) (args := #[(.int p0)]) (len := 3) (W := 0) (rm_of403 l Z a0 hw [] w_DELIVERED w_BAD_REQUEST w_UNAUTHORIZED w_FORBIDDEN w_NOT_FOUND w_GONE w_TIMED_OUT w_PAYLOAD_TOO_LARGE w_BUSY w_REDIRECTED w_SERVER_ERROR w_FAILED w_SOCKET_ERROR w_RESOLUTION_ERROR w_PROBATION h31 n0 (own_old_le O31) ST O31) hZ (ww37 hw) (ww3 hw) (by decide) (by decide))
    obtain ⟨_, _, ⟨T102, L102, k102, n102⟩, -, X102, ⟨Lc102, hQ102, l102, y102, z102⟩, st102⟩ := Jvm.LawKit.callS X99 hx (y := y_0) hown (mvT hZ (ww35 hw)) (mvT hZ (ww36 hw)) (mvT hZ (ww3 hw)) (mvT hZ (ww37 hw)) (by decide) hK102 (g := (mkF m 133 ls101 [(.int 403)])) rfl (by rw [hml, hls101]; rfl) (argsL := [(.int 403)]) (rest := []) (lenOf pd_1 rfl) rfl (by show 2 * 0 + _ ≤ _; exact Nat.le_of_eq rfl) (hb hby at_133) (fun _ _ => ⟨rfl, e99, (by decide : 1 + 0 ≤ _), (by decide : 15 + 0 ≤ _)⟩)
    dsimp only [Pt.U, Pt.locs, Pt.cells, Pt.slots] at X102 l102 y102 z102 st102 hQ102
    subst l102 y102 z102
    obtain ⟨rfl, N102q, e102⟩ := hQ102
    have N102 := Fr.app N99 N102q
    obtain ⟨lc102, X102, N102⟩ := own_gen X102 N102
    refine step (fun t k => st102 t k) ?_
    show G T102 (mkF m 136 ls101 [(.ref (f_of403 w_DELIVERED w_BAD_REQUEST w_UNAUTHORIZED w_FORBIDDEN w_NOT_FOUND w_GONE w_TIMED_OUT w_PAYLOAD_TOO_LARGE w_BUSY w_REDIRECTED w_SERVER_ERROR w_FAILED w_SOCKET_ERROR w_RESOLUTION_ERROR w_PROBATION))])
    have r103 : (f_of403 w_DELIVERED w_BAD_REQUEST w_UNAUTHORIZED w_FORBIDDEN w_NOT_FOUND w_GONE w_TIMED_OUT w_PAYLOAD_TOO_LARGE w_BUSY w_REDIRECTED w_SERVER_ERROR w_FAILED w_SOCKET_ERROR w_RESOLUTION_ERROR w_PROBATION) = w_FORBIDDEN := rfl
    rw [r103]
    show G T102 (mkF m 136 ls101 [(.ref w_FORBIDDEN)])
    obtain ⟨ls104, hls104⟩  := own_sl #[.val (.int p0), .val (.ref b1), .val (.ref w_FORBIDDEN), .val (.ref w_BAD_REQUEST), .val (.ref w_UNAUTHORIZED), .val (.ref w_FORBIDDEN), .unset, .unset, .unset]
    refine step (fun t k => XS.astore X102.here hx rfl (hb hby at_136) rfl rfl (l' := ls104) (by rw [hls101, hls104]; rfl) k) ?_
    show G T102 (mkF m 138 ls104 [])
    refine step (fun t k => XS.sipush X102.here hx rfl (hb hby at_138) k) ?_
    show G T102 (mkF m 141 ls104 [(.int 410)])
    have hK105 := (backOf (R := room_1) (p := p) (e := e) (below := below) (s := s) (args := #[(.int p0)]) (len := 3) (W := 0) (rm_of410 l Z a0 hw [] w_DELIVERED w_BAD_REQUEST w_UNAUTHORIZED w_FORBIDDEN w_NOT_FOUND w_GONE w_TIMED_OUT w_PAYLOAD_TOO_LARGE w_BUSY w_REDIRECTED w_SERVER_ERROR w_FAILED w_SOCKET_ERROR w_RESOLUTION_ERROR w_PROBATION h31 n0 (own_old_le O31) ST O31) hZ (ww37 hw) (ww3 hw) (by decide) (by decide))
    obtain ⟨_, _, ⟨T105, L105, k105, n105⟩, -, X105, ⟨Lc105, hQ105, l105, y105, z105⟩, st105⟩ := Jvm.LawKit.callS X102 hx (y := y_0) hown (mvT hZ (ww35 hw)) (mvT hZ (ww36 hw)) (mvT hZ (ww3 hw)) (mvT hZ (ww37 hw)) (by decide) hK105 (g := (mkF m 141 ls104 [(.int 410)])) rfl (by rw [hml, hls104]; rfl) (argsL := [(.int 410)]) (rest := []) (lenOf pd_1 rfl) rfl (by show 2 * 0 + _ ≤ _; exact Nat.le_of_eq rfl) (hb hby at_141) (fun _ _ => ⟨rfl, e102, (by decide : 1 + 0 ≤ _), (by decide : 15 + 0 ≤ _)⟩)
    dsimp only [Pt.U, Pt.locs, Pt.cells, Pt.slots] at X105 l105 y105 z105 st105 hQ105
    subst l105 y105 z105
    obtain ⟨rfl, N105q, e105⟩ := hQ105
    have N105 := Fr.app N102 N105q
    obtain ⟨lc105, X105, N105⟩ := own_gen X105 N105
    refine step (fun t k => st105 t k) ?_
    show G T105 (mkF m 144 ls104 [(.ref (f_of410 w_DELIVERED w_BAD_REQUEST w_UNAUTHORIZED w_FORBIDDEN w_NOT_FOUND w_GONE w_TIMED_OUT w_PAYLOAD_TOO_LARGE w_BUSY w_REDIRECTED w_SERVER_ERROR w_FAILED w_SOCKET_ERROR w_RESOLUTION_ERROR w_PROBATION))])
    have r106 : (f_of410 w_DELIVERED w_BAD_REQUEST w_UNAUTHORIZED w_FORBIDDEN w_NOT_FOUND w_GONE w_TIMED_OUT w_PAYLOAD_TOO_LARGE w_BUSY w_REDIRECTED w_SERVER_ERROR w_FAILED w_SOCKET_ERROR w_RESOLUTION_ERROR w_PROBATION) = w_GONE := rfl
    rw [r106]
    show G T105 (mkF m 144 ls104 [(.ref w_GONE)])
    obtain ⟨ls107, hls107⟩  := own_sl #[.val (.int p0), .val (.ref b1), .val (.ref w_FORBIDDEN), .val (.ref w_BAD_REQUEST), .val (.ref w_UNAUTHORIZED), .val (.ref w_FORBIDDEN), .val (.ref w_GONE), .unset, .unset]
    refine step (fun t k => XS.astore X105.here hx rfl (hb hby at_144) rfl rfl (l' := ls107) (by rw [hls104, hls107]; rfl) k) ?_
    show G T105 (mkF m 146 ls107 [])
    refine step (fun t k => XS.sipush X105.here hx rfl (hb hby at_146) k) ?_
    show G T105 (mkF m 149 ls107 [(.int 413)])
    have hK108 := (backOf (R := room_1) (p := p) (e := e) (below := below) (s := s) (args := #[(.int p0)]) (len := 3) (W := 0) (rm_of413 l Z a0 hw [] w_DELIVERED w_BAD_REQUEST w_UNAUTHORIZED w_FORBIDDEN w_NOT_FOUND w_GONE w_TIMED_OUT w_PAYLOAD_TOO_LARGE w_BUSY w_REDIRECTED w_SERVER_ERROR w_FAILED w_SOCKET_ERROR w_RESOLUTION_ERROR w_PROBATION h31 n0 (own_old_le O31) ST O31) hZ (ww37 hw) (ww3 hw) (by decide) (by decide))
    obtain ⟨_, _, ⟨T108, L108, k108, n108⟩, -, X108, ⟨Lc108, hQ108, l108, y108, z108⟩, st108⟩ := Jvm.LawKit.callS X105 hx (y := y_0) hown (mvT hZ (ww35 hw)) (mvT hZ (ww36 hw)) (mvT hZ (ww3 hw)) (mvT hZ (ww37 hw)) (by decide) hK108 (g := (mkF m 149 ls107 [(.int 413)])) rfl (by rw [hml, hls107]; rfl) (argsL := [(.int 413)]) (rest := []) (lenOf pd_1 rfl) rfl (by show 2 * 0 + _ ≤ _; exact Nat.le_of_eq rfl) (hb hby at_149) (fun _ _ => ⟨rfl, e105, (by decide : 1 + 0 ≤ _), (by decide : 15 + 0 ≤ _)⟩)
    dsimp only [Pt.U, Pt.locs, Pt.cells, Pt.slots] at X108 l108 y108 z108 st108 hQ108
    subst l108 y108 z108
    obtain ⟨rfl, N108q, e108⟩ := hQ108
    have N108 := Fr.app N105 N108q
    obtain ⟨lc108, X108, N108⟩ := own_gen X108 N108
    refine step (fun t k => st108 t k) ?_
    show G T108 (mkF m 152 ls107 [(.ref (f_of413 w_DELIVERED w_BAD_REQUEST w_UNAUTHORIZED w_FORBIDDEN w_NOT_FOUND w_GONE w_TIMED_OUT w_PAYLOAD_TOO_LARGE w_BUSY w_REDIRECTED w_SERVER_ERROR w_FAILED w_SOCKET_ERROR w_RESOLUTION_ERROR w_PROBATION))])
    have r109 : (f_of413 w_DELIVERED w_BAD_REQUEST w_UNAUTHORIZED w_FORBIDDEN w_NOT_FOUND w_GONE w_TIMED_OUT w_PAYLOAD_TOO_LARGE w_BUSY w_REDIRECTED w_SERVER_ERROR w_FAILED w_SOCKET_ERROR w_RESOLUTION_ERROR w_PROBATION) = w_PAYLOAD_TOO_LARGE := rfl
    rw [r109]
    show G T108 (mkF m 152 ls107 [(.ref w_PAYLOAD_TOO_LARGE)])
    obtain ⟨ls110, hls110⟩  := own_sl #[.val (.int p0), .val (.ref b1), .val (.ref w_FORBIDDEN), .val (.ref w_BAD_REQUEST), .val (.ref w_UNAUTHORIZED), .val (.ref w_FORBIDDEN), .val (.ref w_GONE), .val (.ref w_PAYLOAD_TOO_LARGE), .unset]
    refine step (fun t k => XS.astore X108.here hx rfl (hb hby at_152) rfl rfl (l' := ls110) (by rw [hls107, hls110]; rfl) k) ?_
    show G T108 (mkF m 154 ls110 [])
    refine step (fun t k => XS.aloadN X108.here hx rfl (hb hby at_154) (by rw [hls110]; rfl) rfl k) ?_
    show G T108 (mkF m 155 ls110 [(.ref w_FORBIDDEN)])
    refine step (fun t k => XS.aloadN X108.here hx rfl (hb hby at_155) (by rw [hls110]; rfl) rfl k) ?_
    show G T108 (mkF m 156 ls110 [(.ref w_BAD_REQUEST), (.ref w_FORBIDDEN)])
    refine step (fun t k => Jvm.RoadKit.acmp X108 hx rfl rfl rfl (pc0 := 156) (pc' := 159) (same := false) rfl (hb hby at_156) rfl (decide_eq_false fun q => (Fld.ne ST.k33 ST.k31 (fun q => absurd (Value.int.inj q) (by decide))) (Value.ref.inj q)) (by decide) (by decide) k) ?_
    show G T108 (mkF m 159 ls110 [])
    refine step (fun t k => XS.aloadN X108.here hx rfl (hb hby at_159) (by rw [hls110]; rfl) rfl k) ?_
    show G T108 (mkF m 160 ls110 [(.ref w_FORBIDDEN)])
    refine step (fun t k => XS.aload X108.here hx rfl (hb hby at_160) (by rw [hls110]; rfl) rfl k) ?_
    show G T108 (mkF m 162 ls110 [(.ref w_UNAUTHORIZED), (.ref w_FORBIDDEN)])
    refine step (fun t k => Jvm.RoadKit.acmp X108 hx rfl rfl rfl (pc0 := 162) (pc' := 165) (same := false) rfl (hb hby at_162) rfl (decide_eq_false fun q => (Fld.ne ST.k33 ST.k32 (fun q => absurd (Value.int.inj q) (by decide))) (Value.ref.inj q)) (by decide) (by decide) k) ?_
    show G T108 (mkF m 165 ls110 [])
    refine step (fun t k => XS.aloadN X108.here hx rfl (hb hby at_165) (by rw [hls110]; rfl) rfl k) ?_
    show G T108 (mkF m 166 ls110 [(.ref w_FORBIDDEN)])
    refine step (fun t k => XS.aload X108.here hx rfl (hb hby at_166) (by rw [hls110]; rfl) rfl k) ?_
    show G T108 (mkF m 168 ls110 [(.ref w_FORBIDDEN), (.ref w_FORBIDDEN)])
    refine step (fun t k => Jvm.RoadKit.acmp X108 hx rfl rfl rfl (pc0 := 168) (pc' := 183) (same := true) rfl (hb hby at_168) rfl (decide_eq_true rfl) (by decide) (by decide) k) ?_
    show G T108 (mkF m 183 ls110 [])
    refine step (fun t k => XS.iconst X108.here hx rfl (hb hby at_183) k) ?_
    show G T108 (mkF m 184 ls110 [(.int 1)])
    refine step (fun t k => XS.goto X108.here hx rfl (pc0 := 184) (pc' := 188) rfl (hb hby at_184) (by decide) (by decide) k) ?_
    show G T108 (mkF m 188 ls110 [(.int 1)])
    obtain ⟨ls111, hls111⟩  := own_sl #[.val (.int p0), .val (.ref b1), .val (.ref w_FORBIDDEN), .val (.ref w_BAD_REQUEST), .val (.ref w_UNAUTHORIZED), .val (.ref w_FORBIDDEN), .val (.ref w_GONE), .val (.ref w_PAYLOAD_TOO_LARGE), .val (.int 1)]
    refine step (fun t k => XS.istore X108.here hx rfl (hb hby at_188) rfl (l' := ls111) (by rw [hls110, hls111]; rfl) k) ?_
    show G T108 (mkF m 190 ls111 [])
    refine step (fun t k => XS.aloadN X108.here hx rfl (hb hby at_190) (by rw [hls111]; rfl) rfl k) ?_
    show G T108 (mkF m 191 ls111 [(.ref w_FORBIDDEN)])
    have hK112 := (backOf (R := room_1) (p := p) (e := e) (below := below) (s := s) (args := #[(.int p0)]) (len := 3) (W := 0) (rm_retr l Z a0 hw [] w_DELIVERED w_BAD_REQUEST w_UNAUTHORIZED w_FORBIDDEN w_NOT_FOUND w_GONE w_TIMED_OUT w_PAYLOAD_TOO_LARGE w_BUSY w_REDIRECTED w_SERVER_ERROR w_FAILED w_SOCKET_ERROR w_RESOLUTION_ERROR w_PROBATION w_FORBIDDEN (3 : Int32) h31 n0 (own_old_le O31) ST O31 (Exa.ext O31.2 ST.k7) (Fld.ext O31.2 ST.k33)) hZ (ww47 hw) (ww3 hw) (by decide) (by decide))
    obtain ⟨cq112, kq112, q112a, q112b, q112c⟩ := isOf hZ e108 (Exa.ext O31.2 ST.k7)
    obtain ⟨_, _, ⟨T112, L112, k112, n112⟩, -, X112, ⟨Lc112, hQ112, l112, y112, z112⟩, st112⟩ := X108.virtualBack hx (y := y_3) (z := y_3) hown (mvT hZ (ww43 hw)) (mvT hZ (ww44 hw)) (notFace_of_selects (args := #[]) (mvT hZ (ww46 hw))) (mvT hZ (ww46 hw)) (mvT hZ (ww45 hw)) (by decide) hK112 q112a q112c (g := (mkF m 191 ls111 [(.ref w_FORBIDDEN)])) rfl (by rw [hml, hls111]; rfl) (Steps.refl _) (argsL := []) (rest := []) (lenOf pd_2 rfl) rfl (by show 2 * 0 + _ ≤ _; exact Nat.le_of_eq rfl) (hb hby at_191) (fun _ _ => ⟨rfl, e108, (by decide : 1 + 0 ≤ _), (by decide : 15 + 0 ≤ _)⟩)
    dsimp only [Pt.U, Pt.locs, Pt.cells, Pt.slots] at X112 l112 y112 z112 st112 hQ112
    subst l112 y112 z112
    obtain ⟨rfl, N112q, e112⟩ := hQ112
    have N112 := Fr.app N108 N112q
    obtain ⟨lc112, X112, N112⟩ := own_gen X112 N112
    refine step (fun t k => st112.trans k) ?_
    show G T112 (mkF m 194 ls111 [(.int (f_retr w_DELIVERED w_BAD_REQUEST w_UNAUTHORIZED w_FORBIDDEN w_NOT_FOUND w_GONE w_TIMED_OUT w_PAYLOAD_TOO_LARGE w_BUSY w_REDIRECTED w_SERVER_ERROR w_FAILED w_SOCKET_ERROR w_RESOLUTION_ERROR w_PROBATION w_FORBIDDEN (3 : Int32)))])
    have r113 : (f_retr w_DELIVERED w_BAD_REQUEST w_UNAUTHORIZED w_FORBIDDEN w_NOT_FOUND w_GONE w_TIMED_OUT w_PAYLOAD_TOO_LARGE w_BUSY w_REDIRECTED w_SERVER_ERROR w_FAILED w_SOCKET_ERROR w_RESOLUTION_ERROR w_PROBATION w_FORBIDDEN (3 : Int32)) = (0 : Int32) := by
      unfold f_retr
      rw [if_neg (by decide : ¬ ((3 : Int32) = (1 : Int32))), if_neg (by decide : ¬ ((3 : Int32) = (2 : Int32))), if_pos (by decide : (3 : Int32) = (3 : Int32))]
    rw [r113]
    show G T112 (mkF m 194 ls111 [(.int 0)])
    refine step (fun t k => XS.iload X112.here hx rfl (hb hby at_194) (by rw [hls111]; rfl) k) ?_
    show G T112 (mkF m 196 ls111 [(.int 1), (.int 0)])
    refine step (fun t k => XS.ifYes X112.here hx rfl (pc0 := 196) (pc' := 203) rfl (hb hby at_196) rfl ((if0 _ _).trans (feq (by decide : ¬ ((1 : Int32) = (0 : Int32)))).2) (by decide) (by decide) k) ?_
    show G T112 (mkF m 203 ls111 [(.int 0)])
    refine step (fun t k => XS.iconst X112.here hx rfl (hb hby at_203) k) ?_
    show G T112 (mkF m 204 ls111 [(.int 0), (.int 0)])
    refine step (fun t k => XS.icmpNo X112.here hx rfl (hb hby at_204) rfl (teq (by decide : (0 : Int32) = (0 : Int32))).2 k) ?_
    show G T112 (mkF m 207 ls111 [])
    refine step (fun t k => XS.iconst X112.here hx rfl (hb hby at_207) k) ?_
    show G T112 (mkF m 208 ls111 [(.int 1)])
    refine step (fun t k => XS.goto X112.here hx rfl (pc0 := 208) (pc' := 212) rfl (hb hby at_208) (by decide) (by decide) k) ?_
    show G T112 (mkF m 212 ls111 [(.int 1)])
    exact ret (v := some (.int 1)) X112 (fun h => by rw [Bd.returns] at h; cases h) (fun fs hr => retN X112 hx (t := .boolean) Bd.returns (by simp) (hb hby at_212) hr) e112 ⟨rfl, N112⟩ (by decide) (by decide)
  · rw [hk]
    show G T31 (mkF m 113 ls32 [(.int 4), (.ref b1)])
    have q114 := own_ldR X31 hx hZ e31 V31 (j := (4 : Int32)) (v := (.ref w_NOT_FOUND)) (by decide) (own_at (i := 4) rfl rfl) rfl (g := (mkF m 113 ls32 [(.int 4), (.ref b1)])) rfl rfl (hb hby at_113)
    refine step q114 ?_
    show G T31 (mkF m 114 ls32 [(.ref w_NOT_FOUND)])
    obtain ⟨ls115, hls115⟩  := own_sl #[.val (.int p0), .val (.ref b1), .val (.ref w_NOT_FOUND), .unset, .unset, .unset, .unset, .unset, .unset]
    refine step (fun t k => XS.astoreN X31.here hx rfl (hb hby at_114) rfl rfl (l' := ls115) (by rw [hls32, hls115]; rfl) k) ?_
    show G T31 (mkF m 115 ls115 [])
    refine step (fun t k => XS.sipush X31.here hx rfl (hb hby at_115) k) ?_
    show G T31 (mkF m 118 ls115 [(.int 400)])
    have hK116 := (backOf (R := room_1) (p := p) (e := e) (below := below) (s := s) (args := #[(.int p0)]) (len := 3) (W := 0) (rm_of400 l Z a0 hw [] w_DELIVERED w_BAD_REQUEST w_UNAUTHORIZED w_FORBIDDEN w_NOT_FOUND w_GONE w_TIMED_OUT w_PAYLOAD_TOO_LARGE w_BUSY w_REDIRECTED w_SERVER_ERROR w_FAILED w_SOCKET_ERROR w_RESOLUTION_ERROR w_PROBATION h31 n0 (own_old_le O31) ST O31) hZ (ww37 hw) (ww3 hw) (by decide) (by decide))
    obtain ⟨_, _, ⟨T116, L116, k116, n116⟩, -, X116, ⟨Lc116, hQ116, l116, y116, z116⟩, st116⟩ := Jvm.LawKit.callS X31 hx (y := y_0) hown (mvT hZ (ww35 hw)) (mvT hZ (ww36 hw)) (mvT hZ (ww3 hw)) (mvT hZ (ww37 hw)) (by decide) hK116 (g := (mkF m 118 ls115 [(.int 400)])) rfl (by rw [hml, hls115]; rfl) (argsL := [(.int 400)]) (rest := []) (lenOf pd_1 rfl) rfl (by show 2 * 0 + _ ≤ _; exact Nat.le_of_eq rfl) (hb hby at_118) (fun _ _ => ⟨rfl, e31, (by decide : 1 + 0 ≤ _), (by decide : 15 + 0 ≤ _)⟩)
    dsimp only [Pt.U, Pt.locs, Pt.cells, Pt.slots] at X116 l116 y116 z116 st116 hQ116
    subst l116 y116 z116
    obtain ⟨rfl, N116q, e116⟩ := hQ116
    have N116 := Fr.app N31 N116q
    obtain ⟨lc116, X116, N116⟩ := own_gen X116 N116
    refine step (fun t k => st116 t k) ?_
    show G T116 (mkF m 121 ls115 [(.ref (f_of400 w_DELIVERED w_BAD_REQUEST w_UNAUTHORIZED w_FORBIDDEN w_NOT_FOUND w_GONE w_TIMED_OUT w_PAYLOAD_TOO_LARGE w_BUSY w_REDIRECTED w_SERVER_ERROR w_FAILED w_SOCKET_ERROR w_RESOLUTION_ERROR w_PROBATION))])
    have r117 : (f_of400 w_DELIVERED w_BAD_REQUEST w_UNAUTHORIZED w_FORBIDDEN w_NOT_FOUND w_GONE w_TIMED_OUT w_PAYLOAD_TOO_LARGE w_BUSY w_REDIRECTED w_SERVER_ERROR w_FAILED w_SOCKET_ERROR w_RESOLUTION_ERROR w_PROBATION) = w_BAD_REQUEST := rfl
    rw [r117]
    show G T116 (mkF m 121 ls115 [(.ref w_BAD_REQUEST)])
    obtain ⟨ls118, hls118⟩  := own_sl #[.val (.int p0), .val (.ref b1), .val (.ref w_NOT_FOUND), .val (.ref w_BAD_REQUEST), .unset, .unset, .unset, .unset, .unset]
    refine step (fun t k => XS.astoreN X116.here hx rfl (hb hby at_121) rfl rfl (l' := ls118) (by rw [hls115, hls118]; rfl) k) ?_
    show G T116 (mkF m 122 ls118 [])
    refine step (fun t k => XS.sipush X116.here hx rfl (hb hby at_122) k) ?_
    show G T116 (mkF m 125 ls118 [(.int 401)])
    have hK119 := (backOf (R := room_1) (p := p) (e := e) (below := below) (s := s) (args := #[(.int p0)]) (len := 3) (W := 0) (rm_of401 l Z a0 hw [] w_DELIVERED w_BAD_REQUEST w_UNAUTHORIZED w_FORBIDDEN w_NOT_FOUND w_GONE w_TIMED_OUT w_PAYLOAD_TOO_LARGE w_BUSY w_REDIRECTED w_SERVER_ERROR w_FAILED w_SOCKET_ERROR w_RESOLUTION_ERROR w_PROBATION h31 n0 (own_old_le O31) ST O31) hZ (ww37 hw) (ww3 hw) (by decide) (by decide))
    obtain ⟨_, _, ⟨T119, L119, k119, n119⟩, -, X119, ⟨Lc119, hQ119, l119, y119, z119⟩, st119⟩ := Jvm.LawKit.callS X116 hx (y := y_0) hown (mvT hZ (ww35 hw)) (mvT hZ (ww36 hw)) (mvT hZ (ww3 hw)) (mvT hZ (ww37 hw)) (by decide) hK119 (g := (mkF m 125 ls118 [(.int 401)])) rfl (by rw [hml, hls118]; rfl) (argsL := [(.int 401)]) (rest := []) (lenOf pd_1 rfl) rfl (by show 2 * 0 + _ ≤ _; exact Nat.le_of_eq rfl) (hb hby at_125) (fun _ _ => ⟨rfl, e116, (by decide : 1 + 0 ≤ _), (by decide : 15 + 0 ≤ _)⟩)
    dsimp only [Pt.U, Pt.locs, Pt.cells, Pt.slots] at X119 l119 y119 z119 st119 hQ119
    subst l119 y119 z119
    obtain ⟨rfl, N119q, e119⟩ := hQ119
    have N119 := Fr.app N116 N119q
    obtain ⟨lc119, X119, N119⟩ := own_gen X119 N119
    refine step (fun t k => st119 t k) ?_
    show G T119 (mkF m 128 ls118 [(.ref (f_of401 w_DELIVERED w_BAD_REQUEST w_UNAUTHORIZED w_FORBIDDEN w_NOT_FOUND w_GONE w_TIMED_OUT w_PAYLOAD_TOO_LARGE w_BUSY w_REDIRECTED w_SERVER_ERROR w_FAILED w_SOCKET_ERROR w_RESOLUTION_ERROR w_PROBATION))])
    have r120 : (f_of401 w_DELIVERED w_BAD_REQUEST w_UNAUTHORIZED w_FORBIDDEN w_NOT_FOUND w_GONE w_TIMED_OUT w_PAYLOAD_TOO_LARGE w_BUSY w_REDIRECTED w_SERVER_ERROR w_FAILED w_SOCKET_ERROR w_RESOLUTION_ERROR w_PROBATION) = w_UNAUTHORIZED := rfl
    rw [r120]
    show G T119 (mkF m 128 ls118 [(.ref w_UNAUTHORIZED)])
    obtain ⟨ls121, hls121⟩  := own_sl #[.val (.int p0), .val (.ref b1), .val (.ref w_NOT_FOUND), .val (.ref w_BAD_REQUEST), .val (.ref w_UNAUTHORIZED), .unset, .unset, .unset, .unset]
    refine step (fun t k => XS.astore X119.here hx rfl (hb hby at_128) rfl rfl (l' := ls121) (by rw [hls118, hls121]; rfl) k) ?_
    show G T119 (mkF m 130 ls121 [])
    refine step (fun t k => XS.sipush X119.here hx rfl (hb hby at_130) k) ?_
    show G T119 (mkF m 133 ls121 [(.int 403)])
    have hK122 := (backOf (R := room_1) (p := p) (e := e) (below := below) (s := s) (args := #[(.int p0)]) (len := 3) (W := 0) (rm_of403 l Z a0 hw [] w_DELIVERED w_BAD_REQUEST w_UNAUTHORIZED w_FORBIDDEN w_NOT_FOUND w_GONE w_TIMED_OUT w_PAYLOAD_TOO_LARGE w_BUSY w_REDIRECTED w_SERVER_ERROR w_FAILED w_SOCKET_ERROR w_RESOLUTION_ERROR w_PROBATION h31 n0 (own_old_le O31) ST O31) hZ (ww37 hw) (ww3 hw) (by decide) (by decide))
    obtain ⟨_, _, ⟨T122, L122, k122, n122⟩, -, X122, ⟨Lc122, hQ122, l122, y122, z122⟩, st122⟩ := Jvm.LawKit.callS X119 hx (y := y_0) hown (mvT hZ (ww35 hw)) (mvT hZ (ww36 hw)) (mvT hZ (ww3 hw)) (mvT hZ (ww37 hw)) (by decide) hK122 (g := (mkF m 133 ls121 [(.int 403)])) rfl (by rw [hml, hls121]; rfl) (argsL := [(.int 403)]) (rest := []) (lenOf pd_1 rfl) rfl (by show 2 * 0 + _ ≤ _; exact Nat.le_of_eq rfl) (hb hby at_133) (fun _ _ => ⟨rfl, e119, (by decide : 1 + 0 ≤ _), (by decide : 15 + 0 ≤ _)⟩)
    dsimp only [Pt.U, Pt.locs, Pt.cells, Pt.slots] at X122 l122 y122 z122 st122 hQ122
    subst l122 y122 z122
    obtain ⟨rfl, N122q, e122⟩ := hQ122
    have N122 := Fr.app N119 N122q
    obtain ⟨lc122, X122, N122⟩ := own_gen X122 N122
    refine step (fun t k => st122 t k) ?_
    show G T122 (mkF m 136 ls121 [(.ref (f_of403 w_DELIVERED w_BAD_REQUEST w_UNAUTHORIZED w_FORBIDDEN w_NOT_FOUND w_GONE w_TIMED_OUT w_PAYLOAD_TOO_LARGE w_BUSY w_REDIRECTED w_SERVER_ERROR w_FAILED w_SOCKET_ERROR w_RESOLUTION_ERROR w_PROBATION))])
    have r123 : (f_of403 w_DELIVERED w_BAD_REQUEST w_UNAUTHORIZED w_FORBIDDEN w_NOT_FOUND w_GONE w_TIMED_OUT w_PAYLOAD_TOO_LARGE w_BUSY w_REDIRECTED w_SERVER_ERROR w_FAILED w_SOCKET_ERROR w_RESOLUTION_ERROR w_PROBATION) = w_FORBIDDEN := rfl
    rw [r123]
    show G T122 (mkF m 136 ls121 [(.ref w_FORBIDDEN)])
    obtain ⟨ls124, hls124⟩  := own_sl #[.val (.int p0), .val (.ref b1), .val (.ref w_NOT_FOUND), .val (.ref w_BAD_REQUEST), .val (.ref w_UNAUTHORIZED), .val (.ref w_FORBIDDEN), .unset, .unset, .unset]
    refine step (fun t k => XS.astore X122.here hx rfl (hb hby at_136) rfl rfl (l' := ls124) (by rw [hls121, hls124]; rfl) k) ?_
    show G T122 (mkF m 138 ls124 [])
    refine step (fun t k => XS.sipush X122.here hx rfl (hb hby at_138) k) ?_
    show G T122 (mkF m 141 ls124 [(.int 410)])
    have hK125 := (backOf (R := room_1) (p := p) (e := e) (below := below) (s := s) (args := #[(.int p0)]) (len := 3) (W := 0) (rm_of410 l Z a0 hw [] w_DELIVERED w_BAD_REQUEST w_UNAUTHORIZED w_FORBIDDEN w_NOT_FOUND w_GONE w_TIMED_OUT w_PAYLOAD_TOO_LARGE w_BUSY w_REDIRECTED w_SERVER_ERROR w_FAILED w_SOCKET_ERROR w_RESOLUTION_ERROR w_PROBATION h31 n0 (own_old_le O31) ST O31) hZ (ww37 hw) (ww3 hw) (by decide) (by decide))
    obtain ⟨_, _, ⟨T125, L125, k125, n125⟩, -, X125, ⟨Lc125, hQ125, l125, y125, z125⟩, st125⟩ := Jvm.LawKit.callS X122 hx (y := y_0) hown (mvT hZ (ww35 hw)) (mvT hZ (ww36 hw)) (mvT hZ (ww3 hw)) (mvT hZ (ww37 hw)) (by decide) hK125 (g := (mkF m 141 ls124 [(.int 410)])) rfl (by rw [hml, hls124]; rfl) (argsL := [(.int 410)]) (rest := []) (lenOf pd_1 rfl) rfl (by show 2 * 0 + _ ≤ _; exact Nat.le_of_eq rfl) (hb hby at_141) (fun _ _ => ⟨rfl, e122, (by decide : 1 + 0 ≤ _), (by decide : 15 + 0 ≤ _)⟩)
    dsimp only [Pt.U, Pt.locs, Pt.cells, Pt.slots] at X125 l125 y125 z125 st125 hQ125
    subst l125 y125 z125
    obtain ⟨rfl, N125q, e125⟩ := hQ125
    have N125 := Fr.app N122 N125q
    obtain ⟨lc125, X125, N125⟩ := own_gen X125 N125
    refine step (fun t k => st125 t k) ?_
    show G T125 (mkF m 144 ls124 [(.ref (f_of410 w_DELIVERED w_BAD_REQUEST w_UNAUTHORIZED w_FORBIDDEN w_NOT_FOUND w_GONE w_TIMED_OUT w_PAYLOAD_TOO_LARGE w_BUSY w_REDIRECTED w_SERVER_ERROR w_FAILED w_SOCKET_ERROR w_RESOLUTION_ERROR w_PROBATION))])
    have r126 : (f_of410 w_DELIVERED w_BAD_REQUEST w_UNAUTHORIZED w_FORBIDDEN w_NOT_FOUND w_GONE w_TIMED_OUT w_PAYLOAD_TOO_LARGE w_BUSY w_REDIRECTED w_SERVER_ERROR w_FAILED w_SOCKET_ERROR w_RESOLUTION_ERROR w_PROBATION) = w_GONE := rfl
    rw [r126]
    show G T125 (mkF m 144 ls124 [(.ref w_GONE)])
    obtain ⟨ls127, hls127⟩  := own_sl #[.val (.int p0), .val (.ref b1), .val (.ref w_NOT_FOUND), .val (.ref w_BAD_REQUEST), .val (.ref w_UNAUTHORIZED), .val (.ref w_FORBIDDEN), .val (.ref w_GONE), .unset, .unset]
    refine step (fun t k => XS.astore X125.here hx rfl (hb hby at_144) rfl rfl (l' := ls127) (by rw [hls124, hls127]; rfl) k) ?_
    show G T125 (mkF m 146 ls127 [])
    refine step (fun t k => XS.sipush X125.here hx rfl (hb hby at_146) k) ?_
    show G T125 (mkF m 149 ls127 [(.int 413)])
    have hK128 := (backOf (R := room_1) (p := p) (e := e) (below := below) (s := s) (args := #[(.int p0)]) (len := 3) (W := 0) (rm_of413 l Z a0 hw [] w_DELIVERED w_BAD_REQUEST w_UNAUTHORIZED w_FORBIDDEN w_NOT_FOUND w_GONE w_TIMED_OUT w_PAYLOAD_TOO_LARGE w_BUSY w_REDIRECTED w_SERVER_ERROR w_FAILED w_SOCKET_ERROR w_RESOLUTION_ERROR w_PROBATION h31 n0 (own_old_le O31) ST O31) hZ (ww37 hw) (ww3 hw) (by decide) (by decide))
    obtain ⟨_, _, ⟨T128, L128, k128, n128⟩, -, X128, ⟨Lc128, hQ128, l128, y128, z128⟩, st128⟩ := Jvm.LawKit.callS X125 hx (y := y_0) hown (mvT hZ (ww35 hw)) (mvT hZ (ww36 hw)) (mvT hZ (ww3 hw)) (mvT hZ (ww37 hw)) (by decide) hK128 (g := (mkF m 149 ls127 [(.int 413)])) rfl (by rw [hml, hls127]; rfl) (argsL := [(.int 413)]) (rest := []) (lenOf pd_1 rfl) rfl (by show 2 * 0 + _ ≤ _; exact Nat.le_of_eq rfl) (hb hby at_149) (fun _ _ => ⟨rfl, e125, (by decide : 1 + 0 ≤ _), (by decide : 15 + 0 ≤ _)⟩)
    dsimp only [Pt.U, Pt.locs, Pt.cells, Pt.slots] at X128 l128 y128 z128 st128 hQ128
    subst l128 y128 z128
    obtain ⟨rfl, N128q, e128⟩ := hQ128
    have N128 := Fr.app N125 N128q
    obtain ⟨lc128, X128, N128⟩ := own_gen X128 N128
    refine step (fun t k => st128 t k) ?_
    show G T128 (mkF m 152 ls127 [(.ref (f_of413 w_DELIVERED w_BAD_REQUEST w_UNAUTHORIZED w_FORBIDDEN w_NOT_FOUND w_GONE w_TIMED_OUT w_PAYLOAD_TOO_LARGE w_BUSY w_REDIRECTED w_SERVER_ERROR w_FAILED w_SOCKET_ERROR w_RESOLUTION_ERROR w_PROBATION))])
    have r129 : (f_of413 w_DELIVERED w_BAD_REQUEST w_UNAUTHORIZED w_FORBIDDEN w_NOT_FOUND w_GONE w_TIMED_OUT w_PAYLOAD_TOO_LARGE w_BUSY w_REDIRECTED w_SERVER_ERROR w_FAILED w_SOCKET_ERROR w_RESOLUTION_ERROR w_PROBATION) = w_PAYLOAD_TOO_LARGE := rfl
    rw [r129]
    show G T128 (mkF m 152 ls127 [(.ref w_PAYLOAD_TOO_LARGE)])
    obtain ⟨ls130, hls130⟩  := own_sl #[.val (.int p0), .val (.ref b1), .val (.ref w_NOT_FOUND), .val (.ref w_BAD_REQUEST), .val (.ref w_UNAUTHORIZED), .val (.ref w_FORBIDDEN), .val (.ref w_GONE), .val (.ref w_PAYLOAD_TOO_LARGE), .unset]
    refine step (fun t k => XS.astore X128.here hx rfl (hb hby at_152) rfl rfl (l' := ls130) (by rw [hls127, hls130]; rfl) k) ?_
    show G T128 (mkF m 154 ls130 [])
    refine step (fun t k => XS.aloadN X128.here hx rfl (hb hby at_154) (by rw [hls130]; rfl) rfl k) ?_
    show G T128 (mkF m 155 ls130 [(.ref w_NOT_FOUND)])
    refine step (fun t k => XS.aloadN X128.here hx rfl (hb hby at_155) (by rw [hls130]; rfl) rfl k) ?_
    show G T128 (mkF m 156 ls130 [(.ref w_BAD_REQUEST), (.ref w_NOT_FOUND)])
    refine step (fun t k => Jvm.RoadKit.acmp X128 hx rfl rfl rfl (pc0 := 156) (pc' := 159) (same := false) rfl (hb hby at_156) rfl (decide_eq_false fun q => (Fld.ne ST.k43 ST.k31 (fun q => absurd (Value.int.inj q) (by decide))) (Value.ref.inj q)) (by decide) (by decide) k) ?_
    show G T128 (mkF m 159 ls130 [])
    refine step (fun t k => XS.aloadN X128.here hx rfl (hb hby at_159) (by rw [hls130]; rfl) rfl k) ?_
    show G T128 (mkF m 160 ls130 [(.ref w_NOT_FOUND)])
    refine step (fun t k => XS.aload X128.here hx rfl (hb hby at_160) (by rw [hls130]; rfl) rfl k) ?_
    show G T128 (mkF m 162 ls130 [(.ref w_UNAUTHORIZED), (.ref w_NOT_FOUND)])
    refine step (fun t k => Jvm.RoadKit.acmp X128 hx rfl rfl rfl (pc0 := 162) (pc' := 165) (same := false) rfl (hb hby at_162) rfl (decide_eq_false fun q => (Fld.ne ST.k43 ST.k32 (fun q => absurd (Value.int.inj q) (by decide))) (Value.ref.inj q)) (by decide) (by decide) k) ?_
    show G T128 (mkF m 165 ls130 [])
    refine step (fun t k => XS.aloadN X128.here hx rfl (hb hby at_165) (by rw [hls130]; rfl) rfl k) ?_
    show G T128 (mkF m 166 ls130 [(.ref w_NOT_FOUND)])
    refine step (fun t k => XS.aload X128.here hx rfl (hb hby at_166) (by rw [hls130]; rfl) rfl k) ?_
    show G T128 (mkF m 168 ls130 [(.ref w_FORBIDDEN), (.ref w_NOT_FOUND)])
    refine step (fun t k => Jvm.RoadKit.acmp X128 hx rfl rfl rfl (pc0 := 168) (pc' := 171) (same := false) rfl (hb hby at_168) rfl (decide_eq_false fun q => (Fld.ne ST.k43 ST.k33 (fun q => absurd (Value.int.inj q) (by decide))) (Value.ref.inj q)) (by decide) (by decide) k) ?_
    show G T128 (mkF m 171 ls130 [])
    refine step (fun t k => XS.aloadN X128.here hx rfl (hb hby at_171) (by rw [hls130]; rfl) rfl k) ?_
    show G T128 (mkF m 172 ls130 [(.ref w_NOT_FOUND)])
    refine step (fun t k => XS.aload X128.here hx rfl (hb hby at_172) (by rw [hls130]; rfl) rfl k) ?_
    show G T128 (mkF m 174 ls130 [(.ref w_GONE), (.ref w_NOT_FOUND)])
    refine step (fun t k => Jvm.RoadKit.acmp X128 hx rfl rfl rfl (pc0 := 174) (pc' := 177) (same := false) rfl (hb hby at_174) rfl (decide_eq_false fun q => (Fld.ne ST.k43 ST.k34 (fun q => absurd (Value.int.inj q) (by decide))) (Value.ref.inj q)) (by decide) (by decide) k) ?_
    show G T128 (mkF m 177 ls130 [])
    refine step (fun t k => XS.aloadN X128.here hx rfl (hb hby at_177) (by rw [hls130]; rfl) rfl k) ?_
    show G T128 (mkF m 178 ls130 [(.ref w_NOT_FOUND)])
    refine step (fun t k => XS.aload X128.here hx rfl (hb hby at_178) (by rw [hls130]; rfl) rfl k) ?_
    show G T128 (mkF m 180 ls130 [(.ref w_PAYLOAD_TOO_LARGE), (.ref w_NOT_FOUND)])
    refine step (fun t k => Jvm.RoadKit.acmp X128 hx rfl rfl rfl (pc0 := 180) (pc' := 187) (same := false) rfl (hb hby at_180) rfl (decide_eq_false fun q => (Fld.ne ST.k43 ST.k35 (fun q => absurd (Value.int.inj q) (by decide))) (Value.ref.inj q)) (by decide) (by decide) k) ?_
    show G T128 (mkF m 187 ls130 [])
    refine step (fun t k => XS.iconst X128.here hx rfl (hb hby at_187) k) ?_
    show G T128 (mkF m 188 ls130 [(.int 0)])
    obtain ⟨ls131, hls131⟩  := own_sl #[.val (.int p0), .val (.ref b1), .val (.ref w_NOT_FOUND), .val (.ref w_BAD_REQUEST), .val (.ref w_UNAUTHORIZED), .val (.ref w_FORBIDDEN), .val (.ref w_GONE), .val (.ref w_PAYLOAD_TOO_LARGE), .val (.int 0)]
    refine step (fun t k => XS.istore X128.here hx rfl (hb hby at_188) rfl (l' := ls131) (by rw [hls130, hls131]; rfl) k) ?_
    show G T128 (mkF m 190 ls131 [])
    refine step (fun t k => XS.aloadN X128.here hx rfl (hb hby at_190) (by rw [hls131]; rfl) rfl k) ?_
    show G T128 (mkF m 191 ls131 [(.ref w_NOT_FOUND)])
    have hK132 := (backOf (R := room_1) (p := p) (e := e) (below := below) (s := s) (args := #[(.int p0)]) (len := 3) (W := 0) (rm_retr l Z a0 hw [] w_DELIVERED w_BAD_REQUEST w_UNAUTHORIZED w_FORBIDDEN w_NOT_FOUND w_GONE w_TIMED_OUT w_PAYLOAD_TOO_LARGE w_BUSY w_REDIRECTED w_SERVER_ERROR w_FAILED w_SOCKET_ERROR w_RESOLUTION_ERROR w_PROBATION w_NOT_FOUND (4 : Int32) h31 n0 (own_old_le O31) ST O31 (Exa.ext O31.2 ST.k9) (Fld.ext O31.2 ST.k43)) hZ (ww47 hw) (ww3 hw) (by decide) (by decide))
    obtain ⟨cq132, kq132, q132a, q132b, q132c⟩ := isOf hZ e128 (Exa.ext O31.2 ST.k9)
    obtain ⟨_, _, ⟨T132, L132, k132, n132⟩, -, X132, ⟨Lc132, hQ132, l132, y132, z132⟩, st132⟩ := X128.virtualBack hx (y := y_3) (z := y_3) hown (mvT hZ (ww43 hw)) (mvT hZ (ww44 hw)) (notFace_of_selects (args := #[]) (mvT hZ (ww46 hw))) (mvT hZ (ww46 hw)) (mvT hZ (ww45 hw)) (by decide) hK132 q132a q132c (g := (mkF m 191 ls131 [(.ref w_NOT_FOUND)])) rfl (by rw [hml, hls131]; rfl) (Steps.refl _) (argsL := []) (rest := []) (lenOf pd_2 rfl) rfl (by show 2 * 0 + _ ≤ _; exact Nat.le_of_eq rfl) (hb hby at_191) (fun _ _ => ⟨rfl, e128, (by decide : 1 + 0 ≤ _), (by decide : 15 + 0 ≤ _)⟩)
    dsimp only [Pt.U, Pt.locs, Pt.cells, Pt.slots] at X132 l132 y132 z132 st132 hQ132
    subst l132 y132 z132
    obtain ⟨rfl, N132q, e132⟩ := hQ132
    have N132 := Fr.app N128 N132q
    obtain ⟨lc132, X132, N132⟩ := own_gen X132 N132
    refine step (fun t k => st132.trans k) ?_
    show G T132 (mkF m 194 ls131 [(.int (f_retr w_DELIVERED w_BAD_REQUEST w_UNAUTHORIZED w_FORBIDDEN w_NOT_FOUND w_GONE w_TIMED_OUT w_PAYLOAD_TOO_LARGE w_BUSY w_REDIRECTED w_SERVER_ERROR w_FAILED w_SOCKET_ERROR w_RESOLUTION_ERROR w_PROBATION w_NOT_FOUND (4 : Int32)))])
    have r133 : (f_retr w_DELIVERED w_BAD_REQUEST w_UNAUTHORIZED w_FORBIDDEN w_NOT_FOUND w_GONE w_TIMED_OUT w_PAYLOAD_TOO_LARGE w_BUSY w_REDIRECTED w_SERVER_ERROR w_FAILED w_SOCKET_ERROR w_RESOLUTION_ERROR w_PROBATION w_NOT_FOUND (4 : Int32)) = (1 : Int32) := by
      unfold f_retr
      rw [if_neg (by decide : ¬ ((4 : Int32) = (1 : Int32))), if_neg (by decide : ¬ ((4 : Int32) = (2 : Int32))), if_neg (by decide : ¬ ((4 : Int32) = (3 : Int32))), if_pos (by decide : (4 : Int32) = (4 : Int32))]
    rw [r133]
    show G T132 (mkF m 194 ls131 [(.int 1)])
    refine step (fun t k => XS.iload X132.here hx rfl (hb hby at_194) (by rw [hls131]; rfl) k) ?_
    show G T132 (mkF m 196 ls131 [(.int 0), (.int 1)])
    refine step (fun t k => XS.ifNo X132.here hx rfl (hb hby at_196) rfl ((if0 _ _).trans (teq (by decide : (0 : Int32) = (0 : Int32))).2) k) ?_
    show G T132 (mkF m 199 ls131 [(.int 1)])
    refine step (fun t k => XS.iconst X132.here hx rfl (hb hby at_199) k) ?_
    show G T132 (mkF m 200 ls131 [(.int 1), (.int 1)])
    refine step (fun t k => XS.goto X132.here hx rfl (pc0 := 200) (pc' := 204) rfl (hb hby at_200) (by decide) (by decide) k) ?_
    show G T132 (mkF m 204 ls131 [(.int 1), (.int 1)])
    refine step (fun t k => XS.icmpNo X132.here hx rfl (hb hby at_204) rfl (teq (by decide : (1 : Int32) = (1 : Int32))).2 k) ?_
    show G T132 (mkF m 207 ls131 [])
    refine step (fun t k => XS.iconst X132.here hx rfl (hb hby at_207) k) ?_
    show G T132 (mkF m 208 ls131 [(.int 1)])
    refine step (fun t k => XS.goto X132.here hx rfl (pc0 := 208) (pc' := 212) rfl (hb hby at_208) (by decide) (by decide) k) ?_
    show G T132 (mkF m 212 ls131 [(.int 1)])
    exact ret (v := some (.int 1)) X132 (fun h => by rw [Bd.returns] at h; cases h) (fun fs hr => retN X132 hx (t := .boolean) Bd.returns (by simp) (hb hby at_212) hr) e132 ⟨rfl, N132⟩ (by decide) (by decide)
  · rw [hk]
    show G T31 (mkF m 113 ls32 [(.int 5), (.ref b1)])
    have q134 := own_ldR X31 hx hZ e31 V31 (j := (5 : Int32)) (v := (.ref w_GONE)) (by decide) (own_at (i := 5) rfl rfl) rfl (g := (mkF m 113 ls32 [(.int 5), (.ref b1)])) rfl rfl (hb hby at_113)
    refine step q134 ?_
    show G T31 (mkF m 114 ls32 [(.ref w_GONE)])
    obtain ⟨ls135, hls135⟩  := own_sl #[.val (.int p0), .val (.ref b1), .val (.ref w_GONE), .unset, .unset, .unset, .unset, .unset, .unset]
    refine step (fun t k => XS.astoreN X31.here hx rfl (hb hby at_114) rfl rfl (l' := ls135) (by rw [hls32, hls135]; rfl) k) ?_
    show G T31 (mkF m 115 ls135 [])
    refine step (fun t k => XS.sipush X31.here hx rfl (hb hby at_115) k) ?_
    show G T31 (mkF m 118 ls135 [(.int 400)])
    have hK136 := (backOf (R := room_1) (p := p) (e := e) (below := below) (s := s) (args := #[(.int p0)]) (len := 3) (W := 0) (rm_of400 l Z a0 hw [] w_DELIVERED w_BAD_REQUEST w_UNAUTHORIZED w_FORBIDDEN w_NOT_FOUND w_GONE w_TIMED_OUT w_PAYLOAD_TOO_LARGE w_BUSY w_REDIRECTED w_SERVER_ERROR w_FAILED w_SOCKET_ERROR w_RESOLUTION_ERROR w_PROBATION h31 n0 (own_old_le O31) ST O31) hZ (ww37 hw) (ww3 hw) (by decide) (by decide))
    obtain ⟨_, _, ⟨T136, L136, k136, n136⟩, -, X136, ⟨Lc136, hQ136, l136, y136, z136⟩, st136⟩ := Jvm.LawKit.callS X31 hx (y := y_0) hown (mvT hZ (ww35 hw)) (mvT hZ (ww36 hw)) (mvT hZ (ww3 hw)) (mvT hZ (ww37 hw)) (by decide) hK136 (g := (mkF m 118 ls135 [(.int 400)])) rfl (by rw [hml, hls135]; rfl) (argsL := [(.int 400)]) (rest := []) (lenOf pd_1 rfl) rfl (by show 2 * 0 + _ ≤ _; exact Nat.le_of_eq rfl) (hb hby at_118) (fun _ _ => ⟨rfl, e31, (by decide : 1 + 0 ≤ _), (by decide : 15 + 0 ≤ _)⟩)
    dsimp only [Pt.U, Pt.locs, Pt.cells, Pt.slots] at X136 l136 y136 z136 st136 hQ136
    subst l136 y136 z136
    obtain ⟨rfl, N136q, e136⟩ := hQ136
    have N136 := Fr.app N31 N136q
    obtain ⟨lc136, X136, N136⟩ := own_gen X136 N136
    refine step (fun t k => st136 t k) ?_
    show G T136 (mkF m 121 ls135 [(.ref (f_of400 w_DELIVERED w_BAD_REQUEST w_UNAUTHORIZED w_FORBIDDEN w_NOT_FOUND w_GONE w_TIMED_OUT w_PAYLOAD_TOO_LARGE w_BUSY w_REDIRECTED w_SERVER_ERROR w_FAILED w_SOCKET_ERROR w_RESOLUTION_ERROR w_PROBATION))])
    have r137 : (f_of400 w_DELIVERED w_BAD_REQUEST w_UNAUTHORIZED w_FORBIDDEN w_NOT_FOUND w_GONE w_TIMED_OUT w_PAYLOAD_TOO_LARGE w_BUSY w_REDIRECTED w_SERVER_ERROR w_FAILED w_SOCKET_ERROR w_RESOLUTION_ERROR w_PROBATION) = w_BAD_REQUEST := rfl
    rw [r137]
    show G T136 (mkF m 121 ls135 [(.ref w_BAD_REQUEST)])
    obtain ⟨ls138, hls138⟩  := own_sl #[.val (.int p0), .val (.ref b1), .val (.ref w_GONE), .val (.ref w_BAD_REQUEST), .unset, .unset, .unset, .unset, .unset]
    refine step (fun t k => XS.astoreN X136.here hx rfl (hb hby at_121) rfl rfl (l' := ls138) (by rw [hls135, hls138]; rfl) k) ?_
    show G T136 (mkF m 122 ls138 [])
    refine step (fun t k => XS.sipush X136.here hx rfl (hb hby at_122) k) ?_
    show G T136 (mkF m 125 ls138 [(.int 401)])
    have hK139 := (backOf (R := room_1) (p := p) (e := e) (below := below) (s := s) (args := #[(.int p0)]) (len := 3) (W := 0) (rm_of401 l Z a0 hw [] w_DELIVERED w_BAD_REQUEST w_UNAUTHORIZED w_FORBIDDEN w_NOT_FOUND w_GONE w_TIMED_OUT w_PAYLOAD_TOO_LARGE w_BUSY w_REDIRECTED w_SERVER_ERROR w_FAILED w_SOCKET_ERROR w_RESOLUTION_ERROR w_PROBATION h31 n0 (own_old_le O31) ST O31) hZ (ww37 hw) (ww3 hw) (by decide) (by decide))
    obtain ⟨_, _, ⟨T139, L139, k139, n139⟩, -, X139, ⟨Lc139, hQ139, l139, y139, z139⟩, st139⟩ := Jvm.LawKit.callS X136 hx (y := y_0) hown (mvT hZ (ww35 hw)) (mvT hZ (ww36 hw)) (mvT hZ (ww3 hw)) (mvT hZ (ww37 hw)) (by decide) hK139 (g := (mkF m 125 ls138 [(.int 401)])) rfl (by rw [hml, hls138]; rfl) (argsL := [(.int 401)]) (rest := []) (lenOf pd_1 rfl) rfl (by show 2 * 0 + _ ≤ _; exact Nat.le_of_eq rfl) (hb hby at_125) (fun _ _ => ⟨rfl, e136, (by decide : 1 + 0 ≤ _), (by decide : 15 + 0 ≤ _)⟩)
    dsimp only [Pt.U, Pt.locs, Pt.cells, Pt.slots] at X139 l139 y139 z139 st139 hQ139
    subst l139 y139 z139
    obtain ⟨rfl, N139q, e139⟩ := hQ139
    have N139 := Fr.app N136 N139q
    obtain ⟨lc139, X139, N139⟩ := own_gen X139 N139
    refine step (fun t k => st139 t k) ?_
    show G T139 (mkF m 128 ls138 [(.ref (f_of401 w_DELIVERED w_BAD_REQUEST w_UNAUTHORIZED w_FORBIDDEN w_NOT_FOUND w_GONE w_TIMED_OUT w_PAYLOAD_TOO_LARGE w_BUSY w_REDIRECTED w_SERVER_ERROR w_FAILED w_SOCKET_ERROR w_RESOLUTION_ERROR w_PROBATION))])
    have r140 : (f_of401 w_DELIVERED w_BAD_REQUEST w_UNAUTHORIZED w_FORBIDDEN w_NOT_FOUND w_GONE w_TIMED_OUT w_PAYLOAD_TOO_LARGE w_BUSY w_REDIRECTED w_SERVER_ERROR w_FAILED w_SOCKET_ERROR w_RESOLUTION_ERROR w_PROBATION) = w_UNAUTHORIZED := rfl
    rw [r140]
    show G T139 (mkF m 128 ls138 [(.ref w_UNAUTHORIZED)])
    obtain ⟨ls141, hls141⟩  := own_sl #[.val (.int p0), .val (.ref b1), .val (.ref w_GONE), .val (.ref w_BAD_REQUEST), .val (.ref w_UNAUTHORIZED), .unset, .unset, .unset, .unset]
    refine step (fun t k => XS.astore X139.here hx rfl (hb hby at_128) rfl rfl (l' := ls141) (by rw [hls138, hls141]; rfl) k) ?_
    show G T139 (mkF m 130 ls141 [])
    refine step (fun t k => XS.sipush X139.here hx rfl (hb hby at_130) k) ?_
    show G T139 (mkF m 133 ls141 [(.int 403)])
    have hK142 := (backOf (R := room_1) (p := p) (e := e) (below := below) (s := s) (args := #[(.int p0)]) (len := 3) (W := 0) (rm_of403 l Z a0 hw [] w_DELIVERED w_BAD_REQUEST w_UNAUTHORIZED w_FORBIDDEN w_NOT_FOUND w_GONE w_TIMED_OUT w_PAYLOAD_TOO_LARGE w_BUSY w_REDIRECTED w_SERVER_ERROR w_FAILED w_SOCKET_ERROR w_RESOLUTION_ERROR w_PROBATION h31 n0 (own_old_le O31) ST O31) hZ (ww37 hw) (ww3 hw) (by decide) (by decide))
    obtain ⟨_, _, ⟨T142, L142, k142, n142⟩, -, X142, ⟨Lc142, hQ142, l142, y142, z142⟩, st142⟩ := Jvm.LawKit.callS X139 hx (y := y_0) hown (mvT hZ (ww35 hw)) (mvT hZ (ww36 hw)) (mvT hZ (ww3 hw)) (mvT hZ (ww37 hw)) (by decide) hK142 (g := (mkF m 133 ls141 [(.int 403)])) rfl (by rw [hml, hls141]; rfl) (argsL := [(.int 403)]) (rest := []) (lenOf pd_1 rfl) rfl (by show 2 * 0 + _ ≤ _; exact Nat.le_of_eq rfl) (hb hby at_133) (fun _ _ => ⟨rfl, e139, (by decide : 1 + 0 ≤ _), (by decide : 15 + 0 ≤ _)⟩)
    dsimp only [Pt.U, Pt.locs, Pt.cells, Pt.slots] at X142 l142 y142 z142 st142 hQ142
    subst l142 y142 z142
    obtain ⟨rfl, N142q, e142⟩ := hQ142
    have N142 := Fr.app N139 N142q
    obtain ⟨lc142, X142, N142⟩ := own_gen X142 N142
    refine step (fun t k => st142 t k) ?_
    show G T142 (mkF m 136 ls141 [(.ref (f_of403 w_DELIVERED w_BAD_REQUEST w_UNAUTHORIZED w_FORBIDDEN w_NOT_FOUND w_GONE w_TIMED_OUT w_PAYLOAD_TOO_LARGE w_BUSY w_REDIRECTED w_SERVER_ERROR w_FAILED w_SOCKET_ERROR w_RESOLUTION_ERROR w_PROBATION))])
    have r143 : (f_of403 w_DELIVERED w_BAD_REQUEST w_UNAUTHORIZED w_FORBIDDEN w_NOT_FOUND w_GONE w_TIMED_OUT w_PAYLOAD_TOO_LARGE w_BUSY w_REDIRECTED w_SERVER_ERROR w_FAILED w_SOCKET_ERROR w_RESOLUTION_ERROR w_PROBATION) = w_FORBIDDEN := rfl
    rw [r143]
    show G T142 (mkF m 136 ls141 [(.ref w_FORBIDDEN)])
    obtain ⟨ls144, hls144⟩  := own_sl #[.val (.int p0), .val (.ref b1), .val (.ref w_GONE), .val (.ref w_BAD_REQUEST), .val (.ref w_UNAUTHORIZED), .val (.ref w_FORBIDDEN), .unset, .unset, .unset]
    refine step (fun t k => XS.astore X142.here hx rfl (hb hby at_136) rfl rfl (l' := ls144) (by rw [hls141, hls144]; rfl) k) ?_
    show G T142 (mkF m 138 ls144 [])
    refine step (fun t k => XS.sipush X142.here hx rfl (hb hby at_138) k) ?_
    show G T142 (mkF m 141 ls144 [(.int 410)])
    have hK145 := (backOf (R := room_1) (p := p) (e := e) (below := below) (s := s) (args := #[(.int p0)]) (len := 3) (W := 0) (rm_of410 l Z a0 hw [] w_DELIVERED w_BAD_REQUEST w_UNAUTHORIZED w_FORBIDDEN w_NOT_FOUND w_GONE w_TIMED_OUT w_PAYLOAD_TOO_LARGE w_BUSY w_REDIRECTED w_SERVER_ERROR w_FAILED w_SOCKET_ERROR w_RESOLUTION_ERROR w_PROBATION h31 n0 (own_old_le O31) ST O31) hZ (ww37 hw) (ww3 hw) (by decide) (by decide))
    obtain ⟨_, _, ⟨T145, L145, k145, n145⟩, -, X145, ⟨Lc145, hQ145, l145, y145, z145⟩, st145⟩ := Jvm.LawKit.callS X142 hx (y := y_0) hown (mvT hZ (ww35 hw)) (mvT hZ (ww36 hw)) (mvT hZ (ww3 hw)) (mvT hZ (ww37 hw)) (by decide) hK145 (g := (mkF m 141 ls144 [(.int 410)])) rfl (by rw [hml, hls144]; rfl) (argsL := [(.int 410)]) (rest := []) (lenOf pd_1 rfl) rfl (by show 2 * 0 + _ ≤ _; exact Nat.le_of_eq rfl) (hb hby at_141) (fun _ _ => ⟨rfl, e142, (by decide : 1 + 0 ≤ _), (by decide : 15 + 0 ≤ _)⟩)
    dsimp only [Pt.U, Pt.locs, Pt.cells, Pt.slots] at X145 l145 y145 z145 st145 hQ145
    subst l145 y145 z145
    obtain ⟨rfl, N145q, e145⟩ := hQ145
    have N145 := Fr.app N142 N145q
    obtain ⟨lc145, X145, N145⟩ := own_gen X145 N145
    refine step (fun t k => st145 t k) ?_
    show G T145 (mkF m 144 ls144 [(.ref (f_of410 w_DELIVERED w_BAD_REQUEST w_UNAUTHORIZED w_FORBIDDEN w_NOT_FOUND w_GONE w_TIMED_OUT w_PAYLOAD_TOO_LARGE w_BUSY w_REDIRECTED w_SERVER_ERROR w_FAILED w_SOCKET_ERROR w_RESOLUTION_ERROR w_PROBATION))])
    have r146 : (f_of410 w_DELIVERED w_BAD_REQUEST w_UNAUTHORIZED w_FORBIDDEN w_NOT_FOUND w_GONE w_TIMED_OUT w_PAYLOAD_TOO_LARGE w_BUSY w_REDIRECTED w_SERVER_ERROR w_FAILED w_SOCKET_ERROR w_RESOLUTION_ERROR w_PROBATION) = w_GONE := rfl
    rw [r146]
    show G T145 (mkF m 144 ls144 [(.ref w_GONE)])
    obtain ⟨ls147, hls147⟩  := own_sl #[.val (.int p0), .val (.ref b1), .val (.ref w_GONE), .val (.ref w_BAD_REQUEST), .val (.ref w_UNAUTHORIZED), .val (.ref w_FORBIDDEN), .val (.ref w_GONE), .unset, .unset]
    refine step (fun t k => XS.astore X145.here hx rfl (hb hby at_144) rfl rfl (l' := ls147) (by rw [hls144, hls147]; rfl) k) ?_
    show G T145 (mkF m 146 ls147 [])
    refine step (fun t k => XS.sipush X145.here hx rfl (hb hby at_146) k) ?_
    show G T145 (mkF m 149 ls147 [(.int 413)])
    have hK148 := (backOf (R := room_1) (p := p) (e := e) (below := below) (s := s) (args := #[(.int p0)]) (len := 3) (W := 0) (rm_of413 l Z a0 hw [] w_DELIVERED w_BAD_REQUEST w_UNAUTHORIZED w_FORBIDDEN w_NOT_FOUND w_GONE w_TIMED_OUT w_PAYLOAD_TOO_LARGE w_BUSY w_REDIRECTED w_SERVER_ERROR w_FAILED w_SOCKET_ERROR w_RESOLUTION_ERROR w_PROBATION h31 n0 (own_old_le O31) ST O31) hZ (ww37 hw) (ww3 hw) (by decide) (by decide))
    obtain ⟨_, _, ⟨T148, L148, k148, n148⟩, -, X148, ⟨Lc148, hQ148, l148, y148, z148⟩, st148⟩ := Jvm.LawKit.callS X145 hx (y := y_0) hown (mvT hZ (ww35 hw)) (mvT hZ (ww36 hw)) (mvT hZ (ww3 hw)) (mvT hZ (ww37 hw)) (by decide) hK148 (g := (mkF m 149 ls147 [(.int 413)])) rfl (by rw [hml, hls147]; rfl) (argsL := [(.int 413)]) (rest := []) (lenOf pd_1 rfl) rfl (by show 2 * 0 + _ ≤ _; exact Nat.le_of_eq rfl) (hb hby at_149) (fun _ _ => ⟨rfl, e145, (by decide : 1 + 0 ≤ _), (by decide : 15 + 0 ≤ _)⟩)
    dsimp only [Pt.U, Pt.locs, Pt.cells, Pt.slots] at X148 l148 y148 z148 st148 hQ148
    subst l148 y148 z148
    obtain ⟨rfl, N148q, e148⟩ := hQ148
    have N148 := Fr.app N145 N148q
    obtain ⟨lc148, X148, N148⟩ := own_gen X148 N148
    refine step (fun t k => st148 t k) ?_
    show G T148 (mkF m 152 ls147 [(.ref (f_of413 w_DELIVERED w_BAD_REQUEST w_UNAUTHORIZED w_FORBIDDEN w_NOT_FOUND w_GONE w_TIMED_OUT w_PAYLOAD_TOO_LARGE w_BUSY w_REDIRECTED w_SERVER_ERROR w_FAILED w_SOCKET_ERROR w_RESOLUTION_ERROR w_PROBATION))])
    have r149 : (f_of413 w_DELIVERED w_BAD_REQUEST w_UNAUTHORIZED w_FORBIDDEN w_NOT_FOUND w_GONE w_TIMED_OUT w_PAYLOAD_TOO_LARGE w_BUSY w_REDIRECTED w_SERVER_ERROR w_FAILED w_SOCKET_ERROR w_RESOLUTION_ERROR w_PROBATION) = w_PAYLOAD_TOO_LARGE := rfl
    rw [r149]
    show G T148 (mkF m 152 ls147 [(.ref w_PAYLOAD_TOO_LARGE)])
    obtain ⟨ls150, hls150⟩  := own_sl #[.val (.int p0), .val (.ref b1), .val (.ref w_GONE), .val (.ref w_BAD_REQUEST), .val (.ref w_UNAUTHORIZED), .val (.ref w_FORBIDDEN), .val (.ref w_GONE), .val (.ref w_PAYLOAD_TOO_LARGE), .unset]
    refine step (fun t k => XS.astore X148.here hx rfl (hb hby at_152) rfl rfl (l' := ls150) (by rw [hls147, hls150]; rfl) k) ?_
    show G T148 (mkF m 154 ls150 [])
    refine step (fun t k => XS.aloadN X148.here hx rfl (hb hby at_154) (by rw [hls150]; rfl) rfl k) ?_
    show G T148 (mkF m 155 ls150 [(.ref w_GONE)])
    refine step (fun t k => XS.aloadN X148.here hx rfl (hb hby at_155) (by rw [hls150]; rfl) rfl k) ?_
    show G T148 (mkF m 156 ls150 [(.ref w_BAD_REQUEST), (.ref w_GONE)])
    refine step (fun t k => Jvm.RoadKit.acmp X148 hx rfl rfl rfl (pc0 := 156) (pc' := 159) (same := false) rfl (hb hby at_156) rfl (decide_eq_false fun q => (Fld.ne ST.k34 ST.k31 (fun q => absurd (Value.int.inj q) (by decide))) (Value.ref.inj q)) (by decide) (by decide) k) ?_
    show G T148 (mkF m 159 ls150 [])
    refine step (fun t k => XS.aloadN X148.here hx rfl (hb hby at_159) (by rw [hls150]; rfl) rfl k) ?_
    show G T148 (mkF m 160 ls150 [(.ref w_GONE)])
    refine step (fun t k => XS.aload X148.here hx rfl (hb hby at_160) (by rw [hls150]; rfl) rfl k) ?_
    show G T148 (mkF m 162 ls150 [(.ref w_UNAUTHORIZED), (.ref w_GONE)])
    refine step (fun t k => Jvm.RoadKit.acmp X148 hx rfl rfl rfl (pc0 := 162) (pc' := 165) (same := false) rfl (hb hby at_162) rfl (decide_eq_false fun q => (Fld.ne ST.k34 ST.k32 (fun q => absurd (Value.int.inj q) (by decide))) (Value.ref.inj q)) (by decide) (by decide) k) ?_
    show G T148 (mkF m 165 ls150 [])
    refine step (fun t k => XS.aloadN X148.here hx rfl (hb hby at_165) (by rw [hls150]; rfl) rfl k) ?_
    show G T148 (mkF m 166 ls150 [(.ref w_GONE)])
    refine step (fun t k => XS.aload X148.here hx rfl (hb hby at_166) (by rw [hls150]; rfl) rfl k) ?_
    show G T148 (mkF m 168 ls150 [(.ref w_FORBIDDEN), (.ref w_GONE)])
    refine step (fun t k => Jvm.RoadKit.acmp X148 hx rfl rfl rfl (pc0 := 168) (pc' := 171) (same := false) rfl (hb hby at_168) rfl (decide_eq_false fun q => (Fld.ne ST.k34 ST.k33 (fun q => absurd (Value.int.inj q) (by decide))) (Value.ref.inj q)) (by decide) (by decide) k) ?_
    show G T148 (mkF m 171 ls150 [])
    refine step (fun t k => XS.aloadN X148.here hx rfl (hb hby at_171) (by rw [hls150]; rfl) rfl k) ?_
    show G T148 (mkF m 172 ls150 [(.ref w_GONE)])
    refine step (fun t k => XS.aload X148.here hx rfl (hb hby at_172) (by rw [hls150]; rfl) rfl k) ?_
    show G T148 (mkF m 174 ls150 [(.ref w_GONE), (.ref w_GONE)])
    refine step (fun t k => Jvm.RoadKit.acmp X148 hx rfl rfl rfl (pc0 := 174) (pc' := 183) (same := true) rfl (hb hby at_174) rfl (decide_eq_true rfl) (by decide) (by decide) k) ?_
    show G T148 (mkF m 183 ls150 [])
    refine step (fun t k => XS.iconst X148.here hx rfl (hb hby at_183) k) ?_
    show G T148 (mkF m 184 ls150 [(.int 1)])
    refine step (fun t k => XS.goto X148.here hx rfl (pc0 := 184) (pc' := 188) rfl (hb hby at_184) (by decide) (by decide) k) ?_
    show G T148 (mkF m 188 ls150 [(.int 1)])
    obtain ⟨ls151, hls151⟩  := own_sl #[.val (.int p0), .val (.ref b1), .val (.ref w_GONE), .val (.ref w_BAD_REQUEST), .val (.ref w_UNAUTHORIZED), .val (.ref w_FORBIDDEN), .val (.ref w_GONE), .val (.ref w_PAYLOAD_TOO_LARGE), .val (.int 1)]
    refine step (fun t k => XS.istore X148.here hx rfl (hb hby at_188) rfl (l' := ls151) (by rw [hls150, hls151]; rfl) k) ?_
    show G T148 (mkF m 190 ls151 [])
    refine step (fun t k => XS.aloadN X148.here hx rfl (hb hby at_190) (by rw [hls151]; rfl) rfl k) ?_
    show G T148 (mkF m 191 ls151 [(.ref w_GONE)])
    have hK152 := (backOf (R := room_1) (p := p) (e := e) (below := below) (s := s) (args := #[(.int p0)]) (len := 3) (W := 0) (rm_retr l Z a0 hw [] w_DELIVERED w_BAD_REQUEST w_UNAUTHORIZED w_FORBIDDEN w_NOT_FOUND w_GONE w_TIMED_OUT w_PAYLOAD_TOO_LARGE w_BUSY w_REDIRECTED w_SERVER_ERROR w_FAILED w_SOCKET_ERROR w_RESOLUTION_ERROR w_PROBATION w_GONE (5 : Int32) h31 n0 (own_old_le O31) ST O31 (Exa.ext O31.2 ST.k11) (Fld.ext O31.2 ST.k34)) hZ (ww47 hw) (ww3 hw) (by decide) (by decide))
    obtain ⟨cq152, kq152, q152a, q152b, q152c⟩ := isOf hZ e148 (Exa.ext O31.2 ST.k11)
    obtain ⟨_, _, ⟨T152, L152, k152, n152⟩, -, X152, ⟨Lc152, hQ152, l152, y152, z152⟩, st152⟩ := X148.virtualBack hx (y := y_3) (z := y_3) hown (mvT hZ (ww43 hw)) (mvT hZ (ww44 hw)) (notFace_of_selects (args := #[]) (mvT hZ (ww46 hw))) (mvT hZ (ww46 hw)) (mvT hZ (ww45 hw)) (by decide) hK152 q152a q152c (g := (mkF m 191 ls151 [(.ref w_GONE)])) rfl (by rw [hml, hls151]; rfl) (Steps.refl _) (argsL := []) (rest := []) (lenOf pd_2 rfl) rfl (by show 2 * 0 + _ ≤ _; exact Nat.le_of_eq rfl) (hb hby at_191) (fun _ _ => ⟨rfl, e148, (by decide : 1 + 0 ≤ _), (by decide : 15 + 0 ≤ _)⟩)
    dsimp only [Pt.U, Pt.locs, Pt.cells, Pt.slots] at X152 l152 y152 z152 st152 hQ152
    subst l152 y152 z152
    obtain ⟨rfl, N152q, e152⟩ := hQ152
    have N152 := Fr.app N148 N152q
    obtain ⟨lc152, X152, N152⟩ := own_gen X152 N152
    refine step (fun t k => st152.trans k) ?_
    show G T152 (mkF m 194 ls151 [(.int (f_retr w_DELIVERED w_BAD_REQUEST w_UNAUTHORIZED w_FORBIDDEN w_NOT_FOUND w_GONE w_TIMED_OUT w_PAYLOAD_TOO_LARGE w_BUSY w_REDIRECTED w_SERVER_ERROR w_FAILED w_SOCKET_ERROR w_RESOLUTION_ERROR w_PROBATION w_GONE (5 : Int32)))])
    have r153 : (f_retr w_DELIVERED w_BAD_REQUEST w_UNAUTHORIZED w_FORBIDDEN w_NOT_FOUND w_GONE w_TIMED_OUT w_PAYLOAD_TOO_LARGE w_BUSY w_REDIRECTED w_SERVER_ERROR w_FAILED w_SOCKET_ERROR w_RESOLUTION_ERROR w_PROBATION w_GONE (5 : Int32)) = (0 : Int32) := by
      unfold f_retr
      rw [if_neg (by decide : ¬ ((5 : Int32) = (1 : Int32))), if_neg (by decide : ¬ ((5 : Int32) = (2 : Int32))), if_neg (by decide : ¬ ((5 : Int32) = (3 : Int32))), if_neg (by decide : ¬ ((5 : Int32) = (4 : Int32))), if_pos (by decide : (5 : Int32) = (5 : Int32))]
    rw [r153]
    show G T152 (mkF m 194 ls151 [(.int 0)])
    refine step (fun t k => XS.iload X152.here hx rfl (hb hby at_194) (by rw [hls151]; rfl) k) ?_
    show G T152 (mkF m 196 ls151 [(.int 1), (.int 0)])
    refine step (fun t k => XS.ifYes X152.here hx rfl (pc0 := 196) (pc' := 203) rfl (hb hby at_196) rfl ((if0 _ _).trans (feq (by decide : ¬ ((1 : Int32) = (0 : Int32)))).2) (by decide) (by decide) k) ?_
    show G T152 (mkF m 203 ls151 [(.int 0)])
    refine step (fun t k => XS.iconst X152.here hx rfl (hb hby at_203) k) ?_
    show G T152 (mkF m 204 ls151 [(.int 0), (.int 0)])
    refine step (fun t k => XS.icmpNo X152.here hx rfl (hb hby at_204) rfl (teq (by decide : (0 : Int32) = (0 : Int32))).2 k) ?_
    show G T152 (mkF m 207 ls151 [])
    refine step (fun t k => XS.iconst X152.here hx rfl (hb hby at_207) k) ?_
    show G T152 (mkF m 208 ls151 [(.int 1)])
    refine step (fun t k => XS.goto X152.here hx rfl (pc0 := 208) (pc' := 212) rfl (hb hby at_208) (by decide) (by decide) k) ?_
    show G T152 (mkF m 212 ls151 [(.int 1)])
    exact ret (v := some (.int 1)) X152 (fun h => by rw [Bd.returns] at h; cases h) (fun fs hr => retN X152 hx (t := .boolean) Bd.returns (by simp) (hb hby at_212) hr) e152 ⟨rfl, N152⟩ (by decide) (by decide)
  · rw [hk]
    show G T31 (mkF m 113 ls32 [(.int 6), (.ref b1)])
    have q154 := own_ldR X31 hx hZ e31 V31 (j := (6 : Int32)) (v := (.ref w_TIMED_OUT)) (by decide) (own_at (i := 6) rfl rfl) rfl (g := (mkF m 113 ls32 [(.int 6), (.ref b1)])) rfl rfl (hb hby at_113)
    refine step q154 ?_
    show G T31 (mkF m 114 ls32 [(.ref w_TIMED_OUT)])
    obtain ⟨ls155, hls155⟩  := own_sl #[.val (.int p0), .val (.ref b1), .val (.ref w_TIMED_OUT), .unset, .unset, .unset, .unset, .unset, .unset]
    refine step (fun t k => XS.astoreN X31.here hx rfl (hb hby at_114) rfl rfl (l' := ls155) (by rw [hls32, hls155]; rfl) k) ?_
    show G T31 (mkF m 115 ls155 [])
    refine step (fun t k => XS.sipush X31.here hx rfl (hb hby at_115) k) ?_
    show G T31 (mkF m 118 ls155 [(.int 400)])
    have hK156 := (backOf (R := room_1) (p := p) (e := e) (below := below) (s := s) (args := #[(.int p0)]) (len := 3) (W := 0) (rm_of400 l Z a0 hw [] w_DELIVERED w_BAD_REQUEST w_UNAUTHORIZED w_FORBIDDEN w_NOT_FOUND w_GONE w_TIMED_OUT w_PAYLOAD_TOO_LARGE w_BUSY w_REDIRECTED w_SERVER_ERROR w_FAILED w_SOCKET_ERROR w_RESOLUTION_ERROR w_PROBATION h31 n0 (own_old_le O31) ST O31) hZ (ww37 hw) (ww3 hw) (by decide) (by decide))
    obtain ⟨_, _, ⟨T156, L156, k156, n156⟩, -, X156, ⟨Lc156, hQ156, l156, y156, z156⟩, st156⟩ := Jvm.LawKit.callS X31 hx (y := y_0) hown (mvT hZ (ww35 hw)) (mvT hZ (ww36 hw)) (mvT hZ (ww3 hw)) (mvT hZ (ww37 hw)) (by decide) hK156 (g := (mkF m 118 ls155 [(.int 400)])) rfl (by rw [hml, hls155]; rfl) (argsL := [(.int 400)]) (rest := []) (lenOf pd_1 rfl) rfl (by show 2 * 0 + _ ≤ _; exact Nat.le_of_eq rfl) (hb hby at_118) (fun _ _ => ⟨rfl, e31, (by decide : 1 + 0 ≤ _), (by decide : 15 + 0 ≤ _)⟩)
    dsimp only [Pt.U, Pt.locs, Pt.cells, Pt.slots] at X156 l156 y156 z156 st156 hQ156
    subst l156 y156 z156
    obtain ⟨rfl, N156q, e156⟩ := hQ156
    have N156 := Fr.app N31 N156q
    obtain ⟨lc156, X156, N156⟩ := own_gen X156 N156
    refine step (fun t k => st156 t k) ?_
    show G T156 (mkF m 121 ls155 [(.ref (f_of400 w_DELIVERED w_BAD_REQUEST w_UNAUTHORIZED w_FORBIDDEN w_NOT_FOUND w_GONE w_TIMED_OUT w_PAYLOAD_TOO_LARGE w_BUSY w_REDIRECTED w_SERVER_ERROR w_FAILED w_SOCKET_ERROR w_RESOLUTION_ERROR w_PROBATION))])
    have r157 : (f_of400 w_DELIVERED w_BAD_REQUEST w_UNAUTHORIZED w_FORBIDDEN w_NOT_FOUND w_GONE w_TIMED_OUT w_PAYLOAD_TOO_LARGE w_BUSY w_REDIRECTED w_SERVER_ERROR w_FAILED w_SOCKET_ERROR w_RESOLUTION_ERROR w_PROBATION) = w_BAD_REQUEST := rfl
    rw [r157]
    show G T156 (mkF m 121 ls155 [(.ref w_BAD_REQUEST)])
    obtain ⟨ls158, hls158⟩  := own_sl #[.val (.int p0), .val (.ref b1), .val (.ref w_TIMED_OUT), .val (.ref w_BAD_REQUEST), .unset, .unset, .unset, .unset, .unset]
    refine step (fun t k => XS.astoreN X156.here hx rfl (hb hby at_121) rfl rfl (l' := ls158) (by rw [hls155, hls158]; rfl) k) ?_
    show G T156 (mkF m 122 ls158 [])
    refine step (fun t k => XS.sipush X156.here hx rfl (hb hby at_122) k) ?_
    show G T156 (mkF m 125 ls158 [(.int 401)])
    have hK159 := (backOf (R := room_1) (p := p) (e := e) (below := below) (s := s) (args := #[(.int p0)]) (len := 3) (W := 0) (rm_of401 l Z a0 hw [] w_DELIVERED w_BAD_REQUEST w_UNAUTHORIZED w_FORBIDDEN w_NOT_FOUND w_GONE w_TIMED_OUT w_PAYLOAD_TOO_LARGE w_BUSY w_REDIRECTED w_SERVER_ERROR w_FAILED w_SOCKET_ERROR w_RESOLUTION_ERROR w_PROBATION h31 n0 (own_old_le O31) ST O31) hZ (ww37 hw) (ww3 hw) (by decide) (by decide))
    obtain ⟨_, _, ⟨T159, L159, k159, n159⟩, -, X159, ⟨Lc159, hQ159, l159, y159, z159⟩, st159⟩ := Jvm.LawKit.callS X156 hx (y := y_0) hown (mvT hZ (ww35 hw)) (mvT hZ (ww36 hw)) (mvT hZ (ww3 hw)) (mvT hZ (ww37 hw)) (by decide) hK159 (g := (mkF m 125 ls158 [(.int 401)])) rfl (by rw [hml, hls158]; rfl) (argsL := [(.int 401)]) (rest := []) (lenOf pd_1 rfl) rfl (by show 2 * 0 + _ ≤ _; exact Nat.le_of_eq rfl) (hb hby at_125) (fun _ _ => ⟨rfl, e156, (by decide : 1 + 0 ≤ _), (by decide : 15 + 0 ≤ _)⟩)
    dsimp only [Pt.U, Pt.locs, Pt.cells, Pt.slots] at X159 l159 y159 z159 st159 hQ159
    subst l159 y159 z159
    obtain ⟨rfl, N159q, e159⟩ := hQ159
    have N159 := Fr.app N156 N159q
    obtain ⟨lc159, X159, N159⟩ := own_gen X159 N159
    refine step (fun t k => st159 t k) ?_
    show G T159 (mkF m 128 ls158 [(.ref (f_of401 w_DELIVERED w_BAD_REQUEST w_UNAUTHORIZED w_FORBIDDEN w_NOT_FOUND w_GONE w_TIMED_OUT w_PAYLOAD_TOO_LARGE w_BUSY w_REDIRECTED w_SERVER_ERROR w_FAILED w_SOCKET_ERROR w_RESOLUTION_ERROR w_PROBATION))])
    have r160 : (f_of401 w_DELIVERED w_BAD_REQUEST w_UNAUTHORIZED w_FORBIDDEN w_NOT_FOUND w_GONE w_TIMED_OUT w_PAYLOAD_TOO_LARGE w_BUSY w_REDIRECTED w_SERVER_ERROR w_FAILED w_SOCKET_ERROR w_RESOLUTION_ERROR w_PROBATION) = w_UNAUTHORIZED := rfl
    rw [r160]
    show G T159 (mkF m 128 ls158 [(.ref w_UNAUTHORIZED)])
    obtain ⟨ls161, hls161⟩  := own_sl #[.val (.int p0), .val (.ref b1), .val (.ref w_TIMED_OUT), .val (.ref w_BAD_REQUEST), .val (.ref w_UNAUTHORIZED), .unset, .unset, .unset, .unset]
    refine step (fun t k => XS.astore X159.here hx rfl (hb hby at_128) rfl rfl (l' := ls161) (by rw [hls158, hls161]; rfl) k) ?_
    show G T159 (mkF m 130 ls161 [])
    refine step (fun t k => XS.sipush X159.here hx rfl (hb hby at_130) k) ?_
    show G T159 (mkF m 133 ls161 [(.int 403)])
    have hK162 := (backOf (R := room_1) (p := p) (e := e) (below := below) (s := s) (args := #[(.int p0)]) (len := 3) (W := 0) (rm_of403 l Z a0 hw [] w_DELIVERED w_BAD_REQUEST w_UNAUTHORIZED w_FORBIDDEN w_NOT_FOUND w_GONE w_TIMED_OUT w_PAYLOAD_TOO_LARGE w_BUSY w_REDIRECTED w_SERVER_ERROR w_FAILED w_SOCKET_ERROR w_RESOLUTION_ERROR w_PROBATION h31 n0 (own_old_le O31) ST O31) hZ (ww37 hw) (ww3 hw) (by decide) (by decide))
    obtain ⟨_, _, ⟨T162, L162, k162, n162⟩, -, X162, ⟨Lc162, hQ162, l162, y162, z162⟩, st162⟩ := Jvm.LawKit.callS X159 hx (y := y_0) hown (mvT hZ (ww35 hw)) (mvT hZ (ww36 hw)) (mvT hZ (ww3 hw)) (mvT hZ (ww37 hw)) (by decide) hK162 (g := (mkF m 133 ls161 [(.int 403)])) rfl (by rw [hml, hls161]; rfl) (argsL := [(.int 403)]) (rest := []) (lenOf pd_1 rfl) rfl (by show 2 * 0 + _ ≤ _; exact Nat.le_of_eq rfl) (hb hby at_133) (fun _ _ => ⟨rfl, e159, (by decide : 1 + 0 ≤ _), (by decide : 15 + 0 ≤ _)⟩)
    dsimp only [Pt.U, Pt.locs, Pt.cells, Pt.slots] at X162 l162 y162 z162 st162 hQ162
    subst l162 y162 z162
    obtain ⟨rfl, N162q, e162⟩ := hQ162
    have N162 := Fr.app N159 N162q
    obtain ⟨lc162, X162, N162⟩ := own_gen X162 N162
    refine step (fun t k => st162 t k) ?_
    show G T162 (mkF m 136 ls161 [(.ref (f_of403 w_DELIVERED w_BAD_REQUEST w_UNAUTHORIZED w_FORBIDDEN w_NOT_FOUND w_GONE w_TIMED_OUT w_PAYLOAD_TOO_LARGE w_BUSY w_REDIRECTED w_SERVER_ERROR w_FAILED w_SOCKET_ERROR w_RESOLUTION_ERROR w_PROBATION))])
    have r163 : (f_of403 w_DELIVERED w_BAD_REQUEST w_UNAUTHORIZED w_FORBIDDEN w_NOT_FOUND w_GONE w_TIMED_OUT w_PAYLOAD_TOO_LARGE w_BUSY w_REDIRECTED w_SERVER_ERROR w_FAILED w_SOCKET_ERROR w_RESOLUTION_ERROR w_PROBATION) = w_FORBIDDEN := rfl
    rw [r163]
    show G T162 (mkF m 136 ls161 [(.ref w_FORBIDDEN)])
    obtain ⟨ls164, hls164⟩  := own_sl #[.val (.int p0), .val (.ref b1), .val (.ref w_TIMED_OUT), .val (.ref w_BAD_REQUEST), .val (.ref w_UNAUTHORIZED), .val (.ref w_FORBIDDEN), .unset, .unset, .unset]
    refine step (fun t k => XS.astore X162.here hx rfl (hb hby at_136) rfl rfl (l' := ls164) (by rw [hls161, hls164]; rfl) k) ?_
    show G T162 (mkF m 138 ls164 [])
    refine step (fun t k => XS.sipush X162.here hx rfl (hb hby at_138) k) ?_
    show G T162 (mkF m 141 ls164 [(.int 410)])
    have hK165 := (backOf (R := room_1) (p := p) (e := e) (below := below) (s := s) (args := #[(.int p0)]) (len := 3) (W := 0) (rm_of410 l Z a0 hw [] w_DELIVERED w_BAD_REQUEST w_UNAUTHORIZED w_FORBIDDEN w_NOT_FOUND w_GONE w_TIMED_OUT w_PAYLOAD_TOO_LARGE w_BUSY w_REDIRECTED w_SERVER_ERROR w_FAILED w_SOCKET_ERROR w_RESOLUTION_ERROR w_PROBATION h31 n0 (own_old_le O31) ST O31) hZ (ww37 hw) (ww3 hw) (by decide) (by decide))
    obtain ⟨_, _, ⟨T165, L165, k165, n165⟩, -, X165, ⟨Lc165, hQ165, l165, y165, z165⟩, st165⟩ := Jvm.LawKit.callS X162 hx (y := y_0) hown (mvT hZ (ww35 hw)) (mvT hZ (ww36 hw)) (mvT hZ (ww3 hw)) (mvT hZ (ww37 hw)) (by decide) hK165 (g := (mkF m 141 ls164 [(.int 410)])) rfl (by rw [hml, hls164]; rfl) (argsL := [(.int 410)]) (rest := []) (lenOf pd_1 rfl) rfl (by show 2 * 0 + _ ≤ _; exact Nat.le_of_eq rfl) (hb hby at_141) (fun _ _ => ⟨rfl, e162, (by decide : 1 + 0 ≤ _), (by decide : 15 + 0 ≤ _)⟩)
    dsimp only [Pt.U, Pt.locs, Pt.cells, Pt.slots] at X165 l165 y165 z165 st165 hQ165
    subst l165 y165 z165
    obtain ⟨rfl, N165q, e165⟩ := hQ165
    have N165 := Fr.app N162 N165q
    obtain ⟨lc165, X165, N165⟩ := own_gen X165 N165
    refine step (fun t k => st165 t k) ?_
    show G T165 (mkF m 144 ls164 [(.ref (f_of410 w_DELIVERED w_BAD_REQUEST w_UNAUTHORIZED w_FORBIDDEN w_NOT_FOUND w_GONE w_TIMED_OUT w_PAYLOAD_TOO_LARGE w_BUSY w_REDIRECTED w_SERVER_ERROR w_FAILED w_SOCKET_ERROR w_RESOLUTION_ERROR w_PROBATION))])
    have r166 : (f_of410 w_DELIVERED w_BAD_REQUEST w_UNAUTHORIZED w_FORBIDDEN w_NOT_FOUND w_GONE w_TIMED_OUT w_PAYLOAD_TOO_LARGE w_BUSY w_REDIRECTED w_SERVER_ERROR w_FAILED w_SOCKET_ERROR w_RESOLUTION_ERROR w_PROBATION) = w_GONE := rfl
    rw [r166]
    show G T165 (mkF m 144 ls164 [(.ref w_GONE)])
    obtain ⟨ls167, hls167⟩  := own_sl #[.val (.int p0), .val (.ref b1), .val (.ref w_TIMED_OUT), .val (.ref w_BAD_REQUEST), .val (.ref w_UNAUTHORIZED), .val (.ref w_FORBIDDEN), .val (.ref w_GONE), .unset, .unset]
    refine step (fun t k => XS.astore X165.here hx rfl (hb hby at_144) rfl rfl (l' := ls167) (by rw [hls164, hls167]; rfl) k) ?_
    show G T165 (mkF m 146 ls167 [])
    refine step (fun t k => XS.sipush X165.here hx rfl (hb hby at_146) k) ?_
    show G T165 (mkF m 149 ls167 [(.int 413)])
    have hK168 := (backOf (R := room_1) (p := p) (e := e) (below := below) (s := s) (args := #[(.int p0)]) (len := 3) (W := 0) (rm_of413 l Z a0 hw [] w_DELIVERED w_BAD_REQUEST w_UNAUTHORIZED w_FORBIDDEN w_NOT_FOUND w_GONE w_TIMED_OUT w_PAYLOAD_TOO_LARGE w_BUSY w_REDIRECTED w_SERVER_ERROR w_FAILED w_SOCKET_ERROR w_RESOLUTION_ERROR w_PROBATION h31 n0 (own_old_le O31) ST O31) hZ (ww37 hw) (ww3 hw) (by decide) (by decide))
    obtain ⟨_, _, ⟨T168, L168, k168, n168⟩, -, X168, ⟨Lc168, hQ168, l168, y168, z168⟩, st168⟩ := Jvm.LawKit.callS X165 hx (y := y_0) hown (mvT hZ (ww35 hw)) (mvT hZ (ww36 hw)) (mvT hZ (ww3 hw)) (mvT hZ (ww37 hw)) (by decide) hK168 (g := (mkF m 149 ls167 [(.int 413)])) rfl (by rw [hml, hls167]; rfl) (argsL := [(.int 413)]) (rest := []) (lenOf pd_1 rfl) rfl (by show 2 * 0 + _ ≤ _; exact Nat.le_of_eq rfl) (hb hby at_149) (fun _ _ => ⟨rfl, e165, (by decide : 1 + 0 ≤ _), (by decide : 15 + 0 ≤ _)⟩)
    dsimp only [Pt.U, Pt.locs, Pt.cells, Pt.slots] at X168 l168 y168 z168 st168 hQ168
    subst l168 y168 z168
    obtain ⟨rfl, N168q, e168⟩ := hQ168
    have N168 := Fr.app N165 N168q
    obtain ⟨lc168, X168, N168⟩ := own_gen X168 N168
    refine step (fun t k => st168 t k) ?_
    show G T168 (mkF m 152 ls167 [(.ref (f_of413 w_DELIVERED w_BAD_REQUEST w_UNAUTHORIZED w_FORBIDDEN w_NOT_FOUND w_GONE w_TIMED_OUT w_PAYLOAD_TOO_LARGE w_BUSY w_REDIRECTED w_SERVER_ERROR w_FAILED w_SOCKET_ERROR w_RESOLUTION_ERROR w_PROBATION))])
    have r169 : (f_of413 w_DELIVERED w_BAD_REQUEST w_UNAUTHORIZED w_FORBIDDEN w_NOT_FOUND w_GONE w_TIMED_OUT w_PAYLOAD_TOO_LARGE w_BUSY w_REDIRECTED w_SERVER_ERROR w_FAILED w_SOCKET_ERROR w_RESOLUTION_ERROR w_PROBATION) = w_PAYLOAD_TOO_LARGE := rfl
    rw [r169]
    show G T168 (mkF m 152 ls167 [(.ref w_PAYLOAD_TOO_LARGE)])
    obtain ⟨ls170, hls170⟩  := own_sl #[.val (.int p0), .val (.ref b1), .val (.ref w_TIMED_OUT), .val (.ref w_BAD_REQUEST), .val (.ref w_UNAUTHORIZED), .val (.ref w_FORBIDDEN), .val (.ref w_GONE), .val (.ref w_PAYLOAD_TOO_LARGE), .unset]
    refine step (fun t k => XS.astore X168.here hx rfl (hb hby at_152) rfl rfl (l' := ls170) (by rw [hls167, hls170]; rfl) k) ?_
    show G T168 (mkF m 154 ls170 [])
    refine step (fun t k => XS.aloadN X168.here hx rfl (hb hby at_154) (by rw [hls170]; rfl) rfl k) ?_
    show G T168 (mkF m 155 ls170 [(.ref w_TIMED_OUT)])
    refine step (fun t k => XS.aloadN X168.here hx rfl (hb hby at_155) (by rw [hls170]; rfl) rfl k) ?_
    show G T168 (mkF m 156 ls170 [(.ref w_BAD_REQUEST), (.ref w_TIMED_OUT)])
    refine step (fun t k => Jvm.RoadKit.acmp X168 hx rfl rfl rfl (pc0 := 156) (pc' := 159) (same := false) rfl (hb hby at_156) rfl (decide_eq_false fun q => (Fld.ne ST.k37 ST.k31 (fun q => absurd (Value.int.inj q) (by decide))) (Value.ref.inj q)) (by decide) (by decide) k) ?_
    show G T168 (mkF m 159 ls170 [])
    refine step (fun t k => XS.aloadN X168.here hx rfl (hb hby at_159) (by rw [hls170]; rfl) rfl k) ?_
    show G T168 (mkF m 160 ls170 [(.ref w_TIMED_OUT)])
    refine step (fun t k => XS.aload X168.here hx rfl (hb hby at_160) (by rw [hls170]; rfl) rfl k) ?_
    show G T168 (mkF m 162 ls170 [(.ref w_UNAUTHORIZED), (.ref w_TIMED_OUT)])
    refine step (fun t k => Jvm.RoadKit.acmp X168 hx rfl rfl rfl (pc0 := 162) (pc' := 165) (same := false) rfl (hb hby at_162) rfl (decide_eq_false fun q => (Fld.ne ST.k37 ST.k32 (fun q => absurd (Value.int.inj q) (by decide))) (Value.ref.inj q)) (by decide) (by decide) k) ?_
    show G T168 (mkF m 165 ls170 [])
    refine step (fun t k => XS.aloadN X168.here hx rfl (hb hby at_165) (by rw [hls170]; rfl) rfl k) ?_
    show G T168 (mkF m 166 ls170 [(.ref w_TIMED_OUT)])
    refine step (fun t k => XS.aload X168.here hx rfl (hb hby at_166) (by rw [hls170]; rfl) rfl k) ?_
    show G T168 (mkF m 168 ls170 [(.ref w_FORBIDDEN), (.ref w_TIMED_OUT)])
    refine step (fun t k => Jvm.RoadKit.acmp X168 hx rfl rfl rfl (pc0 := 168) (pc' := 171) (same := false) rfl (hb hby at_168) rfl (decide_eq_false fun q => (Fld.ne ST.k37 ST.k33 (fun q => absurd (Value.int.inj q) (by decide))) (Value.ref.inj q)) (by decide) (by decide) k) ?_
    show G T168 (mkF m 171 ls170 [])
    refine step (fun t k => XS.aloadN X168.here hx rfl (hb hby at_171) (by rw [hls170]; rfl) rfl k) ?_
    show G T168 (mkF m 172 ls170 [(.ref w_TIMED_OUT)])
    refine step (fun t k => XS.aload X168.here hx rfl (hb hby at_172) (by rw [hls170]; rfl) rfl k) ?_
    show G T168 (mkF m 174 ls170 [(.ref w_GONE), (.ref w_TIMED_OUT)])
    refine step (fun t k => Jvm.RoadKit.acmp X168 hx rfl rfl rfl (pc0 := 174) (pc' := 177) (same := false) rfl (hb hby at_174) rfl (decide_eq_false fun q => (Fld.ne ST.k37 ST.k34 (fun q => absurd (Value.int.inj q) (by decide))) (Value.ref.inj q)) (by decide) (by decide) k) ?_
    show G T168 (mkF m 177 ls170 [])
    refine step (fun t k => XS.aloadN X168.here hx rfl (hb hby at_177) (by rw [hls170]; rfl) rfl k) ?_
    show G T168 (mkF m 178 ls170 [(.ref w_TIMED_OUT)])
    refine step (fun t k => XS.aload X168.here hx rfl (hb hby at_178) (by rw [hls170]; rfl) rfl k) ?_
    show G T168 (mkF m 180 ls170 [(.ref w_PAYLOAD_TOO_LARGE), (.ref w_TIMED_OUT)])
    refine step (fun t k => Jvm.RoadKit.acmp X168 hx rfl rfl rfl (pc0 := 180) (pc' := 187) (same := false) rfl (hb hby at_180) rfl (decide_eq_false fun q => (Fld.ne ST.k37 ST.k35 (fun q => absurd (Value.int.inj q) (by decide))) (Value.ref.inj q)) (by decide) (by decide) k) ?_
    show G T168 (mkF m 187 ls170 [])
    refine step (fun t k => XS.iconst X168.here hx rfl (hb hby at_187) k) ?_
    show G T168 (mkF m 188 ls170 [(.int 0)])
    obtain ⟨ls171, hls171⟩  := own_sl #[.val (.int p0), .val (.ref b1), .val (.ref w_TIMED_OUT), .val (.ref w_BAD_REQUEST), .val (.ref w_UNAUTHORIZED), .val (.ref w_FORBIDDEN), .val (.ref w_GONE), .val (.ref w_PAYLOAD_TOO_LARGE), .val (.int 0)]
    refine step (fun t k => XS.istore X168.here hx rfl (hb hby at_188) rfl (l' := ls171) (by rw [hls170, hls171]; rfl) k) ?_
    show G T168 (mkF m 190 ls171 [])
    refine step (fun t k => XS.aloadN X168.here hx rfl (hb hby at_190) (by rw [hls171]; rfl) rfl k) ?_
    show G T168 (mkF m 191 ls171 [(.ref w_TIMED_OUT)])
    have hK172 := (backOf (R := room_1) (p := p) (e := e) (below := below) (s := s) (args := #[(.int p0)]) (len := 3) (W := 0) (rm_retr l Z a0 hw [] w_DELIVERED w_BAD_REQUEST w_UNAUTHORIZED w_FORBIDDEN w_NOT_FOUND w_GONE w_TIMED_OUT w_PAYLOAD_TOO_LARGE w_BUSY w_REDIRECTED w_SERVER_ERROR w_FAILED w_SOCKET_ERROR w_RESOLUTION_ERROR w_PROBATION w_TIMED_OUT (6 : Int32) h31 n0 (own_old_le O31) ST O31 (Exa.ext O31.2 ST.k13) (Fld.ext O31.2 ST.k37)) hZ (ww47 hw) (ww3 hw) (by decide) (by decide))
    obtain ⟨cq172, kq172, q172a, q172b, q172c⟩ := isOf hZ e168 (Exa.ext O31.2 ST.k13)
    obtain ⟨_, _, ⟨T172, L172, k172, n172⟩, -, X172, ⟨Lc172, hQ172, l172, y172, z172⟩, st172⟩ := X168.virtualBack hx (y := y_3) (z := y_3) hown (mvT hZ (ww43 hw)) (mvT hZ (ww44 hw)) (notFace_of_selects (args := #[]) (mvT hZ (ww46 hw))) (mvT hZ (ww46 hw)) (mvT hZ (ww45 hw)) (by decide) hK172 q172a q172c (g := (mkF m 191 ls171 [(.ref w_TIMED_OUT)])) rfl (by rw [hml, hls171]; rfl) (Steps.refl _) (argsL := []) (rest := []) (lenOf pd_2 rfl) rfl (by show 2 * 0 + _ ≤ _; exact Nat.le_of_eq rfl) (hb hby at_191) (fun _ _ => ⟨rfl, e168, (by decide : 1 + 0 ≤ _), (by decide : 15 + 0 ≤ _)⟩)
    dsimp only [Pt.U, Pt.locs, Pt.cells, Pt.slots] at X172 l172 y172 z172 st172 hQ172
    subst l172 y172 z172
    obtain ⟨rfl, N172q, e172⟩ := hQ172
    have N172 := Fr.app N168 N172q
    obtain ⟨lc172, X172, N172⟩ := own_gen X172 N172
    refine step (fun t k => st172.trans k) ?_
    show G T172 (mkF m 194 ls171 [(.int (f_retr w_DELIVERED w_BAD_REQUEST w_UNAUTHORIZED w_FORBIDDEN w_NOT_FOUND w_GONE w_TIMED_OUT w_PAYLOAD_TOO_LARGE w_BUSY w_REDIRECTED w_SERVER_ERROR w_FAILED w_SOCKET_ERROR w_RESOLUTION_ERROR w_PROBATION w_TIMED_OUT (6 : Int32)))])
    have r173 : (f_retr w_DELIVERED w_BAD_REQUEST w_UNAUTHORIZED w_FORBIDDEN w_NOT_FOUND w_GONE w_TIMED_OUT w_PAYLOAD_TOO_LARGE w_BUSY w_REDIRECTED w_SERVER_ERROR w_FAILED w_SOCKET_ERROR w_RESOLUTION_ERROR w_PROBATION w_TIMED_OUT (6 : Int32)) = (1 : Int32) := by
      unfold f_retr
      rw [if_neg (by decide : ¬ ((6 : Int32) = (1 : Int32))), if_neg (by decide : ¬ ((6 : Int32) = (2 : Int32))), if_neg (by decide : ¬ ((6 : Int32) = (3 : Int32))), if_neg (by decide : ¬ ((6 : Int32) = (4 : Int32))), if_neg (by decide : ¬ ((6 : Int32) = (5 : Int32))), if_pos (by decide : (6 : Int32) = (6 : Int32))]
    rw [r173]
    show G T172 (mkF m 194 ls171 [(.int 1)])
    refine step (fun t k => XS.iload X172.here hx rfl (hb hby at_194) (by rw [hls171]; rfl) k) ?_
    show G T172 (mkF m 196 ls171 [(.int 0), (.int 1)])
    refine step (fun t k => XS.ifNo X172.here hx rfl (hb hby at_196) rfl ((if0 _ _).trans (teq (by decide : (0 : Int32) = (0 : Int32))).2) k) ?_
    show G T172 (mkF m 199 ls171 [(.int 1)])
    refine step (fun t k => XS.iconst X172.here hx rfl (hb hby at_199) k) ?_
    show G T172 (mkF m 200 ls171 [(.int 1), (.int 1)])
    refine step (fun t k => XS.goto X172.here hx rfl (pc0 := 200) (pc' := 204) rfl (hb hby at_200) (by decide) (by decide) k) ?_
    show G T172 (mkF m 204 ls171 [(.int 1), (.int 1)])
    refine step (fun t k => XS.icmpNo X172.here hx rfl (hb hby at_204) rfl (teq (by decide : (1 : Int32) = (1 : Int32))).2 k) ?_
    show G T172 (mkF m 207 ls171 [])
    refine step (fun t k => XS.iconst X172.here hx rfl (hb hby at_207) k) ?_
    show G T172 (mkF m 208 ls171 [(.int 1)])
    refine step (fun t k => XS.goto X172.here hx rfl (pc0 := 208) (pc' := 212) rfl (hb hby at_208) (by decide) (by decide) k) ?_
    show G T172 (mkF m 212 ls171 [(.int 1)])
    exact ret (v := some (.int 1)) X172 (fun h => by rw [Bd.returns] at h; cases h) (fun fs hr => retN X172 hx (t := .boolean) Bd.returns (by simp) (hb hby at_212) hr) e172 ⟨rfl, N172⟩ (by decide) (by decide)
  · rw [hk]
    show G T31 (mkF m 113 ls32 [(.int 7), (.ref b1)])
    have q174 := own_ldR X31 hx hZ e31 V31 (j := (7 : Int32)) (v := (.ref w_PAYLOAD_TOO_LARGE)) (by decide) (own_at (i := 7) rfl rfl) rfl (g := (mkF m 113 ls32 [(.int 7), (.ref b1)])) rfl rfl (hb hby at_113)
    refine step q174 ?_
    show G T31 (mkF m 114 ls32 [(.ref w_PAYLOAD_TOO_LARGE)])
    obtain ⟨ls175, hls175⟩  := own_sl #[.val (.int p0), .val (.ref b1), .val (.ref w_PAYLOAD_TOO_LARGE), .unset, .unset, .unset, .unset, .unset, .unset]
    refine step (fun t k => XS.astoreN X31.here hx rfl (hb hby at_114) rfl rfl (l' := ls175) (by rw [hls32, hls175]; rfl) k) ?_
    show G T31 (mkF m 115 ls175 [])
    refine step (fun t k => XS.sipush X31.here hx rfl (hb hby at_115) k) ?_
    show G T31 (mkF m 118 ls175 [(.int 400)])
    have hK176 := (backOf (R := room_1) (p := p) (e := e) (below := below) (s := s) (args := #[(.int p0)]) (len := 3) (W := 0) (rm_of400 l Z a0 hw [] w_DELIVERED w_BAD_REQUEST w_UNAUTHORIZED w_FORBIDDEN w_NOT_FOUND w_GONE w_TIMED_OUT w_PAYLOAD_TOO_LARGE w_BUSY w_REDIRECTED w_SERVER_ERROR w_FAILED w_SOCKET_ERROR w_RESOLUTION_ERROR w_PROBATION h31 n0 (own_old_le O31) ST O31) hZ (ww37 hw) (ww3 hw) (by decide) (by decide))
    obtain ⟨_, _, ⟨T176, L176, k176, n176⟩, -, X176, ⟨Lc176, hQ176, l176, y176, z176⟩, st176⟩ := Jvm.LawKit.callS X31 hx (y := y_0) hown (mvT hZ (ww35 hw)) (mvT hZ (ww36 hw)) (mvT hZ (ww3 hw)) (mvT hZ (ww37 hw)) (by decide) hK176 (g := (mkF m 118 ls175 [(.int 400)])) rfl (by rw [hml, hls175]; rfl) (argsL := [(.int 400)]) (rest := []) (lenOf pd_1 rfl) rfl (by show 2 * 0 + _ ≤ _; exact Nat.le_of_eq rfl) (hb hby at_118) (fun _ _ => ⟨rfl, e31, (by decide : 1 + 0 ≤ _), (by decide : 15 + 0 ≤ _)⟩)
    dsimp only [Pt.U, Pt.locs, Pt.cells, Pt.slots] at X176 l176 y176 z176 st176 hQ176
    subst l176 y176 z176
    obtain ⟨rfl, N176q, e176⟩ := hQ176
    have N176 := Fr.app N31 N176q
    obtain ⟨lc176, X176, N176⟩ := own_gen X176 N176
    refine step (fun t k => st176 t k) ?_
    show G T176 (mkF m 121 ls175 [(.ref (f_of400 w_DELIVERED w_BAD_REQUEST w_UNAUTHORIZED w_FORBIDDEN w_NOT_FOUND w_GONE w_TIMED_OUT w_PAYLOAD_TOO_LARGE w_BUSY w_REDIRECTED w_SERVER_ERROR w_FAILED w_SOCKET_ERROR w_RESOLUTION_ERROR w_PROBATION))])
    have r177 : (f_of400 w_DELIVERED w_BAD_REQUEST w_UNAUTHORIZED w_FORBIDDEN w_NOT_FOUND w_GONE w_TIMED_OUT w_PAYLOAD_TOO_LARGE w_BUSY w_REDIRECTED w_SERVER_ERROR w_FAILED w_SOCKET_ERROR w_RESOLUTION_ERROR w_PROBATION) = w_BAD_REQUEST := rfl
    rw [r177]
    show G T176 (mkF m 121 ls175 [(.ref w_BAD_REQUEST)])
    obtain ⟨ls178, hls178⟩  := own_sl #[.val (.int p0), .val (.ref b1), .val (.ref w_PAYLOAD_TOO_LARGE), .val (.ref w_BAD_REQUEST), .unset, .unset, .unset, .unset, .unset]
    refine step (fun t k => XS.astoreN X176.here hx rfl (hb hby at_121) rfl rfl (l' := ls178) (by rw [hls175, hls178]; rfl) k) ?_
    show G T176 (mkF m 122 ls178 [])
    refine step (fun t k => XS.sipush X176.here hx rfl (hb hby at_122) k) ?_
    show G T176 (mkF m 125 ls178 [(.int 401)])
    have hK179 := (backOf (R := room_1) (p := p) (e := e) (below := below) (s := s) (args := #[(.int p0)]) (len := 3) (W := 0) (rm_of401 l Z a0 hw [] w_DELIVERED w_BAD_REQUEST w_UNAUTHORIZED w_FORBIDDEN w_NOT_FOUND w_GONE w_TIMED_OUT w_PAYLOAD_TOO_LARGE w_BUSY w_REDIRECTED w_SERVER_ERROR w_FAILED w_SOCKET_ERROR w_RESOLUTION_ERROR w_PROBATION h31 n0 (own_old_le O31) ST O31) hZ (ww37 hw) (ww3 hw) (by decide) (by decide))
    obtain ⟨_, _, ⟨T179, L179, k179, n179⟩, -, X179, ⟨Lc179, hQ179, l179, y179, z179⟩, st179⟩ := Jvm.LawKit.callS X176 hx (y := y_0) hown (mvT hZ (ww35 hw)) (mvT hZ (ww36 hw)) (mvT hZ (ww3 hw)) (mvT hZ (ww37 hw)) (by decide) hK179 (g := (mkF m 125 ls178 [(.int 401)])) rfl (by rw [hml, hls178]; rfl) (argsL := [(.int 401)]) (rest := []) (lenOf pd_1 rfl) rfl (by show 2 * 0 + _ ≤ _; exact Nat.le_of_eq rfl) (hb hby at_125) (fun _ _ => ⟨rfl, e176, (by decide : 1 + 0 ≤ _), (by decide : 15 + 0 ≤ _)⟩)
    dsimp only [Pt.U, Pt.locs, Pt.cells, Pt.slots] at X179 l179 y179 z179 st179 hQ179
    subst l179 y179 z179
    obtain ⟨rfl, N179q, e179⟩ := hQ179
    have N179 := Fr.app N176 N179q
    obtain ⟨lc179, X179, N179⟩ := own_gen X179 N179
    refine step (fun t k => st179 t k) ?_
    show G T179 (mkF m 128 ls178 [(.ref (f_of401 w_DELIVERED w_BAD_REQUEST w_UNAUTHORIZED w_FORBIDDEN w_NOT_FOUND w_GONE w_TIMED_OUT w_PAYLOAD_TOO_LARGE w_BUSY w_REDIRECTED w_SERVER_ERROR w_FAILED w_SOCKET_ERROR w_RESOLUTION_ERROR w_PROBATION))])
    have r180 : (f_of401 w_DELIVERED w_BAD_REQUEST w_UNAUTHORIZED w_FORBIDDEN w_NOT_FOUND w_GONE w_TIMED_OUT w_PAYLOAD_TOO_LARGE w_BUSY w_REDIRECTED w_SERVER_ERROR w_FAILED w_SOCKET_ERROR w_RESOLUTION_ERROR w_PROBATION) = w_UNAUTHORIZED := rfl
    rw [r180]
    show G T179 (mkF m 128 ls178 [(.ref w_UNAUTHORIZED)])
    obtain ⟨ls181, hls181⟩  := own_sl #[.val (.int p0), .val (.ref b1), .val (.ref w_PAYLOAD_TOO_LARGE), .val (.ref w_BAD_REQUEST), .val (.ref w_UNAUTHORIZED), .unset, .unset, .unset, .unset]
    refine step (fun t k => XS.astore X179.here hx rfl (hb hby at_128) rfl rfl (l' := ls181) (by rw [hls178, hls181]; rfl) k) ?_
    show G T179 (mkF m 130 ls181 [])
    refine step (fun t k => XS.sipush X179.here hx rfl (hb hby at_130) k) ?_
    show G T179 (mkF m 133 ls181 [(.int 403)])
    have hK182 := (backOf (R := room_1) (p := p) (e := e) (below := below) (s := s) (args := #[(.int p0)]) (len := 3) (W := 0) (rm_of403 l Z a0 hw [] w_DELIVERED w_BAD_REQUEST w_UNAUTHORIZED w_FORBIDDEN w_NOT_FOUND w_GONE w_TIMED_OUT w_PAYLOAD_TOO_LARGE w_BUSY w_REDIRECTED w_SERVER_ERROR w_FAILED w_SOCKET_ERROR w_RESOLUTION_ERROR w_PROBATION h31 n0 (own_old_le O31) ST O31) hZ (ww37 hw) (ww3 hw) (by decide) (by decide))
    obtain ⟨_, _, ⟨T182, L182, k182, n182⟩, -, X182, ⟨Lc182, hQ182, l182, y182, z182⟩, st182⟩ := Jvm.LawKit.callS X179 hx (y := y_0) hown (mvT hZ (ww35 hw)) (mvT hZ (ww36 hw)) (mvT hZ (ww3 hw)) (mvT hZ (ww37 hw)) (by decide) hK182 (g := (mkF m 133 ls181 [(.int 403)])) rfl (by rw [hml, hls181]; rfl) (argsL := [(.int 403)]) (rest := []) (lenOf pd_1 rfl) rfl (by show 2 * 0 + _ ≤ _; exact Nat.le_of_eq rfl) (hb hby at_133) (fun _ _ => ⟨rfl, e179, (by decide : 1 + 0 ≤ _), (by decide : 15 + 0 ≤ _)⟩)
    dsimp only [Pt.U, Pt.locs, Pt.cells, Pt.slots] at X182 l182 y182 z182 st182 hQ182
    subst l182 y182 z182
    obtain ⟨rfl, N182q, e182⟩ := hQ182
    have N182 := Fr.app N179 N182q
    obtain ⟨lc182, X182, N182⟩ := own_gen X182 N182
    refine step (fun t k => st182 t k) ?_
    show G T182 (mkF m 136 ls181 [(.ref (f_of403 w_DELIVERED w_BAD_REQUEST w_UNAUTHORIZED w_FORBIDDEN w_NOT_FOUND w_GONE w_TIMED_OUT w_PAYLOAD_TOO_LARGE w_BUSY w_REDIRECTED w_SERVER_ERROR w_FAILED w_SOCKET_ERROR w_RESOLUTION_ERROR w_PROBATION))])
    have r183 : (f_of403 w_DELIVERED w_BAD_REQUEST w_UNAUTHORIZED w_FORBIDDEN w_NOT_FOUND w_GONE w_TIMED_OUT w_PAYLOAD_TOO_LARGE w_BUSY w_REDIRECTED w_SERVER_ERROR w_FAILED w_SOCKET_ERROR w_RESOLUTION_ERROR w_PROBATION) = w_FORBIDDEN := rfl
    rw [r183]
    show G T182 (mkF m 136 ls181 [(.ref w_FORBIDDEN)])
    obtain ⟨ls184, hls184⟩  := own_sl #[.val (.int p0), .val (.ref b1), .val (.ref w_PAYLOAD_TOO_LARGE), .val (.ref w_BAD_REQUEST), .val (.ref w_UNAUTHORIZED), .val (.ref w_FORBIDDEN), .unset, .unset, .unset]
    refine step (fun t k => XS.astore X182.here hx rfl (hb hby at_136) rfl rfl (l' := ls184) (by rw [hls181, hls184]; rfl) k) ?_
    show G T182 (mkF m 138 ls184 [])
    refine step (fun t k => XS.sipush X182.here hx rfl (hb hby at_138) k) ?_
    show G T182 (mkF m 141 ls184 [(.int 410)])
    have hK185 := (backOf (R := room_1) (p := p) (e := e) (below := below) (s := s) (args := #[(.int p0)]) (len := 3) (W := 0) (rm_of410 l Z a0 hw [] w_DELIVERED w_BAD_REQUEST w_UNAUTHORIZED w_FORBIDDEN w_NOT_FOUND w_GONE w_TIMED_OUT w_PAYLOAD_TOO_LARGE w_BUSY w_REDIRECTED w_SERVER_ERROR w_FAILED w_SOCKET_ERROR w_RESOLUTION_ERROR w_PROBATION h31 n0 (own_old_le O31) ST O31) hZ (ww37 hw) (ww3 hw) (by decide) (by decide))
    obtain ⟨_, _, ⟨T185, L185, k185, n185⟩, -, X185, ⟨Lc185, hQ185, l185, y185, z185⟩, st185⟩ := Jvm.LawKit.callS X182 hx (y := y_0) hown (mvT hZ (ww35 hw)) (mvT hZ (ww36 hw)) (mvT hZ (ww3 hw)) (mvT hZ (ww37 hw)) (by decide) hK185 (g := (mkF m 141 ls184 [(.int 410)])) rfl (by rw [hml, hls184]; rfl) (argsL := [(.int 410)]) (rest := []) (lenOf pd_1 rfl) rfl (by show 2 * 0 + _ ≤ _; exact Nat.le_of_eq rfl) (hb hby at_141) (fun _ _ => ⟨rfl, e182, (by decide : 1 + 0 ≤ _), (by decide : 15 + 0 ≤ _)⟩)
    dsimp only [Pt.U, Pt.locs, Pt.cells, Pt.slots] at X185 l185 y185 z185 st185 hQ185
    subst l185 y185 z185
    obtain ⟨rfl, N185q, e185⟩ := hQ185
    have N185 := Fr.app N182 N185q
    obtain ⟨lc185, X185, N185⟩ := own_gen X185 N185
    refine step (fun t k => st185 t k) ?_
    show G T185 (mkF m 144 ls184 [(.ref (f_of410 w_DELIVERED w_BAD_REQUEST w_UNAUTHORIZED w_FORBIDDEN w_NOT_FOUND w_GONE w_TIMED_OUT w_PAYLOAD_TOO_LARGE w_BUSY w_REDIRECTED w_SERVER_ERROR w_FAILED w_SOCKET_ERROR w_RESOLUTION_ERROR w_PROBATION))])
    have r186 : (f_of410 w_DELIVERED w_BAD_REQUEST w_UNAUTHORIZED w_FORBIDDEN w_NOT_FOUND w_GONE w_TIMED_OUT w_PAYLOAD_TOO_LARGE w_BUSY w_REDIRECTED w_SERVER_ERROR w_FAILED w_SOCKET_ERROR w_RESOLUTION_ERROR w_PROBATION) = w_GONE := rfl
    rw [r186]
    show G T185 (mkF m 144 ls184 [(.ref w_GONE)])
    obtain ⟨ls187, hls187⟩  := own_sl #[.val (.int p0), .val (.ref b1), .val (.ref w_PAYLOAD_TOO_LARGE), .val (.ref w_BAD_REQUEST), .val (.ref w_UNAUTHORIZED), .val (.ref w_FORBIDDEN), .val (.ref w_GONE), .unset, .unset]
    refine step (fun t k => XS.astore X185.here hx rfl (hb hby at_144) rfl rfl (l' := ls187) (by rw [hls184, hls187]; rfl) k) ?_
    show G T185 (mkF m 146 ls187 [])
    refine step (fun t k => XS.sipush X185.here hx rfl (hb hby at_146) k) ?_
    show G T185 (mkF m 149 ls187 [(.int 413)])
    have hK188 := (backOf (R := room_1) (p := p) (e := e) (below := below) (s := s) (args := #[(.int p0)]) (len := 3) (W := 0) (rm_of413 l Z a0 hw [] w_DELIVERED w_BAD_REQUEST w_UNAUTHORIZED w_FORBIDDEN w_NOT_FOUND w_GONE w_TIMED_OUT w_PAYLOAD_TOO_LARGE w_BUSY w_REDIRECTED w_SERVER_ERROR w_FAILED w_SOCKET_ERROR w_RESOLUTION_ERROR w_PROBATION h31 n0 (own_old_le O31) ST O31) hZ (ww37 hw) (ww3 hw) (by decide) (by decide))
    obtain ⟨_, _, ⟨T188, L188, k188, n188⟩, -, X188, ⟨Lc188, hQ188, l188, y188, z188⟩, st188⟩ := Jvm.LawKit.callS X185 hx (y := y_0) hown (mvT hZ (ww35 hw)) (mvT hZ (ww36 hw)) (mvT hZ (ww3 hw)) (mvT hZ (ww37 hw)) (by decide) hK188 (g := (mkF m 149 ls187 [(.int 413)])) rfl (by rw [hml, hls187]; rfl) (argsL := [(.int 413)]) (rest := []) (lenOf pd_1 rfl) rfl (by show 2 * 0 + _ ≤ _; exact Nat.le_of_eq rfl) (hb hby at_149) (fun _ _ => ⟨rfl, e185, (by decide : 1 + 0 ≤ _), (by decide : 15 + 0 ≤ _)⟩)
    dsimp only [Pt.U, Pt.locs, Pt.cells, Pt.slots] at X188 l188 y188 z188 st188 hQ188
    subst l188 y188 z188
    obtain ⟨rfl, N188q, e188⟩ := hQ188
    have N188 := Fr.app N185 N188q
    obtain ⟨lc188, X188, N188⟩ := own_gen X188 N188
    refine step (fun t k => st188 t k) ?_
    show G T188 (mkF m 152 ls187 [(.ref (f_of413 w_DELIVERED w_BAD_REQUEST w_UNAUTHORIZED w_FORBIDDEN w_NOT_FOUND w_GONE w_TIMED_OUT w_PAYLOAD_TOO_LARGE w_BUSY w_REDIRECTED w_SERVER_ERROR w_FAILED w_SOCKET_ERROR w_RESOLUTION_ERROR w_PROBATION))])
    have r189 : (f_of413 w_DELIVERED w_BAD_REQUEST w_UNAUTHORIZED w_FORBIDDEN w_NOT_FOUND w_GONE w_TIMED_OUT w_PAYLOAD_TOO_LARGE w_BUSY w_REDIRECTED w_SERVER_ERROR w_FAILED w_SOCKET_ERROR w_RESOLUTION_ERROR w_PROBATION) = w_PAYLOAD_TOO_LARGE := rfl
    rw [r189]
    show G T188 (mkF m 152 ls187 [(.ref w_PAYLOAD_TOO_LARGE)])
    obtain ⟨ls190, hls190⟩  := own_sl #[.val (.int p0), .val (.ref b1), .val (.ref w_PAYLOAD_TOO_LARGE), .val (.ref w_BAD_REQUEST), .val (.ref w_UNAUTHORIZED), .val (.ref w_FORBIDDEN), .val (.ref w_GONE), .val (.ref w_PAYLOAD_TOO_LARGE), .unset]
    refine step (fun t k => XS.astore X188.here hx rfl (hb hby at_152) rfl rfl (l' := ls190) (by rw [hls187, hls190]; rfl) k) ?_
    show G T188 (mkF m 154 ls190 [])
    refine step (fun t k => XS.aloadN X188.here hx rfl (hb hby at_154) (by rw [hls190]; rfl) rfl k) ?_
    show G T188 (mkF m 155 ls190 [(.ref w_PAYLOAD_TOO_LARGE)])
    refine step (fun t k => XS.aloadN X188.here hx rfl (hb hby at_155) (by rw [hls190]; rfl) rfl k) ?_
    show G T188 (mkF m 156 ls190 [(.ref w_BAD_REQUEST), (.ref w_PAYLOAD_TOO_LARGE)])
    refine step (fun t k => Jvm.RoadKit.acmp X188 hx rfl rfl rfl (pc0 := 156) (pc' := 159) (same := false) rfl (hb hby at_156) rfl (decide_eq_false fun q => (Fld.ne ST.k35 ST.k31 (fun q => absurd (Value.int.inj q) (by decide))) (Value.ref.inj q)) (by decide) (by decide) k) ?_
    show G T188 (mkF m 159 ls190 [])
    refine step (fun t k => XS.aloadN X188.here hx rfl (hb hby at_159) (by rw [hls190]; rfl) rfl k) ?_
    show G T188 (mkF m 160 ls190 [(.ref w_PAYLOAD_TOO_LARGE)])
    refine step (fun t k => XS.aload X188.here hx rfl (hb hby at_160) (by rw [hls190]; rfl) rfl k) ?_
    show G T188 (mkF m 162 ls190 [(.ref w_UNAUTHORIZED), (.ref w_PAYLOAD_TOO_LARGE)])
    refine step (fun t k => Jvm.RoadKit.acmp X188 hx rfl rfl rfl (pc0 := 162) (pc' := 165) (same := false) rfl (hb hby at_162) rfl (decide_eq_false fun q => (Fld.ne ST.k35 ST.k32 (fun q => absurd (Value.int.inj q) (by decide))) (Value.ref.inj q)) (by decide) (by decide) k) ?_
    show G T188 (mkF m 165 ls190 [])
    refine step (fun t k => XS.aloadN X188.here hx rfl (hb hby at_165) (by rw [hls190]; rfl) rfl k) ?_
    show G T188 (mkF m 166 ls190 [(.ref w_PAYLOAD_TOO_LARGE)])
    refine step (fun t k => XS.aload X188.here hx rfl (hb hby at_166) (by rw [hls190]; rfl) rfl k) ?_
    show G T188 (mkF m 168 ls190 [(.ref w_FORBIDDEN), (.ref w_PAYLOAD_TOO_LARGE)])
    refine step (fun t k => Jvm.RoadKit.acmp X188 hx rfl rfl rfl (pc0 := 168) (pc' := 171) (same := false) rfl (hb hby at_168) rfl (decide_eq_false fun q => (Fld.ne ST.k35 ST.k33 (fun q => absurd (Value.int.inj q) (by decide))) (Value.ref.inj q)) (by decide) (by decide) k) ?_
    show G T188 (mkF m 171 ls190 [])
    refine step (fun t k => XS.aloadN X188.here hx rfl (hb hby at_171) (by rw [hls190]; rfl) rfl k) ?_
    show G T188 (mkF m 172 ls190 [(.ref w_PAYLOAD_TOO_LARGE)])
    refine step (fun t k => XS.aload X188.here hx rfl (hb hby at_172) (by rw [hls190]; rfl) rfl k) ?_
    show G T188 (mkF m 174 ls190 [(.ref w_GONE), (.ref w_PAYLOAD_TOO_LARGE)])
    refine step (fun t k => Jvm.RoadKit.acmp X188 hx rfl rfl rfl (pc0 := 174) (pc' := 177) (same := false) rfl (hb hby at_174) rfl (decide_eq_false fun q => (Fld.ne ST.k35 ST.k34 (fun q => absurd (Value.int.inj q) (by decide))) (Value.ref.inj q)) (by decide) (by decide) k) ?_
    show G T188 (mkF m 177 ls190 [])
    refine step (fun t k => XS.aloadN X188.here hx rfl (hb hby at_177) (by rw [hls190]; rfl) rfl k) ?_
    show G T188 (mkF m 178 ls190 [(.ref w_PAYLOAD_TOO_LARGE)])
    refine step (fun t k => XS.aload X188.here hx rfl (hb hby at_178) (by rw [hls190]; rfl) rfl k) ?_
    show G T188 (mkF m 180 ls190 [(.ref w_PAYLOAD_TOO_LARGE), (.ref w_PAYLOAD_TOO_LARGE)])
    refine step (fun t k => Jvm.RoadKit.acmp X188 hx rfl rfl rfl (pc0 := 180) (pc' := 183) (same := true) rfl (hb hby at_180) rfl (decide_eq_true rfl) (by decide) (by decide) k) ?_
    show G T188 (mkF m 183 ls190 [])
    refine step (fun t k => XS.iconst X188.here hx rfl (hb hby at_183) k) ?_
    show G T188 (mkF m 184 ls190 [(.int 1)])
    refine step (fun t k => XS.goto X188.here hx rfl (pc0 := 184) (pc' := 188) rfl (hb hby at_184) (by decide) (by decide) k) ?_
    show G T188 (mkF m 188 ls190 [(.int 1)])
    obtain ⟨ls191, hls191⟩  := own_sl #[.val (.int p0), .val (.ref b1), .val (.ref w_PAYLOAD_TOO_LARGE), .val (.ref w_BAD_REQUEST), .val (.ref w_UNAUTHORIZED), .val (.ref w_FORBIDDEN), .val (.ref w_GONE), .val (.ref w_PAYLOAD_TOO_LARGE), .val (.int 1)]
    refine step (fun t k => XS.istore X188.here hx rfl (hb hby at_188) rfl (l' := ls191) (by rw [hls190, hls191]; rfl) k) ?_
    show G T188 (mkF m 190 ls191 [])
    refine step (fun t k => XS.aloadN X188.here hx rfl (hb hby at_190) (by rw [hls191]; rfl) rfl k) ?_
    show G T188 (mkF m 191 ls191 [(.ref w_PAYLOAD_TOO_LARGE)])
    have hK192 := (backOf (R := room_1) (p := p) (e := e) (below := below) (s := s) (args := #[(.int p0)]) (len := 3) (W := 0) (rm_retr l Z a0 hw [] w_DELIVERED w_BAD_REQUEST w_UNAUTHORIZED w_FORBIDDEN w_NOT_FOUND w_GONE w_TIMED_OUT w_PAYLOAD_TOO_LARGE w_BUSY w_REDIRECTED w_SERVER_ERROR w_FAILED w_SOCKET_ERROR w_RESOLUTION_ERROR w_PROBATION w_PAYLOAD_TOO_LARGE (7 : Int32) h31 n0 (own_old_le O31) ST O31 (Exa.ext O31.2 ST.k15) (Fld.ext O31.2 ST.k35)) hZ (ww47 hw) (ww3 hw) (by decide) (by decide))
    obtain ⟨cq192, kq192, q192a, q192b, q192c⟩ := isOf hZ e188 (Exa.ext O31.2 ST.k15)
    obtain ⟨_, _, ⟨T192, L192, k192, n192⟩, -, X192, ⟨Lc192, hQ192, l192, y192, z192⟩, st192⟩ := X188.virtualBack hx (y := y_3) (z := y_3) hown (mvT hZ (ww43 hw)) (mvT hZ (ww44 hw)) (notFace_of_selects (args := #[]) (mvT hZ (ww46 hw))) (mvT hZ (ww46 hw)) (mvT hZ (ww45 hw)) (by decide) hK192 q192a q192c (g := (mkF m 191 ls191 [(.ref w_PAYLOAD_TOO_LARGE)])) rfl (by rw [hml, hls191]; rfl) (Steps.refl _) (argsL := []) (rest := []) (lenOf pd_2 rfl) rfl (by show 2 * 0 + _ ≤ _; exact Nat.le_of_eq rfl) (hb hby at_191) (fun _ _ => ⟨rfl, e188, (by decide : 1 + 0 ≤ _), (by decide : 15 + 0 ≤ _)⟩)
    dsimp only [Pt.U, Pt.locs, Pt.cells, Pt.slots] at X192 l192 y192 z192 st192 hQ192
    subst l192 y192 z192
    obtain ⟨rfl, N192q, e192⟩ := hQ192
    have N192 := Fr.app N188 N192q
    obtain ⟨lc192, X192, N192⟩ := own_gen X192 N192
    refine step (fun t k => st192.trans k) ?_
    show G T192 (mkF m 194 ls191 [(.int (f_retr w_DELIVERED w_BAD_REQUEST w_UNAUTHORIZED w_FORBIDDEN w_NOT_FOUND w_GONE w_TIMED_OUT w_PAYLOAD_TOO_LARGE w_BUSY w_REDIRECTED w_SERVER_ERROR w_FAILED w_SOCKET_ERROR w_RESOLUTION_ERROR w_PROBATION w_PAYLOAD_TOO_LARGE (7 : Int32)))])
    have r193 : (f_retr w_DELIVERED w_BAD_REQUEST w_UNAUTHORIZED w_FORBIDDEN w_NOT_FOUND w_GONE w_TIMED_OUT w_PAYLOAD_TOO_LARGE w_BUSY w_REDIRECTED w_SERVER_ERROR w_FAILED w_SOCKET_ERROR w_RESOLUTION_ERROR w_PROBATION w_PAYLOAD_TOO_LARGE (7 : Int32)) = (0 : Int32) := by
      unfold f_retr
      rw [if_neg (by decide : ¬ ((7 : Int32) = (1 : Int32))), if_neg (by decide : ¬ ((7 : Int32) = (2 : Int32))), if_neg (by decide : ¬ ((7 : Int32) = (3 : Int32))), if_neg (by decide : ¬ ((7 : Int32) = (4 : Int32))), if_neg (by decide : ¬ ((7 : Int32) = (5 : Int32))), if_neg (by decide : ¬ ((7 : Int32) = (6 : Int32))), if_pos (by decide : (7 : Int32) = (7 : Int32))]
    rw [r193]
    show G T192 (mkF m 194 ls191 [(.int 0)])
    refine step (fun t k => XS.iload X192.here hx rfl (hb hby at_194) (by rw [hls191]; rfl) k) ?_
    show G T192 (mkF m 196 ls191 [(.int 1), (.int 0)])
    refine step (fun t k => XS.ifYes X192.here hx rfl (pc0 := 196) (pc' := 203) rfl (hb hby at_196) rfl ((if0 _ _).trans (feq (by decide : ¬ ((1 : Int32) = (0 : Int32)))).2) (by decide) (by decide) k) ?_
    show G T192 (mkF m 203 ls191 [(.int 0)])
    refine step (fun t k => XS.iconst X192.here hx rfl (hb hby at_203) k) ?_
    show G T192 (mkF m 204 ls191 [(.int 0), (.int 0)])
    refine step (fun t k => XS.icmpNo X192.here hx rfl (hb hby at_204) rfl (teq (by decide : (0 : Int32) = (0 : Int32))).2 k) ?_
    show G T192 (mkF m 207 ls191 [])
    refine step (fun t k => XS.iconst X192.here hx rfl (hb hby at_207) k) ?_
    show G T192 (mkF m 208 ls191 [(.int 1)])
    refine step (fun t k => XS.goto X192.here hx rfl (pc0 := 208) (pc' := 212) rfl (hb hby at_208) (by decide) (by decide) k) ?_
    show G T192 (mkF m 212 ls191 [(.int 1)])
    exact ret (v := some (.int 1)) X192 (fun h => by rw [Bd.returns] at h; cases h) (fun fs hr => retN X192 hx (t := .boolean) Bd.returns (by simp) (hb hby at_212) hr) e192 ⟨rfl, N192⟩ (by decide) (by decide)
  · rw [hk]
    show G T31 (mkF m 113 ls32 [(.int 8), (.ref b1)])
    have q194 := own_ldR X31 hx hZ e31 V31 (j := (8 : Int32)) (v := (.ref w_BUSY)) (by decide) (own_at (i := 8) rfl rfl) rfl (g := (mkF m 113 ls32 [(.int 8), (.ref b1)])) rfl rfl (hb hby at_113)
    refine step q194 ?_
    show G T31 (mkF m 114 ls32 [(.ref w_BUSY)])
    obtain ⟨ls195, hls195⟩  := own_sl #[.val (.int p0), .val (.ref b1), .val (.ref w_BUSY), .unset, .unset, .unset, .unset, .unset, .unset]
    refine step (fun t k => XS.astoreN X31.here hx rfl (hb hby at_114) rfl rfl (l' := ls195) (by rw [hls32, hls195]; rfl) k) ?_
    show G T31 (mkF m 115 ls195 [])
    refine step (fun t k => XS.sipush X31.here hx rfl (hb hby at_115) k) ?_
    show G T31 (mkF m 118 ls195 [(.int 400)])
    have hK196 := (backOf (R := room_1) (p := p) (e := e) (below := below) (s := s) (args := #[(.int p0)]) (len := 3) (W := 0) (rm_of400 l Z a0 hw [] w_DELIVERED w_BAD_REQUEST w_UNAUTHORIZED w_FORBIDDEN w_NOT_FOUND w_GONE w_TIMED_OUT w_PAYLOAD_TOO_LARGE w_BUSY w_REDIRECTED w_SERVER_ERROR w_FAILED w_SOCKET_ERROR w_RESOLUTION_ERROR w_PROBATION h31 n0 (own_old_le O31) ST O31) hZ (ww37 hw) (ww3 hw) (by decide) (by decide))
    obtain ⟨_, _, ⟨T196, L196, k196, n196⟩, -, X196, ⟨Lc196, hQ196, l196, y196, z196⟩, st196⟩ := Jvm.LawKit.callS X31 hx (y := y_0) hown (mvT hZ (ww35 hw)) (mvT hZ (ww36 hw)) (mvT hZ (ww3 hw)) (mvT hZ (ww37 hw)) (by decide) hK196 (g := (mkF m 118 ls195 [(.int 400)])) rfl (by rw [hml, hls195]; rfl) (argsL := [(.int 400)]) (rest := []) (lenOf pd_1 rfl) rfl (by show 2 * 0 + _ ≤ _; exact Nat.le_of_eq rfl) (hb hby at_118) (fun _ _ => ⟨rfl, e31, (by decide : 1 + 0 ≤ _), (by decide : 15 + 0 ≤ _)⟩)
    dsimp only [Pt.U, Pt.locs, Pt.cells, Pt.slots] at X196 l196 y196 z196 st196 hQ196
    subst l196 y196 z196
    obtain ⟨rfl, N196q, e196⟩ := hQ196
    have N196 := Fr.app N31 N196q
    obtain ⟨lc196, X196, N196⟩ := own_gen X196 N196
    refine step (fun t k => st196 t k) ?_
    show G T196 (mkF m 121 ls195 [(.ref (f_of400 w_DELIVERED w_BAD_REQUEST w_UNAUTHORIZED w_FORBIDDEN w_NOT_FOUND w_GONE w_TIMED_OUT w_PAYLOAD_TOO_LARGE w_BUSY w_REDIRECTED w_SERVER_ERROR w_FAILED w_SOCKET_ERROR w_RESOLUTION_ERROR w_PROBATION))])
    have r197 : (f_of400 w_DELIVERED w_BAD_REQUEST w_UNAUTHORIZED w_FORBIDDEN w_NOT_FOUND w_GONE w_TIMED_OUT w_PAYLOAD_TOO_LARGE w_BUSY w_REDIRECTED w_SERVER_ERROR w_FAILED w_SOCKET_ERROR w_RESOLUTION_ERROR w_PROBATION) = w_BAD_REQUEST := rfl
    rw [r197]
    show G T196 (mkF m 121 ls195 [(.ref w_BAD_REQUEST)])
    obtain ⟨ls198, hls198⟩  := own_sl #[.val (.int p0), .val (.ref b1), .val (.ref w_BUSY), .val (.ref w_BAD_REQUEST), .unset, .unset, .unset, .unset, .unset]
    refine step (fun t k => XS.astoreN X196.here hx rfl (hb hby at_121) rfl rfl (l' := ls198) (by rw [hls195, hls198]; rfl) k) ?_
    show G T196 (mkF m 122 ls198 [])
    refine step (fun t k => XS.sipush X196.here hx rfl (hb hby at_122) k) ?_
    show G T196 (mkF m 125 ls198 [(.int 401)])
    have hK199 := (backOf (R := room_1) (p := p) (e := e) (below := below) (s := s) (args := #[(.int p0)]) (len := 3) (W := 0) (rm_of401 l Z a0 hw [] w_DELIVERED w_BAD_REQUEST w_UNAUTHORIZED w_FORBIDDEN w_NOT_FOUND w_GONE w_TIMED_OUT w_PAYLOAD_TOO_LARGE w_BUSY w_REDIRECTED w_SERVER_ERROR w_FAILED w_SOCKET_ERROR w_RESOLUTION_ERROR w_PROBATION h31 n0 (own_old_le O31) ST O31) hZ (ww37 hw) (ww3 hw) (by decide) (by decide))
    obtain ⟨_, _, ⟨T199, L199, k199, n199⟩, -, X199, ⟨Lc199, hQ199, l199, y199, z199⟩, st199⟩ := Jvm.LawKit.callS X196 hx (y := y_0) hown (mvT hZ (ww35 hw)) (mvT hZ (ww36 hw)) (mvT hZ (ww3 hw)) (mvT hZ (ww37 hw)) (by decide) hK199 (g := (mkF m 125 ls198 [(.int 401)])) rfl (by rw [hml, hls198]; rfl) (argsL := [(.int 401)]) (rest := []) (lenOf pd_1 rfl) rfl (by show 2 * 0 + _ ≤ _; exact Nat.le_of_eq rfl) (hb hby at_125) (fun _ _ => ⟨rfl, e196, (by decide : 1 + 0 ≤ _), (by decide : 15 + 0 ≤ _)⟩)
    dsimp only [Pt.U, Pt.locs, Pt.cells, Pt.slots] at X199 l199 y199 z199 st199 hQ199
    subst l199 y199 z199
    obtain ⟨rfl, N199q, e199⟩ := hQ199
    have N199 := Fr.app N196 N199q
    obtain ⟨lc199, X199, N199⟩ := own_gen X199 N199
    refine step (fun t k => st199 t k) ?_
    show G T199 (mkF m 128 ls198 [(.ref (f_of401 w_DELIVERED w_BAD_REQUEST w_UNAUTHORIZED w_FORBIDDEN w_NOT_FOUND w_GONE w_TIMED_OUT w_PAYLOAD_TOO_LARGE w_BUSY w_REDIRECTED w_SERVER_ERROR w_FAILED w_SOCKET_ERROR w_RESOLUTION_ERROR w_PROBATION))])
    have r200 : (f_of401 w_DELIVERED w_BAD_REQUEST w_UNAUTHORIZED w_FORBIDDEN w_NOT_FOUND w_GONE w_TIMED_OUT w_PAYLOAD_TOO_LARGE w_BUSY w_REDIRECTED w_SERVER_ERROR w_FAILED w_SOCKET_ERROR w_RESOLUTION_ERROR w_PROBATION) = w_UNAUTHORIZED := rfl
    rw [r200]
    show G T199 (mkF m 128 ls198 [(.ref w_UNAUTHORIZED)])
    obtain ⟨ls201, hls201⟩  := own_sl #[.val (.int p0), .val (.ref b1), .val (.ref w_BUSY), .val (.ref w_BAD_REQUEST), .val (.ref w_UNAUTHORIZED), .unset, .unset, .unset, .unset]
    refine step (fun t k => XS.astore X199.here hx rfl (hb hby at_128) rfl rfl (l' := ls201) (by rw [hls198, hls201]; rfl) k) ?_
    show G T199 (mkF m 130 ls201 [])
    refine step (fun t k => XS.sipush X199.here hx rfl (hb hby at_130) k) ?_
    show G T199 (mkF m 133 ls201 [(.int 403)])
    have hK202 := (backOf (R := room_1) (p := p) (e := e) (below := below) (s := s) (args := #[(.int p0)]) (len := 3) (W := 0) (rm_of403 l Z a0 hw [] w_DELIVERED w_BAD_REQUEST w_UNAUTHORIZED w_FORBIDDEN w_NOT_FOUND w_GONE w_TIMED_OUT w_PAYLOAD_TOO_LARGE w_BUSY w_REDIRECTED w_SERVER_ERROR w_FAILED w_SOCKET_ERROR w_RESOLUTION_ERROR w_PROBATION h31 n0 (own_old_le O31) ST O31) hZ (ww37 hw) (ww3 hw) (by decide) (by decide))
    obtain ⟨_, _, ⟨T202, L202, k202, n202⟩, -, X202, ⟨Lc202, hQ202, l202, y202, z202⟩, st202⟩ := Jvm.LawKit.callS X199 hx (y := y_0) hown (mvT hZ (ww35 hw)) (mvT hZ (ww36 hw)) (mvT hZ (ww3 hw)) (mvT hZ (ww37 hw)) (by decide) hK202 (g := (mkF m 133 ls201 [(.int 403)])) rfl (by rw [hml, hls201]; rfl) (argsL := [(.int 403)]) (rest := []) (lenOf pd_1 rfl) rfl (by show 2 * 0 + _ ≤ _; exact Nat.le_of_eq rfl) (hb hby at_133) (fun _ _ => ⟨rfl, e199, (by decide : 1 + 0 ≤ _), (by decide : 15 + 0 ≤ _)⟩)
    dsimp only [Pt.U, Pt.locs, Pt.cells, Pt.slots] at X202 l202 y202 z202 st202 hQ202
    subst l202 y202 z202
    obtain ⟨rfl, N202q, e202⟩ := hQ202
    have N202 := Fr.app N199 N202q
    obtain ⟨lc202, X202, N202⟩ := own_gen X202 N202
    refine step (fun t k => st202 t k) ?_
    show G T202 (mkF m 136 ls201 [(.ref (f_of403 w_DELIVERED w_BAD_REQUEST w_UNAUTHORIZED w_FORBIDDEN w_NOT_FOUND w_GONE w_TIMED_OUT w_PAYLOAD_TOO_LARGE w_BUSY w_REDIRECTED w_SERVER_ERROR w_FAILED w_SOCKET_ERROR w_RESOLUTION_ERROR w_PROBATION))])
    have r203 : (f_of403 w_DELIVERED w_BAD_REQUEST w_UNAUTHORIZED w_FORBIDDEN w_NOT_FOUND w_GONE w_TIMED_OUT w_PAYLOAD_TOO_LARGE w_BUSY w_REDIRECTED w_SERVER_ERROR w_FAILED w_SOCKET_ERROR w_RESOLUTION_ERROR w_PROBATION) = w_FORBIDDEN := rfl
    rw [r203]
    show G T202 (mkF m 136 ls201 [(.ref w_FORBIDDEN)])
    obtain ⟨ls204, hls204⟩  := own_sl #[.val (.int p0), .val (.ref b1), .val (.ref w_BUSY), .val (.ref w_BAD_REQUEST), .val (.ref w_UNAUTHORIZED), .val (.ref w_FORBIDDEN), .unset, .unset, .unset]
    refine step (fun t k => XS.astore X202.here hx rfl (hb hby at_136) rfl rfl (l' := ls204) (by rw [hls201, hls204]; rfl) k) ?_
    show G T202 (mkF m 138 ls204 [])
    refine step (fun t k => XS.sipush X202.here hx rfl (hb hby at_138) k) ?_
    show G T202 (mkF m 141 ls204 [(.int 410)])
    have hK205 := (backOf (R := room_1) (p := p) (e := e) (below := below) (s := s) (args := #[(.int p0)]) (len := 3) (W := 0) (rm_of410 l Z a0 hw [] w_DELIVERED w_BAD_REQUEST w_UNAUTHORIZED w_FORBIDDEN w_NOT_FOUND w_GONE w_TIMED_OUT w_PAYLOAD_TOO_LARGE w_BUSY w_REDIRECTED w_SERVER_ERROR w_FAILED w_SOCKET_ERROR w_RESOLUTION_ERROR w_PROBATION h31 n0 (own_old_le O31) ST O31) hZ (ww37 hw) (ww3 hw) (by decide) (by decide))
    obtain ⟨_, _, ⟨T205, L205, k205, n205⟩, -, X205, ⟨Lc205, hQ205, l205, y205, z205⟩, st205⟩ := Jvm.LawKit.callS X202 hx (y := y_0) hown (mvT hZ (ww35 hw)) (mvT hZ (ww36 hw)) (mvT hZ (ww3 hw)) (mvT hZ (ww37 hw)) (by decide) hK205 (g := (mkF m 141 ls204 [(.int 410)])) rfl (by rw [hml, hls204]; rfl) (argsL := [(.int 410)]) (rest := []) (lenOf pd_1 rfl) rfl (by show 2 * 0 + _ ≤ _; exact Nat.le_of_eq rfl) (hb hby at_141) (fun _ _ => ⟨rfl, e202, (by decide : 1 + 0 ≤ _), (by decide : 15 + 0 ≤ _)⟩)
    dsimp only [Pt.U, Pt.locs, Pt.cells, Pt.slots] at X205 l205 y205 z205 st205 hQ205
    subst l205 y205 z205
    obtain ⟨rfl, N205q, e205⟩ := hQ205
    have N205 := Fr.app N202 N205q
    obtain ⟨lc205, X205, N205⟩ := own_gen X205 N205
    refine step (fun t k => st205 t k) ?_
    show G T205 (mkF m 144 ls204 [(.ref (f_of410 w_DELIVERED w_BAD_REQUEST w_UNAUTHORIZED w_FORBIDDEN w_NOT_FOUND w_GONE w_TIMED_OUT w_PAYLOAD_TOO_LARGE w_BUSY w_REDIRECTED w_SERVER_ERROR w_FAILED w_SOCKET_ERROR w_RESOLUTION_ERROR w_PROBATION))])
    have r206 : (f_of410 w_DELIVERED w_BAD_REQUEST w_UNAUTHORIZED w_FORBIDDEN w_NOT_FOUND w_GONE w_TIMED_OUT w_PAYLOAD_TOO_LARGE w_BUSY w_REDIRECTED w_SERVER_ERROR w_FAILED w_SOCKET_ERROR w_RESOLUTION_ERROR w_PROBATION) = w_GONE := rfl
    rw [r206]
    show G T205 (mkF m 144 ls204 [(.ref w_GONE)])
    obtain ⟨ls207, hls207⟩  := own_sl #[.val (.int p0), .val (.ref b1), .val (.ref w_BUSY), .val (.ref w_BAD_REQUEST), .val (.ref w_UNAUTHORIZED), .val (.ref w_FORBIDDEN), .val (.ref w_GONE), .unset, .unset]
    refine step (fun t k => XS.astore X205.here hx rfl (hb hby at_144) rfl rfl (l' := ls207) (by rw [hls204, hls207]; rfl) k) ?_
    show G T205 (mkF m 146 ls207 [])
    refine step (fun t k => XS.sipush X205.here hx rfl (hb hby at_146) k) ?_
    show G T205 (mkF m 149 ls207 [(.int 413)])
    have hK208 := (backOf (R := room_1) (p := p) (e := e) (below := below) (s := s) (args := #[(.int p0)]) (len := 3) (W := 0) (rm_of413 l Z a0 hw [] w_DELIVERED w_BAD_REQUEST w_UNAUTHORIZED w_FORBIDDEN w_NOT_FOUND w_GONE w_TIMED_OUT w_PAYLOAD_TOO_LARGE w_BUSY w_REDIRECTED w_SERVER_ERROR w_FAILED w_SOCKET_ERROR w_RESOLUTION_ERROR w_PROBATION h31 n0 (own_old_le O31) ST O31) hZ (ww37 hw) (ww3 hw) (by decide) (by decide))
    obtain ⟨_, _, ⟨T208, L208, k208, n208⟩, -, X208, ⟨Lc208, hQ208, l208, y208, z208⟩, st208⟩ := Jvm.LawKit.callS X205 hx (y := y_0) hown (mvT hZ (ww35 hw)) (mvT hZ (ww36 hw)) (mvT hZ (ww3 hw)) (mvT hZ (ww37 hw)) (by decide) hK208 (g := (mkF m 149 ls207 [(.int 413)])) rfl (by rw [hml, hls207]; rfl) (argsL := [(.int 413)]) (rest := []) (lenOf pd_1 rfl) rfl (by show 2 * 0 + _ ≤ _; exact Nat.le_of_eq rfl) (hb hby at_149) (fun _ _ => ⟨rfl, e205, (by decide : 1 + 0 ≤ _), (by decide : 15 + 0 ≤ _)⟩)
    dsimp only [Pt.U, Pt.locs, Pt.cells, Pt.slots] at X208 l208 y208 z208 st208 hQ208
    subst l208 y208 z208
    obtain ⟨rfl, N208q, e208⟩ := hQ208
    have N208 := Fr.app N205 N208q
    obtain ⟨lc208, X208, N208⟩ := own_gen X208 N208
    refine step (fun t k => st208 t k) ?_
    show G T208 (mkF m 152 ls207 [(.ref (f_of413 w_DELIVERED w_BAD_REQUEST w_UNAUTHORIZED w_FORBIDDEN w_NOT_FOUND w_GONE w_TIMED_OUT w_PAYLOAD_TOO_LARGE w_BUSY w_REDIRECTED w_SERVER_ERROR w_FAILED w_SOCKET_ERROR w_RESOLUTION_ERROR w_PROBATION))])
    have r209 : (f_of413 w_DELIVERED w_BAD_REQUEST w_UNAUTHORIZED w_FORBIDDEN w_NOT_FOUND w_GONE w_TIMED_OUT w_PAYLOAD_TOO_LARGE w_BUSY w_REDIRECTED w_SERVER_ERROR w_FAILED w_SOCKET_ERROR w_RESOLUTION_ERROR w_PROBATION) = w_PAYLOAD_TOO_LARGE := rfl
    rw [r209]
    show G T208 (mkF m 152 ls207 [(.ref w_PAYLOAD_TOO_LARGE)])
    obtain ⟨ls210, hls210⟩  := own_sl #[.val (.int p0), .val (.ref b1), .val (.ref w_BUSY), .val (.ref w_BAD_REQUEST), .val (.ref w_UNAUTHORIZED), .val (.ref w_FORBIDDEN), .val (.ref w_GONE), .val (.ref w_PAYLOAD_TOO_LARGE), .unset]
    refine step (fun t k => XS.astore X208.here hx rfl (hb hby at_152) rfl rfl (l' := ls210) (by rw [hls207, hls210]; rfl) k) ?_
    show G T208 (mkF m 154 ls210 [])
    refine step (fun t k => XS.aloadN X208.here hx rfl (hb hby at_154) (by rw [hls210]; rfl) rfl k) ?_
    show G T208 (mkF m 155 ls210 [(.ref w_BUSY)])
    refine step (fun t k => XS.aloadN X208.here hx rfl (hb hby at_155) (by rw [hls210]; rfl) rfl k) ?_
    show G T208 (mkF m 156 ls210 [(.ref w_BAD_REQUEST), (.ref w_BUSY)])
    refine step (fun t k => Jvm.RoadKit.acmp X208 hx rfl rfl rfl (pc0 := 156) (pc' := 159) (same := false) rfl (hb hby at_156) rfl (decide_eq_false fun q => (Fld.ne ST.k41 ST.k31 (fun q => absurd (Value.int.inj q) (by decide))) (Value.ref.inj q)) (by decide) (by decide) k) ?_
    show G T208 (mkF m 159 ls210 [])
    refine step (fun t k => XS.aloadN X208.here hx rfl (hb hby at_159) (by rw [hls210]; rfl) rfl k) ?_
    show G T208 (mkF m 160 ls210 [(.ref w_BUSY)])
    refine step (fun t k => XS.aload X208.here hx rfl (hb hby at_160) (by rw [hls210]; rfl) rfl k) ?_
    show G T208 (mkF m 162 ls210 [(.ref w_UNAUTHORIZED), (.ref w_BUSY)])
    refine step (fun t k => Jvm.RoadKit.acmp X208 hx rfl rfl rfl (pc0 := 162) (pc' := 165) (same := false) rfl (hb hby at_162) rfl (decide_eq_false fun q => (Fld.ne ST.k41 ST.k32 (fun q => absurd (Value.int.inj q) (by decide))) (Value.ref.inj q)) (by decide) (by decide) k) ?_
    show G T208 (mkF m 165 ls210 [])
    refine step (fun t k => XS.aloadN X208.here hx rfl (hb hby at_165) (by rw [hls210]; rfl) rfl k) ?_
    show G T208 (mkF m 166 ls210 [(.ref w_BUSY)])
    refine step (fun t k => XS.aload X208.here hx rfl (hb hby at_166) (by rw [hls210]; rfl) rfl k) ?_
    show G T208 (mkF m 168 ls210 [(.ref w_FORBIDDEN), (.ref w_BUSY)])
    refine step (fun t k => Jvm.RoadKit.acmp X208 hx rfl rfl rfl (pc0 := 168) (pc' := 171) (same := false) rfl (hb hby at_168) rfl (decide_eq_false fun q => (Fld.ne ST.k41 ST.k33 (fun q => absurd (Value.int.inj q) (by decide))) (Value.ref.inj q)) (by decide) (by decide) k) ?_
    show G T208 (mkF m 171 ls210 [])
    refine step (fun t k => XS.aloadN X208.here hx rfl (hb hby at_171) (by rw [hls210]; rfl) rfl k) ?_
    show G T208 (mkF m 172 ls210 [(.ref w_BUSY)])
    refine step (fun t k => XS.aload X208.here hx rfl (hb hby at_172) (by rw [hls210]; rfl) rfl k) ?_
    show G T208 (mkF m 174 ls210 [(.ref w_GONE), (.ref w_BUSY)])
    refine step (fun t k => Jvm.RoadKit.acmp X208 hx rfl rfl rfl (pc0 := 174) (pc' := 177) (same := false) rfl (hb hby at_174) rfl (decide_eq_false fun q => (Fld.ne ST.k41 ST.k34 (fun q => absurd (Value.int.inj q) (by decide))) (Value.ref.inj q)) (by decide) (by decide) k) ?_
    show G T208 (mkF m 177 ls210 [])
    refine step (fun t k => XS.aloadN X208.here hx rfl (hb hby at_177) (by rw [hls210]; rfl) rfl k) ?_
    show G T208 (mkF m 178 ls210 [(.ref w_BUSY)])
    refine step (fun t k => XS.aload X208.here hx rfl (hb hby at_178) (by rw [hls210]; rfl) rfl k) ?_
    show G T208 (mkF m 180 ls210 [(.ref w_PAYLOAD_TOO_LARGE), (.ref w_BUSY)])
    refine step (fun t k => Jvm.RoadKit.acmp X208 hx rfl rfl rfl (pc0 := 180) (pc' := 187) (same := false) rfl (hb hby at_180) rfl (decide_eq_false fun q => (Fld.ne ST.k41 ST.k35 (fun q => absurd (Value.int.inj q) (by decide))) (Value.ref.inj q)) (by decide) (by decide) k) ?_
    show G T208 (mkF m 187 ls210 [])
    refine step (fun t k => XS.iconst X208.here hx rfl (hb hby at_187) k) ?_
    show G T208 (mkF m 188 ls210 [(.int 0)])
    obtain ⟨ls211, hls211⟩  := own_sl #[.val (.int p0), .val (.ref b1), .val (.ref w_BUSY), .val (.ref w_BAD_REQUEST), .val (.ref w_UNAUTHORIZED), .val (.ref w_FORBIDDEN), .val (.ref w_GONE), .val (.ref w_PAYLOAD_TOO_LARGE), .val (.int 0)]
    refine step (fun t k => XS.istore X208.here hx rfl (hb hby at_188) rfl (l' := ls211) (by rw [hls210, hls211]; rfl) k) ?_
    show G T208 (mkF m 190 ls211 [])
    refine step (fun t k => XS.aloadN X208.here hx rfl (hb hby at_190) (by rw [hls211]; rfl) rfl k) ?_
    show G T208 (mkF m 191 ls211 [(.ref w_BUSY)])
    have hK212 := (backOf (R := room_1) (p := p) (e := e) (below := below) (s := s) (args := #[(.int p0)]) (len := 3) (W := 0) (rm_retr l Z a0 hw [] w_DELIVERED w_BAD_REQUEST w_UNAUTHORIZED w_FORBIDDEN w_NOT_FOUND w_GONE w_TIMED_OUT w_PAYLOAD_TOO_LARGE w_BUSY w_REDIRECTED w_SERVER_ERROR w_FAILED w_SOCKET_ERROR w_RESOLUTION_ERROR w_PROBATION w_BUSY (8 : Int32) h31 n0 (own_old_le O31) ST O31 (Exa.ext O31.2 ST.k17) (Fld.ext O31.2 ST.k41)) hZ (ww47 hw) (ww3 hw) (by decide) (by decide))
    obtain ⟨cq212, kq212, q212a, q212b, q212c⟩ := isOf hZ e208 (Exa.ext O31.2 ST.k17)
    obtain ⟨_, _, ⟨T212, L212, k212, n212⟩, -, X212, ⟨Lc212, hQ212, l212, y212, z212⟩, st212⟩ := X208.virtualBack hx (y := y_3) (z := y_3) hown (mvT hZ (ww43 hw)) (mvT hZ (ww44 hw)) (notFace_of_selects (args := #[]) (mvT hZ (ww46 hw))) (mvT hZ (ww46 hw)) (mvT hZ (ww45 hw)) (by decide) hK212 q212a q212c (g := (mkF m 191 ls211 [(.ref w_BUSY)])) rfl (by rw [hml, hls211]; rfl) (Steps.refl _) (argsL := []) (rest := []) (lenOf pd_2 rfl) rfl (by show 2 * 0 + _ ≤ _; exact Nat.le_of_eq rfl) (hb hby at_191) (fun _ _ => ⟨rfl, e208, (by decide : 1 + 0 ≤ _), (by decide : 15 + 0 ≤ _)⟩)
    dsimp only [Pt.U, Pt.locs, Pt.cells, Pt.slots] at X212 l212 y212 z212 st212 hQ212
    subst l212 y212 z212
    obtain ⟨rfl, N212q, e212⟩ := hQ212
    have N212 := Fr.app N208 N212q
    obtain ⟨lc212, X212, N212⟩ := own_gen X212 N212
    refine step (fun t k => st212.trans k) ?_
    show G T212 (mkF m 194 ls211 [(.int (f_retr w_DELIVERED w_BAD_REQUEST w_UNAUTHORIZED w_FORBIDDEN w_NOT_FOUND w_GONE w_TIMED_OUT w_PAYLOAD_TOO_LARGE w_BUSY w_REDIRECTED w_SERVER_ERROR w_FAILED w_SOCKET_ERROR w_RESOLUTION_ERROR w_PROBATION w_BUSY (8 : Int32)))])
    have r213 : (f_retr w_DELIVERED w_BAD_REQUEST w_UNAUTHORIZED w_FORBIDDEN w_NOT_FOUND w_GONE w_TIMED_OUT w_PAYLOAD_TOO_LARGE w_BUSY w_REDIRECTED w_SERVER_ERROR w_FAILED w_SOCKET_ERROR w_RESOLUTION_ERROR w_PROBATION w_BUSY (8 : Int32)) = (1 : Int32) := by
      unfold f_retr
      rw [if_neg (by decide : ¬ ((8 : Int32) = (1 : Int32))), if_neg (by decide : ¬ ((8 : Int32) = (2 : Int32))), if_neg (by decide : ¬ ((8 : Int32) = (3 : Int32))), if_neg (by decide : ¬ ((8 : Int32) = (4 : Int32))), if_neg (by decide : ¬ ((8 : Int32) = (5 : Int32))), if_neg (by decide : ¬ ((8 : Int32) = (6 : Int32))), if_neg (by decide : ¬ ((8 : Int32) = (7 : Int32)))]
    rw [r213]
    show G T212 (mkF m 194 ls211 [(.int 1)])
    refine step (fun t k => XS.iload X212.here hx rfl (hb hby at_194) (by rw [hls211]; rfl) k) ?_
    show G T212 (mkF m 196 ls211 [(.int 0), (.int 1)])
    refine step (fun t k => XS.ifNo X212.here hx rfl (hb hby at_196) rfl ((if0 _ _).trans (teq (by decide : (0 : Int32) = (0 : Int32))).2) k) ?_
    show G T212 (mkF m 199 ls211 [(.int 1)])
    refine step (fun t k => XS.iconst X212.here hx rfl (hb hby at_199) k) ?_
    show G T212 (mkF m 200 ls211 [(.int 1), (.int 1)])
    refine step (fun t k => XS.goto X212.here hx rfl (pc0 := 200) (pc' := 204) rfl (hb hby at_200) (by decide) (by decide) k) ?_
    show G T212 (mkF m 204 ls211 [(.int 1), (.int 1)])
    refine step (fun t k => XS.icmpNo X212.here hx rfl (hb hby at_204) rfl (teq (by decide : (1 : Int32) = (1 : Int32))).2 k) ?_
    show G T212 (mkF m 207 ls211 [])
    refine step (fun t k => XS.iconst X212.here hx rfl (hb hby at_207) k) ?_
    show G T212 (mkF m 208 ls211 [(.int 1)])
    refine step (fun t k => XS.goto X212.here hx rfl (pc0 := 208) (pc' := 212) rfl (hb hby at_208) (by decide) (by decide) k) ?_
    show G T212 (mkF m 212 ls211 [(.int 1)])
    exact ret (v := some (.int 1)) X212 (fun h => by rw [Bd.returns] at h; cases h) (fun fs hr => retN X212 hx (t := .boolean) Bd.returns (by simp) (hb hby at_212) hr) e212 ⟨rfl, N212⟩ (by decide) (by decide)
  · rw [hk]
    show G T31 (mkF m 113 ls32 [(.int 9), (.ref b1)])
    have q214 := own_ldR X31 hx hZ e31 V31 (j := (9 : Int32)) (v := (.ref w_REDIRECTED)) (by decide) (own_at (i := 9) rfl rfl) rfl (g := (mkF m 113 ls32 [(.int 9), (.ref b1)])) rfl rfl (hb hby at_113)
    refine step q214 ?_
    show G T31 (mkF m 114 ls32 [(.ref w_REDIRECTED)])
    obtain ⟨ls215, hls215⟩  := own_sl #[.val (.int p0), .val (.ref b1), .val (.ref w_REDIRECTED), .unset, .unset, .unset, .unset, .unset, .unset]
    refine step (fun t k => XS.astoreN X31.here hx rfl (hb hby at_114) rfl rfl (l' := ls215) (by rw [hls32, hls215]; rfl) k) ?_
    show G T31 (mkF m 115 ls215 [])
    refine step (fun t k => XS.sipush X31.here hx rfl (hb hby at_115) k) ?_
    show G T31 (mkF m 118 ls215 [(.int 400)])
    have hK216 := (backOf (R := room_1) (p := p) (e := e) (below := below) (s := s) (args := #[(.int p0)]) (len := 3) (W := 0) (rm_of400 l Z a0 hw [] w_DELIVERED w_BAD_REQUEST w_UNAUTHORIZED w_FORBIDDEN w_NOT_FOUND w_GONE w_TIMED_OUT w_PAYLOAD_TOO_LARGE w_BUSY w_REDIRECTED w_SERVER_ERROR w_FAILED w_SOCKET_ERROR w_RESOLUTION_ERROR w_PROBATION h31 n0 (own_old_le O31) ST O31) hZ (ww37 hw) (ww3 hw) (by decide) (by decide))
    obtain ⟨_, _, ⟨T216, L216, k216, n216⟩, -, X216, ⟨Lc216, hQ216, l216, y216, z216⟩, st216⟩ := Jvm.LawKit.callS X31 hx (y := y_0) hown (mvT hZ (ww35 hw)) (mvT hZ (ww36 hw)) (mvT hZ (ww3 hw)) (mvT hZ (ww37 hw)) (by decide) hK216 (g := (mkF m 118 ls215 [(.int 400)])) rfl (by rw [hml, hls215]; rfl) (argsL := [(.int 400)]) (rest := []) (lenOf pd_1 rfl) rfl (by show 2 * 0 + _ ≤ _; exact Nat.le_of_eq rfl) (hb hby at_118) (fun _ _ => ⟨rfl, e31, (by decide : 1 + 0 ≤ _), (by decide : 15 + 0 ≤ _)⟩)
    dsimp only [Pt.U, Pt.locs, Pt.cells, Pt.slots] at X216 l216 y216 z216 st216 hQ216
    subst l216 y216 z216
    obtain ⟨rfl, N216q, e216⟩ := hQ216
    have N216 := Fr.app N31 N216q
    obtain ⟨lc216, X216, N216⟩ := own_gen X216 N216
    refine step (fun t k => st216 t k) ?_
    show G T216 (mkF m 121 ls215 [(.ref (f_of400 w_DELIVERED w_BAD_REQUEST w_UNAUTHORIZED w_FORBIDDEN w_NOT_FOUND w_GONE w_TIMED_OUT w_PAYLOAD_TOO_LARGE w_BUSY w_REDIRECTED w_SERVER_ERROR w_FAILED w_SOCKET_ERROR w_RESOLUTION_ERROR w_PROBATION))])
    have r217 : (f_of400 w_DELIVERED w_BAD_REQUEST w_UNAUTHORIZED w_FORBIDDEN w_NOT_FOUND w_GONE w_TIMED_OUT w_PAYLOAD_TOO_LARGE w_BUSY w_REDIRECTED w_SERVER_ERROR w_FAILED w_SOCKET_ERROR w_RESOLUTION_ERROR w_PROBATION) = w_BAD_REQUEST := rfl
    rw [r217]
    show G T216 (mkF m 121 ls215 [(.ref w_BAD_REQUEST)])
    obtain ⟨ls218, hls218⟩  := own_sl #[.val (.int p0), .val (.ref b1), .val (.ref w_REDIRECTED), .val (.ref w_BAD_REQUEST), .unset, .unset, .unset, .unset, .unset]
    refine step (fun t k => XS.astoreN X216.here hx rfl (hb hby at_121) rfl rfl (l' := ls218) (by rw [hls215, hls218]; rfl) k) ?_
    show G T216 (mkF m 122 ls218 [])
    refine step (fun t k => XS.sipush X216.here hx rfl (hb hby at_122) k) ?_
    show G T216 (mkF m 125 ls218 [(.int 401)])
    have hK219 := (backOf (R := room_1) (p := p) (e := e) (below := below) (s := s) (args := #[(.int p0)]) (len := 3) (W := 0) (rm_of401 l Z a0 hw [] w_DELIVERED w_BAD_REQUEST w_UNAUTHORIZED w_FORBIDDEN w_NOT_FOUND w_GONE w_TIMED_OUT w_PAYLOAD_TOO_LARGE w_BUSY w_REDIRECTED w_SERVER_ERROR w_FAILED w_SOCKET_ERROR w_RESOLUTION_ERROR w_PROBATION h31 n0 (own_old_le O31) ST O31) hZ (ww37 hw) (ww3 hw) (by decide) (by decide))
    obtain ⟨_, _, ⟨T219, L219, k219, n219⟩, -, X219, ⟨Lc219, hQ219, l219, y219, z219⟩, st219⟩ := Jvm.LawKit.callS X216 hx (y := y_0) hown (mvT hZ (ww35 hw)) (mvT hZ (ww36 hw)) (mvT hZ (ww3 hw)) (mvT hZ (ww37 hw)) (by decide) hK219 (g := (mkF m 125 ls218 [(.int 401)])) rfl (by rw [hml, hls218]; rfl) (argsL := [(.int 401)]) (rest := []) (lenOf pd_1 rfl) rfl (by show 2 * 0 + _ ≤ _; exact Nat.le_of_eq rfl) (hb hby at_125) (fun _ _ => ⟨rfl, e216, (by decide : 1 + 0 ≤ _), (by decide : 15 + 0 ≤ _)⟩)
    dsimp only [Pt.U, Pt.locs, Pt.cells, Pt.slots] at X219 l219 y219 z219 st219 hQ219
    subst l219 y219 z219
    obtain ⟨rfl, N219q, e219⟩ := hQ219
    have N219 := Fr.app N216 N219q
    obtain ⟨lc219, X219, N219⟩ := own_gen X219 N219
    refine step (fun t k => st219 t k) ?_
    show G T219 (mkF m 128 ls218 [(.ref (f_of401 w_DELIVERED w_BAD_REQUEST w_UNAUTHORIZED w_FORBIDDEN w_NOT_FOUND w_GONE w_TIMED_OUT w_PAYLOAD_TOO_LARGE w_BUSY w_REDIRECTED w_SERVER_ERROR w_FAILED w_SOCKET_ERROR w_RESOLUTION_ERROR w_PROBATION))])
    have r220 : (f_of401 w_DELIVERED w_BAD_REQUEST w_UNAUTHORIZED w_FORBIDDEN w_NOT_FOUND w_GONE w_TIMED_OUT w_PAYLOAD_TOO_LARGE w_BUSY w_REDIRECTED w_SERVER_ERROR w_FAILED w_SOCKET_ERROR w_RESOLUTION_ERROR w_PROBATION) = w_UNAUTHORIZED := rfl
    rw [r220]
    show G T219 (mkF m 128 ls218 [(.ref w_UNAUTHORIZED)])
    obtain ⟨ls221, hls221⟩  := own_sl #[.val (.int p0), .val (.ref b1), .val (.ref w_REDIRECTED), .val (.ref w_BAD_REQUEST), .val (.ref w_UNAUTHORIZED), .unset, .unset, .unset, .unset]
    refine step (fun t k => XS.astore X219.here hx rfl (hb hby at_128) rfl rfl (l' := ls221) (by rw [hls218, hls221]; rfl) k) ?_
    show G T219 (mkF m 130 ls221 [])
    refine step (fun t k => XS.sipush X219.here hx rfl (hb hby at_130) k) ?_
    show G T219 (mkF m 133 ls221 [(.int 403)])
    have hK222 := (backOf (R := room_1) (p := p) (e := e) (below := below) (s := s) (args := #[(.int p0)]) (len := 3) (W := 0) (rm_of403 l Z a0 hw [] w_DELIVERED w_BAD_REQUEST w_UNAUTHORIZED w_FORBIDDEN w_NOT_FOUND w_GONE w_TIMED_OUT w_PAYLOAD_TOO_LARGE w_BUSY w_REDIRECTED w_SERVER_ERROR w_FAILED w_SOCKET_ERROR w_RESOLUTION_ERROR w_PROBATION h31 n0 (own_old_le O31) ST O31) hZ (ww37 hw) (ww3 hw) (by decide) (by decide))
    obtain ⟨_, _, ⟨T222, L222, k222, n222⟩, -, X222, ⟨Lc222, hQ222, l222, y222, z222⟩, st222⟩ := Jvm.LawKit.callS X219 hx (y := y_0) hown (mvT hZ (ww35 hw)) (mvT hZ (ww36 hw)) (mvT hZ (ww3 hw)) (mvT hZ (ww37 hw)) (by decide) hK222 (g := (mkF m 133 ls221 [(.int 403)])) rfl (by rw [hml, hls221]; rfl) (argsL := [(.int 403)]) (rest := []) (lenOf pd_1 rfl) rfl (by show 2 * 0 + _ ≤ _; exact Nat.le_of_eq rfl) (hb hby at_133) (fun _ _ => ⟨rfl, e219, (by decide : 1 + 0 ≤ _), (by decide : 15 + 0 ≤ _)⟩)
    dsimp only [Pt.U, Pt.locs, Pt.cells, Pt.slots] at X222 l222 y222 z222 st222 hQ222
    subst l222 y222 z222
    obtain ⟨rfl, N222q, e222⟩ := hQ222
    have N222 := Fr.app N219 N222q
    obtain ⟨lc222, X222, N222⟩ := own_gen X222 N222
    refine step (fun t k => st222 t k) ?_
    show G T222 (mkF m 136 ls221 [(.ref (f_of403 w_DELIVERED w_BAD_REQUEST w_UNAUTHORIZED w_FORBIDDEN w_NOT_FOUND w_GONE w_TIMED_OUT w_PAYLOAD_TOO_LARGE w_BUSY w_REDIRECTED w_SERVER_ERROR w_FAILED w_SOCKET_ERROR w_RESOLUTION_ERROR w_PROBATION))])
    have r223 : (f_of403 w_DELIVERED w_BAD_REQUEST w_UNAUTHORIZED w_FORBIDDEN w_NOT_FOUND w_GONE w_TIMED_OUT w_PAYLOAD_TOO_LARGE w_BUSY w_REDIRECTED w_SERVER_ERROR w_FAILED w_SOCKET_ERROR w_RESOLUTION_ERROR w_PROBATION) = w_FORBIDDEN := rfl
    rw [r223]
    show G T222 (mkF m 136 ls221 [(.ref w_FORBIDDEN)])
    obtain ⟨ls224, hls224⟩  := own_sl #[.val (.int p0), .val (.ref b1), .val (.ref w_REDIRECTED), .val (.ref w_BAD_REQUEST), .val (.ref w_UNAUTHORIZED), .val (.ref w_FORBIDDEN), .unset, .unset, .unset]
    refine step (fun t k => XS.astore X222.here hx rfl (hb hby at_136) rfl rfl (l' := ls224) (by rw [hls221, hls224]; rfl) k) ?_
    show G T222 (mkF m 138 ls224 [])
    refine step (fun t k => XS.sipush X222.here hx rfl (hb hby at_138) k) ?_
    show G T222 (mkF m 141 ls224 [(.int 410)])
    have hK225 := (backOf (R := room_1) (p := p) (e := e) (below := below) (s := s) (args := #[(.int p0)]) (len := 3) (W := 0) (rm_of410 l Z a0 hw [] w_DELIVERED w_BAD_REQUEST w_UNAUTHORIZED w_FORBIDDEN w_NOT_FOUND w_GONE w_TIMED_OUT w_PAYLOAD_TOO_LARGE w_BUSY w_REDIRECTED w_SERVER_ERROR w_FAILED w_SOCKET_ERROR w_RESOLUTION_ERROR w_PROBATION h31 n0 (own_old_le O31) ST O31) hZ (ww37 hw) (ww3 hw) (by decide) (by decide))
    obtain ⟨_, _, ⟨T225, L225, k225, n225⟩, -, X225, ⟨Lc225, hQ225, l225, y225, z225⟩, st225⟩ := Jvm.LawKit.callS X222 hx (y := y_0) hown (mvT hZ (ww35 hw)) (mvT hZ (ww36 hw)) (mvT hZ (ww3 hw)) (mvT hZ (ww37 hw)) (by decide) hK225 (g := (mkF m 141 ls224 [(.int 410)])) rfl (by rw [hml, hls224]; rfl) (argsL := [(.int 410)]) (rest := []) (lenOf pd_1 rfl) rfl (by show 2 * 0 + _ ≤ _; exact Nat.le_of_eq rfl) (hb hby at_141) (fun _ _ => ⟨rfl, e222, (by decide : 1 + 0 ≤ _), (by decide : 15 + 0 ≤ _)⟩)
    dsimp only [Pt.U, Pt.locs, Pt.cells, Pt.slots] at X225 l225 y225 z225 st225 hQ225
    subst l225 y225 z225
    obtain ⟨rfl, N225q, e225⟩ := hQ225
    have N225 := Fr.app N222 N225q
    obtain ⟨lc225, X225, N225⟩ := own_gen X225 N225
    refine step (fun t k => st225 t k) ?_
    show G T225 (mkF m 144 ls224 [(.ref (f_of410 w_DELIVERED w_BAD_REQUEST w_UNAUTHORIZED w_FORBIDDEN w_NOT_FOUND w_GONE w_TIMED_OUT w_PAYLOAD_TOO_LARGE w_BUSY w_REDIRECTED w_SERVER_ERROR w_FAILED w_SOCKET_ERROR w_RESOLUTION_ERROR w_PROBATION))])
    have r226 : (f_of410 w_DELIVERED w_BAD_REQUEST w_UNAUTHORIZED w_FORBIDDEN w_NOT_FOUND w_GONE w_TIMED_OUT w_PAYLOAD_TOO_LARGE w_BUSY w_REDIRECTED w_SERVER_ERROR w_FAILED w_SOCKET_ERROR w_RESOLUTION_ERROR w_PROBATION) = w_GONE := rfl
    rw [r226]
    show G T225 (mkF m 144 ls224 [(.ref w_GONE)])
    obtain ⟨ls227, hls227⟩  := own_sl #[.val (.int p0), .val (.ref b1), .val (.ref w_REDIRECTED), .val (.ref w_BAD_REQUEST), .val (.ref w_UNAUTHORIZED), .val (.ref w_FORBIDDEN), .val (.ref w_GONE), .unset, .unset]
    refine step (fun t k => XS.astore X225.here hx rfl (hb hby at_144) rfl rfl (l' := ls227) (by rw [hls224, hls227]; rfl) k) ?_
    show G T225 (mkF m 146 ls227 [])
    refine step (fun t k => XS.sipush X225.here hx rfl (hb hby at_146) k) ?_
    show G T225 (mkF m 149 ls227 [(.int 413)])
    have hK228 := (backOf (R := room_1) (p := p) (e := e) (below := below) (s := s) (args := #[(.int p0)]) (len := 3) (W := 0) (rm_of413 l Z a0 hw [] w_DELIVERED w_BAD_REQUEST w_UNAUTHORIZED w_FORBIDDEN w_NOT_FOUND w_GONE w_TIMED_OUT w_PAYLOAD_TOO_LARGE w_BUSY w_REDIRECTED w_SERVER_ERROR w_FAILED w_SOCKET_ERROR w_RESOLUTION_ERROR w_PROBATION h31 n0 (own_old_le O31) ST O31) hZ (ww37 hw) (ww3 hw) (by decide) (by decide))
    obtain ⟨_, _, ⟨T228, L228, k228, n228⟩, -, X228, ⟨Lc228, hQ228, l228, y228, z228⟩, st228⟩ := Jvm.LawKit.callS X225 hx (y := y_0) hown (mvT hZ (ww35 hw)) (mvT hZ (ww36 hw)) (mvT hZ (ww3 hw)) (mvT hZ (ww37 hw)) (by decide) hK228 (g := (mkF m 149 ls227 [(.int 413)])) rfl (by rw [hml, hls227]; rfl) (argsL := [(.int 413)]) (rest := []) (lenOf pd_1 rfl) rfl (by show 2 * 0 + _ ≤ _; exact Nat.le_of_eq rfl) (hb hby at_149) (fun _ _ => ⟨rfl, e225, (by decide : 1 + 0 ≤ _), (by decide : 15 + 0 ≤ _)⟩)
    dsimp only [Pt.U, Pt.locs, Pt.cells, Pt.slots] at X228 l228 y228 z228 st228 hQ228
    subst l228 y228 z228
    obtain ⟨rfl, N228q, e228⟩ := hQ228
    have N228 := Fr.app N225 N228q
    obtain ⟨lc228, X228, N228⟩ := own_gen X228 N228
    refine step (fun t k => st228 t k) ?_
    show G T228 (mkF m 152 ls227 [(.ref (f_of413 w_DELIVERED w_BAD_REQUEST w_UNAUTHORIZED w_FORBIDDEN w_NOT_FOUND w_GONE w_TIMED_OUT w_PAYLOAD_TOO_LARGE w_BUSY w_REDIRECTED w_SERVER_ERROR w_FAILED w_SOCKET_ERROR w_RESOLUTION_ERROR w_PROBATION))])
    have r229 : (f_of413 w_DELIVERED w_BAD_REQUEST w_UNAUTHORIZED w_FORBIDDEN w_NOT_FOUND w_GONE w_TIMED_OUT w_PAYLOAD_TOO_LARGE w_BUSY w_REDIRECTED w_SERVER_ERROR w_FAILED w_SOCKET_ERROR w_RESOLUTION_ERROR w_PROBATION) = w_PAYLOAD_TOO_LARGE := rfl
    rw [r229]
    show G T228 (mkF m 152 ls227 [(.ref w_PAYLOAD_TOO_LARGE)])
    obtain ⟨ls230, hls230⟩  := own_sl #[.val (.int p0), .val (.ref b1), .val (.ref w_REDIRECTED), .val (.ref w_BAD_REQUEST), .val (.ref w_UNAUTHORIZED), .val (.ref w_FORBIDDEN), .val (.ref w_GONE), .val (.ref w_PAYLOAD_TOO_LARGE), .unset]
    refine step (fun t k => XS.astore X228.here hx rfl (hb hby at_152) rfl rfl (l' := ls230) (by rw [hls227, hls230]; rfl) k) ?_
    show G T228 (mkF m 154 ls230 [])
    refine step (fun t k => XS.aloadN X228.here hx rfl (hb hby at_154) (by rw [hls230]; rfl) rfl k) ?_
    show G T228 (mkF m 155 ls230 [(.ref w_REDIRECTED)])
    refine step (fun t k => XS.aloadN X228.here hx rfl (hb hby at_155) (by rw [hls230]; rfl) rfl k) ?_
    show G T228 (mkF m 156 ls230 [(.ref w_BAD_REQUEST), (.ref w_REDIRECTED)])
    refine step (fun t k => Jvm.RoadKit.acmp X228 hx rfl rfl rfl (pc0 := 156) (pc' := 159) (same := false) rfl (hb hby at_156) rfl (decide_eq_false fun q => (Fld.ne ST.k44 ST.k31 (fun q => absurd (Value.int.inj q) (by decide))) (Value.ref.inj q)) (by decide) (by decide) k) ?_
    show G T228 (mkF m 159 ls230 [])
    refine step (fun t k => XS.aloadN X228.here hx rfl (hb hby at_159) (by rw [hls230]; rfl) rfl k) ?_
    show G T228 (mkF m 160 ls230 [(.ref w_REDIRECTED)])
    refine step (fun t k => XS.aload X228.here hx rfl (hb hby at_160) (by rw [hls230]; rfl) rfl k) ?_
    show G T228 (mkF m 162 ls230 [(.ref w_UNAUTHORIZED), (.ref w_REDIRECTED)])
    refine step (fun t k => Jvm.RoadKit.acmp X228 hx rfl rfl rfl (pc0 := 162) (pc' := 165) (same := false) rfl (hb hby at_162) rfl (decide_eq_false fun q => (Fld.ne ST.k44 ST.k32 (fun q => absurd (Value.int.inj q) (by decide))) (Value.ref.inj q)) (by decide) (by decide) k) ?_
    show G T228 (mkF m 165 ls230 [])
    refine step (fun t k => XS.aloadN X228.here hx rfl (hb hby at_165) (by rw [hls230]; rfl) rfl k) ?_
    show G T228 (mkF m 166 ls230 [(.ref w_REDIRECTED)])
    refine step (fun t k => XS.aload X228.here hx rfl (hb hby at_166) (by rw [hls230]; rfl) rfl k) ?_
    show G T228 (mkF m 168 ls230 [(.ref w_FORBIDDEN), (.ref w_REDIRECTED)])
    refine step (fun t k => Jvm.RoadKit.acmp X228 hx rfl rfl rfl (pc0 := 168) (pc' := 171) (same := false) rfl (hb hby at_168) rfl (decide_eq_false fun q => (Fld.ne ST.k44 ST.k33 (fun q => absurd (Value.int.inj q) (by decide))) (Value.ref.inj q)) (by decide) (by decide) k) ?_
    show G T228 (mkF m 171 ls230 [])
    refine step (fun t k => XS.aloadN X228.here hx rfl (hb hby at_171) (by rw [hls230]; rfl) rfl k) ?_
    show G T228 (mkF m 172 ls230 [(.ref w_REDIRECTED)])
    refine step (fun t k => XS.aload X228.here hx rfl (hb hby at_172) (by rw [hls230]; rfl) rfl k) ?_
    show G T228 (mkF m 174 ls230 [(.ref w_GONE), (.ref w_REDIRECTED)])
    refine step (fun t k => Jvm.RoadKit.acmp X228 hx rfl rfl rfl (pc0 := 174) (pc' := 177) (same := false) rfl (hb hby at_174) rfl (decide_eq_false fun q => (Fld.ne ST.k44 ST.k34 (fun q => absurd (Value.int.inj q) (by decide))) (Value.ref.inj q)) (by decide) (by decide) k) ?_
    show G T228 (mkF m 177 ls230 [])
    refine step (fun t k => XS.aloadN X228.here hx rfl (hb hby at_177) (by rw [hls230]; rfl) rfl k) ?_
    show G T228 (mkF m 178 ls230 [(.ref w_REDIRECTED)])
    refine step (fun t k => XS.aload X228.here hx rfl (hb hby at_178) (by rw [hls230]; rfl) rfl k) ?_
    show G T228 (mkF m 180 ls230 [(.ref w_PAYLOAD_TOO_LARGE), (.ref w_REDIRECTED)])
    refine step (fun t k => Jvm.RoadKit.acmp X228 hx rfl rfl rfl (pc0 := 180) (pc' := 187) (same := false) rfl (hb hby at_180) rfl (decide_eq_false fun q => (Fld.ne ST.k44 ST.k35 (fun q => absurd (Value.int.inj q) (by decide))) (Value.ref.inj q)) (by decide) (by decide) k) ?_
    show G T228 (mkF m 187 ls230 [])
    refine step (fun t k => XS.iconst X228.here hx rfl (hb hby at_187) k) ?_
    show G T228 (mkF m 188 ls230 [(.int 0)])
    obtain ⟨ls231, hls231⟩  := own_sl #[.val (.int p0), .val (.ref b1), .val (.ref w_REDIRECTED), .val (.ref w_BAD_REQUEST), .val (.ref w_UNAUTHORIZED), .val (.ref w_FORBIDDEN), .val (.ref w_GONE), .val (.ref w_PAYLOAD_TOO_LARGE), .val (.int 0)]
    refine step (fun t k => XS.istore X228.here hx rfl (hb hby at_188) rfl (l' := ls231) (by rw [hls230, hls231]; rfl) k) ?_
    show G T228 (mkF m 190 ls231 [])
    refine step (fun t k => XS.aloadN X228.here hx rfl (hb hby at_190) (by rw [hls231]; rfl) rfl k) ?_
    show G T228 (mkF m 191 ls231 [(.ref w_REDIRECTED)])
    have hK232 := (backOf (R := room_1) (p := p) (e := e) (below := below) (s := s) (args := #[(.int p0)]) (len := 3) (W := 0) (rm_retr l Z a0 hw [] w_DELIVERED w_BAD_REQUEST w_UNAUTHORIZED w_FORBIDDEN w_NOT_FOUND w_GONE w_TIMED_OUT w_PAYLOAD_TOO_LARGE w_BUSY w_REDIRECTED w_SERVER_ERROR w_FAILED w_SOCKET_ERROR w_RESOLUTION_ERROR w_PROBATION w_REDIRECTED (9 : Int32) h31 n0 (own_old_le O31) ST O31 (Exa.ext O31.2 ST.k19) (Fld.ext O31.2 ST.k44)) hZ (ww47 hw) (ww3 hw) (by decide) (by decide))
    obtain ⟨cq232, kq232, q232a, q232b, q232c⟩ := isOf hZ e228 (Exa.ext O31.2 ST.k19)
    obtain ⟨_, _, ⟨T232, L232, k232, n232⟩, -, X232, ⟨Lc232, hQ232, l232, y232, z232⟩, st232⟩ := X228.virtualBack hx (y := y_3) (z := y_3) hown (mvT hZ (ww43 hw)) (mvT hZ (ww44 hw)) (notFace_of_selects (args := #[]) (mvT hZ (ww46 hw))) (mvT hZ (ww46 hw)) (mvT hZ (ww45 hw)) (by decide) hK232 q232a q232c (g := (mkF m 191 ls231 [(.ref w_REDIRECTED)])) rfl (by rw [hml, hls231]; rfl) (Steps.refl _) (argsL := []) (rest := []) (lenOf pd_2 rfl) rfl (by show 2 * 0 + _ ≤ _; exact Nat.le_of_eq rfl) (hb hby at_191) (fun _ _ => ⟨rfl, e228, (by decide : 1 + 0 ≤ _), (by decide : 15 + 0 ≤ _)⟩)
    dsimp only [Pt.U, Pt.locs, Pt.cells, Pt.slots] at X232 l232 y232 z232 st232 hQ232
    subst l232 y232 z232
    obtain ⟨rfl, N232q, e232⟩ := hQ232
    have N232 := Fr.app N228 N232q
    obtain ⟨lc232, X232, N232⟩ := own_gen X232 N232
    refine step (fun t k => st232.trans k) ?_
    show G T232 (mkF m 194 ls231 [(.int (f_retr w_DELIVERED w_BAD_REQUEST w_UNAUTHORIZED w_FORBIDDEN w_NOT_FOUND w_GONE w_TIMED_OUT w_PAYLOAD_TOO_LARGE w_BUSY w_REDIRECTED w_SERVER_ERROR w_FAILED w_SOCKET_ERROR w_RESOLUTION_ERROR w_PROBATION w_REDIRECTED (9 : Int32)))])
    have r233 : (f_retr w_DELIVERED w_BAD_REQUEST w_UNAUTHORIZED w_FORBIDDEN w_NOT_FOUND w_GONE w_TIMED_OUT w_PAYLOAD_TOO_LARGE w_BUSY w_REDIRECTED w_SERVER_ERROR w_FAILED w_SOCKET_ERROR w_RESOLUTION_ERROR w_PROBATION w_REDIRECTED (9 : Int32)) = (1 : Int32) := by
      unfold f_retr
      rw [if_neg (by decide : ¬ ((9 : Int32) = (1 : Int32))), if_neg (by decide : ¬ ((9 : Int32) = (2 : Int32))), if_neg (by decide : ¬ ((9 : Int32) = (3 : Int32))), if_neg (by decide : ¬ ((9 : Int32) = (4 : Int32))), if_neg (by decide : ¬ ((9 : Int32) = (5 : Int32))), if_neg (by decide : ¬ ((9 : Int32) = (6 : Int32))), if_neg (by decide : ¬ ((9 : Int32) = (7 : Int32)))]
    rw [r233]
    show G T232 (mkF m 194 ls231 [(.int 1)])
    refine step (fun t k => XS.iload X232.here hx rfl (hb hby at_194) (by rw [hls231]; rfl) k) ?_
    show G T232 (mkF m 196 ls231 [(.int 0), (.int 1)])
    refine step (fun t k => XS.ifNo X232.here hx rfl (hb hby at_196) rfl ((if0 _ _).trans (teq (by decide : (0 : Int32) = (0 : Int32))).2) k) ?_
    show G T232 (mkF m 199 ls231 [(.int 1)])
    refine step (fun t k => XS.iconst X232.here hx rfl (hb hby at_199) k) ?_
    show G T232 (mkF m 200 ls231 [(.int 1), (.int 1)])
    refine step (fun t k => XS.goto X232.here hx rfl (pc0 := 200) (pc' := 204) rfl (hb hby at_200) (by decide) (by decide) k) ?_
    show G T232 (mkF m 204 ls231 [(.int 1), (.int 1)])
    refine step (fun t k => XS.icmpNo X232.here hx rfl (hb hby at_204) rfl (teq (by decide : (1 : Int32) = (1 : Int32))).2 k) ?_
    show G T232 (mkF m 207 ls231 [])
    refine step (fun t k => XS.iconst X232.here hx rfl (hb hby at_207) k) ?_
    show G T232 (mkF m 208 ls231 [(.int 1)])
    refine step (fun t k => XS.goto X232.here hx rfl (pc0 := 208) (pc' := 212) rfl (hb hby at_208) (by decide) (by decide) k) ?_
    show G T232 (mkF m 212 ls231 [(.int 1)])
    exact ret (v := some (.int 1)) X232 (fun h => by rw [Bd.returns] at h; cases h) (fun fs hr => retN X232 hx (t := .boolean) Bd.returns (by simp) (hb hby at_212) hr) e232 ⟨rfl, N232⟩ (by decide) (by decide)
  · rw [hk]
    show G T31 (mkF m 113 ls32 [(.int 10), (.ref b1)])
    have q234 := own_ldR X31 hx hZ e31 V31 (j := (10 : Int32)) (v := (.ref w_SERVER_ERROR)) (by decide) (own_at (i := 10) rfl rfl) rfl (g := (mkF m 113 ls32 [(.int 10), (.ref b1)])) rfl rfl (hb hby at_113)
    refine step q234 ?_
    show G T31 (mkF m 114 ls32 [(.ref w_SERVER_ERROR)])
    obtain ⟨ls235, hls235⟩  := own_sl #[.val (.int p0), .val (.ref b1), .val (.ref w_SERVER_ERROR), .unset, .unset, .unset, .unset, .unset, .unset]
    refine step (fun t k => XS.astoreN X31.here hx rfl (hb hby at_114) rfl rfl (l' := ls235) (by rw [hls32, hls235]; rfl) k) ?_
    show G T31 (mkF m 115 ls235 [])
    refine step (fun t k => XS.sipush X31.here hx rfl (hb hby at_115) k) ?_
    show G T31 (mkF m 118 ls235 [(.int 400)])
    have hK236 := (backOf (R := room_1) (p := p) (e := e) (below := below) (s := s) (args := #[(.int p0)]) (len := 3) (W := 0) (rm_of400 l Z a0 hw [] w_DELIVERED w_BAD_REQUEST w_UNAUTHORIZED w_FORBIDDEN w_NOT_FOUND w_GONE w_TIMED_OUT w_PAYLOAD_TOO_LARGE w_BUSY w_REDIRECTED w_SERVER_ERROR w_FAILED w_SOCKET_ERROR w_RESOLUTION_ERROR w_PROBATION h31 n0 (own_old_le O31) ST O31) hZ (ww37 hw) (ww3 hw) (by decide) (by decide))
    obtain ⟨_, _, ⟨T236, L236, k236, n236⟩, -, X236, ⟨Lc236, hQ236, l236, y236, z236⟩, st236⟩ := Jvm.LawKit.callS X31 hx (y := y_0) hown (mvT hZ (ww35 hw)) (mvT hZ (ww36 hw)) (mvT hZ (ww3 hw)) (mvT hZ (ww37 hw)) (by decide) hK236 (g := (mkF m 118 ls235 [(.int 400)])) rfl (by rw [hml, hls235]; rfl) (argsL := [(.int 400)]) (rest := []) (lenOf pd_1 rfl) rfl (by show 2 * 0 + _ ≤ _; exact Nat.le_of_eq rfl) (hb hby at_118) (fun _ _ => ⟨rfl, e31, (by decide : 1 + 0 ≤ _), (by decide : 15 + 0 ≤ _)⟩)
    dsimp only [Pt.U, Pt.locs, Pt.cells, Pt.slots] at X236 l236 y236 z236 st236 hQ236
    subst l236 y236 z236
    obtain ⟨rfl, N236q, e236⟩ := hQ236
    have N236 := Fr.app N31 N236q
    obtain ⟨lc236, X236, N236⟩ := own_gen X236 N236
    refine step (fun t k => st236 t k) ?_
    show G T236 (mkF m 121 ls235 [(.ref (f_of400 w_DELIVERED w_BAD_REQUEST w_UNAUTHORIZED w_FORBIDDEN w_NOT_FOUND w_GONE w_TIMED_OUT w_PAYLOAD_TOO_LARGE w_BUSY w_REDIRECTED w_SERVER_ERROR w_FAILED w_SOCKET_ERROR w_RESOLUTION_ERROR w_PROBATION))])
    have r237 : (f_of400 w_DELIVERED w_BAD_REQUEST w_UNAUTHORIZED w_FORBIDDEN w_NOT_FOUND w_GONE w_TIMED_OUT w_PAYLOAD_TOO_LARGE w_BUSY w_REDIRECTED w_SERVER_ERROR w_FAILED w_SOCKET_ERROR w_RESOLUTION_ERROR w_PROBATION) = w_BAD_REQUEST := rfl
    rw [r237]
    show G T236 (mkF m 121 ls235 [(.ref w_BAD_REQUEST)])
    obtain ⟨ls238, hls238⟩  := own_sl #[.val (.int p0), .val (.ref b1), .val (.ref w_SERVER_ERROR), .val (.ref w_BAD_REQUEST), .unset, .unset, .unset, .unset, .unset]
    refine step (fun t k => XS.astoreN X236.here hx rfl (hb hby at_121) rfl rfl (l' := ls238) (by rw [hls235, hls238]; rfl) k) ?_
    show G T236 (mkF m 122 ls238 [])
    refine step (fun t k => XS.sipush X236.here hx rfl (hb hby at_122) k) ?_
    show G T236 (mkF m 125 ls238 [(.int 401)])
    have hK239 := (backOf (R := room_1) (p := p) (e := e) (below := below) (s := s) (args := #[(.int p0)]) (len := 3) (W := 0) (rm_of401 l Z a0 hw [] w_DELIVERED w_BAD_REQUEST w_UNAUTHORIZED w_FORBIDDEN w_NOT_FOUND w_GONE w_TIMED_OUT w_PAYLOAD_TOO_LARGE w_BUSY w_REDIRECTED w_SERVER_ERROR w_FAILED w_SOCKET_ERROR w_RESOLUTION_ERROR w_PROBATION h31 n0 (own_old_le O31) ST O31) hZ (ww37 hw) (ww3 hw) (by decide) (by decide))
    obtain ⟨_, _, ⟨T239, L239, k239, n239⟩, -, X239, ⟨Lc239, hQ239, l239, y239, z239⟩, st239⟩ := Jvm.LawKit.callS X236 hx (y := y_0) hown (mvT hZ (ww35 hw)) (mvT hZ (ww36 hw)) (mvT hZ (ww3 hw)) (mvT hZ (ww37 hw)) (by decide) hK239 (g := (mkF m 125 ls238 [(.int 401)])) rfl (by rw [hml, hls238]; rfl) (argsL := [(.int 401)]) (rest := []) (lenOf pd_1 rfl) rfl (by show 2 * 0 + _ ≤ _; exact Nat.le_of_eq rfl) (hb hby at_125) (fun _ _ => ⟨rfl, e236, (by decide : 1 + 0 ≤ _), (by decide : 15 + 0 ≤ _)⟩)
    dsimp only [Pt.U, Pt.locs, Pt.cells, Pt.slots] at X239 l239 y239 z239 st239 hQ239
    subst l239 y239 z239
    obtain ⟨rfl, N239q, e239⟩ := hQ239
    have N239 := Fr.app N236 N239q
    obtain ⟨lc239, X239, N239⟩ := own_gen X239 N239
    refine step (fun t k => st239 t k) ?_
    show G T239 (mkF m 128 ls238 [(.ref (f_of401 w_DELIVERED w_BAD_REQUEST w_UNAUTHORIZED w_FORBIDDEN w_NOT_FOUND w_GONE w_TIMED_OUT w_PAYLOAD_TOO_LARGE w_BUSY w_REDIRECTED w_SERVER_ERROR w_FAILED w_SOCKET_ERROR w_RESOLUTION_ERROR w_PROBATION))])
    have r240 : (f_of401 w_DELIVERED w_BAD_REQUEST w_UNAUTHORIZED w_FORBIDDEN w_NOT_FOUND w_GONE w_TIMED_OUT w_PAYLOAD_TOO_LARGE w_BUSY w_REDIRECTED w_SERVER_ERROR w_FAILED w_SOCKET_ERROR w_RESOLUTION_ERROR w_PROBATION) = w_UNAUTHORIZED := rfl
    rw [r240]
    show G T239 (mkF m 128 ls238 [(.ref w_UNAUTHORIZED)])
    obtain ⟨ls241, hls241⟩  := own_sl #[.val (.int p0), .val (.ref b1), .val (.ref w_SERVER_ERROR), .val (.ref w_BAD_REQUEST), .val (.ref w_UNAUTHORIZED), .unset, .unset, .unset, .unset]
    refine step (fun t k => XS.astore X239.here hx rfl (hb hby at_128) rfl rfl (l' := ls241) (by rw [hls238, hls241]; rfl) k) ?_
    show G T239 (mkF m 130 ls241 [])
    refine step (fun t k => XS.sipush X239.here hx rfl (hb hby at_130) k) ?_
    show G T239 (mkF m 133 ls241 [(.int 403)])
    have hK242 := (backOf (R := room_1) (p := p) (e := e) (below := below) (s := s) (args := #[(.int p0)]) (len := 3) (W := 0) (rm_of403 l Z a0 hw [] w_DELIVERED w_BAD_REQUEST w_UNAUTHORIZED w_FORBIDDEN w_NOT_FOUND w_GONE w_TIMED_OUT w_PAYLOAD_TOO_LARGE w_BUSY w_REDIRECTED w_SERVER_ERROR w_FAILED w_SOCKET_ERROR w_RESOLUTION_ERROR w_PROBATION h31 n0 (own_old_le O31) ST O31) hZ (ww37 hw) (ww3 hw) (by decide) (by decide))
    obtain ⟨_, _, ⟨T242, L242, k242, n242⟩, -, X242, ⟨Lc242, hQ242, l242, y242, z242⟩, st242⟩ := Jvm.LawKit.callS X239 hx (y := y_0) hown (mvT hZ (ww35 hw)) (mvT hZ (ww36 hw)) (mvT hZ (ww3 hw)) (mvT hZ (ww37 hw)) (by decide) hK242 (g := (mkF m 133 ls241 [(.int 403)])) rfl (by rw [hml, hls241]; rfl) (argsL := [(.int 403)]) (rest := []) (lenOf pd_1 rfl) rfl (by show 2 * 0 + _ ≤ _; exact Nat.le_of_eq rfl) (hb hby at_133) (fun _ _ => ⟨rfl, e239, (by decide : 1 + 0 ≤ _), (by decide : 15 + 0 ≤ _)⟩)
    dsimp only [Pt.U, Pt.locs, Pt.cells, Pt.slots] at X242 l242 y242 z242 st242 hQ242
    subst l242 y242 z242
    obtain ⟨rfl, N242q, e242⟩ := hQ242
    have N242 := Fr.app N239 N242q
    obtain ⟨lc242, X242, N242⟩ := own_gen X242 N242
    refine step (fun t k => st242 t k) ?_
    show G T242 (mkF m 136 ls241 [(.ref (f_of403 w_DELIVERED w_BAD_REQUEST w_UNAUTHORIZED w_FORBIDDEN w_NOT_FOUND w_GONE w_TIMED_OUT w_PAYLOAD_TOO_LARGE w_BUSY w_REDIRECTED w_SERVER_ERROR w_FAILED w_SOCKET_ERROR w_RESOLUTION_ERROR w_PROBATION))])
    have r243 : (f_of403 w_DELIVERED w_BAD_REQUEST w_UNAUTHORIZED w_FORBIDDEN w_NOT_FOUND w_GONE w_TIMED_OUT w_PAYLOAD_TOO_LARGE w_BUSY w_REDIRECTED w_SERVER_ERROR w_FAILED w_SOCKET_ERROR w_RESOLUTION_ERROR w_PROBATION) = w_FORBIDDEN := rfl
    rw [r243]
    show G T242 (mkF m 136 ls241 [(.ref w_FORBIDDEN)])
    obtain ⟨ls244, hls244⟩  := own_sl #[.val (.int p0), .val (.ref b1), .val (.ref w_SERVER_ERROR), .val (.ref w_BAD_REQUEST), .val (.ref w_UNAUTHORIZED), .val (.ref w_FORBIDDEN), .unset, .unset, .unset]
    refine step (fun t k => XS.astore X242.here hx rfl (hb hby at_136) rfl rfl (l' := ls244) (by rw [hls241, hls244]; rfl) k) ?_
    show G T242 (mkF m 138 ls244 [])
    refine step (fun t k => XS.sipush X242.here hx rfl (hb hby at_138) k) ?_
    show G T242 (mkF m 141 ls244 [(.int 410)])
    have hK245 := (backOf (R := room_1) (p := p) (e := e) (below := below) (s := s) (args := #[(.int p0)]) (len := 3) (W := 0) (rm_of410 l Z a0 hw [] w_DELIVERED w_BAD_REQUEST w_UNAUTHORIZED w_FORBIDDEN w_NOT_FOUND w_GONE w_TIMED_OUT w_PAYLOAD_TOO_LARGE w_BUSY w_REDIRECTED w_SERVER_ERROR w_FAILED w_SOCKET_ERROR w_RESOLUTION_ERROR w_PROBATION h31 n0 (own_old_le O31) ST O31) hZ (ww37 hw) (ww3 hw) (by decide) (by decide))
    obtain ⟨_, _, ⟨T245, L245, k245, n245⟩, -, X245, ⟨Lc245, hQ245, l245, y245, z245⟩, st245⟩ := Jvm.LawKit.callS X242 hx (y := y_0) hown (mvT hZ (ww35 hw)) (mvT hZ (ww36 hw)) (mvT hZ (ww3 hw)) (mvT hZ (ww37 hw)) (by decide) hK245 (g := (mkF m 141 ls244 [(.int 410)])) rfl (by rw [hml, hls244]; rfl) (argsL := [(.int 410)]) (rest := []) (lenOf pd_1 rfl) rfl (by show 2 * 0 + _ ≤ _; exact Nat.le_of_eq rfl) (hb hby at_141) (fun _ _ => ⟨rfl, e242, (by decide : 1 + 0 ≤ _), (by decide : 15 + 0 ≤ _)⟩)
    dsimp only [Pt.U, Pt.locs, Pt.cells, Pt.slots] at X245 l245 y245 z245 st245 hQ245
    subst l245 y245 z245
    obtain ⟨rfl, N245q, e245⟩ := hQ245
    have N245 := Fr.app N242 N245q
    obtain ⟨lc245, X245, N245⟩ := own_gen X245 N245
    refine step (fun t k => st245 t k) ?_
    show G T245 (mkF m 144 ls244 [(.ref (f_of410 w_DELIVERED w_BAD_REQUEST w_UNAUTHORIZED w_FORBIDDEN w_NOT_FOUND w_GONE w_TIMED_OUT w_PAYLOAD_TOO_LARGE w_BUSY w_REDIRECTED w_SERVER_ERROR w_FAILED w_SOCKET_ERROR w_RESOLUTION_ERROR w_PROBATION))])
    have r246 : (f_of410 w_DELIVERED w_BAD_REQUEST w_UNAUTHORIZED w_FORBIDDEN w_NOT_FOUND w_GONE w_TIMED_OUT w_PAYLOAD_TOO_LARGE w_BUSY w_REDIRECTED w_SERVER_ERROR w_FAILED w_SOCKET_ERROR w_RESOLUTION_ERROR w_PROBATION) = w_GONE := rfl
    rw [r246]
    show G T245 (mkF m 144 ls244 [(.ref w_GONE)])
    obtain ⟨ls247, hls247⟩  := own_sl #[.val (.int p0), .val (.ref b1), .val (.ref w_SERVER_ERROR), .val (.ref w_BAD_REQUEST), .val (.ref w_UNAUTHORIZED), .val (.ref w_FORBIDDEN), .val (.ref w_GONE), .unset, .unset]
    refine step (fun t k => XS.astore X245.here hx rfl (hb hby at_144) rfl rfl (l' := ls247) (by rw [hls244, hls247]; rfl) k) ?_
    show G T245 (mkF m 146 ls247 [])
    refine step (fun t k => XS.sipush X245.here hx rfl (hb hby at_146) k) ?_
    show G T245 (mkF m 149 ls247 [(.int 413)])
    have hK248 := (backOf (R := room_1) (p := p) (e := e) (below := below) (s := s) (args := #[(.int p0)]) (len := 3) (W := 0) (rm_of413 l Z a0 hw [] w_DELIVERED w_BAD_REQUEST w_UNAUTHORIZED w_FORBIDDEN w_NOT_FOUND w_GONE w_TIMED_OUT w_PAYLOAD_TOO_LARGE w_BUSY w_REDIRECTED w_SERVER_ERROR w_FAILED w_SOCKET_ERROR w_RESOLUTION_ERROR w_PROBATION h31 n0 (own_old_le O31) ST O31) hZ (ww37 hw) (ww3 hw) (by decide) (by decide))
    obtain ⟨_, _, ⟨T248, L248, k248, n248⟩, -, X248, ⟨Lc248, hQ248, l248, y248, z248⟩, st248⟩ := Jvm.LawKit.callS X245 hx (y := y_0) hown (mvT hZ (ww35 hw)) (mvT hZ (ww36 hw)) (mvT hZ (ww3 hw)) (mvT hZ (ww37 hw)) (by decide) hK248 (g := (mkF m 149 ls247 [(.int 413)])) rfl (by rw [hml, hls247]; rfl) (argsL := [(.int 413)]) (rest := []) (lenOf pd_1 rfl) rfl (by show 2 * 0 + _ ≤ _; exact Nat.le_of_eq rfl) (hb hby at_149) (fun _ _ => ⟨rfl, e245, (by decide : 1 + 0 ≤ _), (by decide : 15 + 0 ≤ _)⟩)
    dsimp only [Pt.U, Pt.locs, Pt.cells, Pt.slots] at X248 l248 y248 z248 st248 hQ248
    subst l248 y248 z248
    obtain ⟨rfl, N248q, e248⟩ := hQ248
    have N248 := Fr.app N245 N248q
    obtain ⟨lc248, X248, N248⟩ := own_gen X248 N248
    refine step (fun t k => st248 t k) ?_
    show G T248 (mkF m 152 ls247 [(.ref (f_of413 w_DELIVERED w_BAD_REQUEST w_UNAUTHORIZED w_FORBIDDEN w_NOT_FOUND w_GONE w_TIMED_OUT w_PAYLOAD_TOO_LARGE w_BUSY w_REDIRECTED w_SERVER_ERROR w_FAILED w_SOCKET_ERROR w_RESOLUTION_ERROR w_PROBATION))])
    have r249 : (f_of413 w_DELIVERED w_BAD_REQUEST w_UNAUTHORIZED w_FORBIDDEN w_NOT_FOUND w_GONE w_TIMED_OUT w_PAYLOAD_TOO_LARGE w_BUSY w_REDIRECTED w_SERVER_ERROR w_FAILED w_SOCKET_ERROR w_RESOLUTION_ERROR w_PROBATION) = w_PAYLOAD_TOO_LARGE := rfl
    rw [r249]
    show G T248 (mkF m 152 ls247 [(.ref w_PAYLOAD_TOO_LARGE)])
    obtain ⟨ls250, hls250⟩  := own_sl #[.val (.int p0), .val (.ref b1), .val (.ref w_SERVER_ERROR), .val (.ref w_BAD_REQUEST), .val (.ref w_UNAUTHORIZED), .val (.ref w_FORBIDDEN), .val (.ref w_GONE), .val (.ref w_PAYLOAD_TOO_LARGE), .unset]
    refine step (fun t k => XS.astore X248.here hx rfl (hb hby at_152) rfl rfl (l' := ls250) (by rw [hls247, hls250]; rfl) k) ?_
    show G T248 (mkF m 154 ls250 [])
    refine step (fun t k => XS.aloadN X248.here hx rfl (hb hby at_154) (by rw [hls250]; rfl) rfl k) ?_
    show G T248 (mkF m 155 ls250 [(.ref w_SERVER_ERROR)])
    refine step (fun t k => XS.aloadN X248.here hx rfl (hb hby at_155) (by rw [hls250]; rfl) rfl k) ?_
    show G T248 (mkF m 156 ls250 [(.ref w_BAD_REQUEST), (.ref w_SERVER_ERROR)])
    refine step (fun t k => Jvm.RoadKit.acmp X248 hx rfl rfl rfl (pc0 := 156) (pc' := 159) (same := false) rfl (hb hby at_156) rfl (decide_eq_false fun q => (Fld.ne ST.k40 ST.k31 (fun q => absurd (Value.int.inj q) (by decide))) (Value.ref.inj q)) (by decide) (by decide) k) ?_
    show G T248 (mkF m 159 ls250 [])
    refine step (fun t k => XS.aloadN X248.here hx rfl (hb hby at_159) (by rw [hls250]; rfl) rfl k) ?_
    show G T248 (mkF m 160 ls250 [(.ref w_SERVER_ERROR)])
    refine step (fun t k => XS.aload X248.here hx rfl (hb hby at_160) (by rw [hls250]; rfl) rfl k) ?_
    show G T248 (mkF m 162 ls250 [(.ref w_UNAUTHORIZED), (.ref w_SERVER_ERROR)])
    refine step (fun t k => Jvm.RoadKit.acmp X248 hx rfl rfl rfl (pc0 := 162) (pc' := 165) (same := false) rfl (hb hby at_162) rfl (decide_eq_false fun q => (Fld.ne ST.k40 ST.k32 (fun q => absurd (Value.int.inj q) (by decide))) (Value.ref.inj q)) (by decide) (by decide) k) ?_
    show G T248 (mkF m 165 ls250 [])
    refine step (fun t k => XS.aloadN X248.here hx rfl (hb hby at_165) (by rw [hls250]; rfl) rfl k) ?_
    show G T248 (mkF m 166 ls250 [(.ref w_SERVER_ERROR)])
    refine step (fun t k => XS.aload X248.here hx rfl (hb hby at_166) (by rw [hls250]; rfl) rfl k) ?_
    show G T248 (mkF m 168 ls250 [(.ref w_FORBIDDEN), (.ref w_SERVER_ERROR)])
    refine step (fun t k => Jvm.RoadKit.acmp X248 hx rfl rfl rfl (pc0 := 168) (pc' := 171) (same := false) rfl (hb hby at_168) rfl (decide_eq_false fun q => (Fld.ne ST.k40 ST.k33 (fun q => absurd (Value.int.inj q) (by decide))) (Value.ref.inj q)) (by decide) (by decide) k) ?_
    show G T248 (mkF m 171 ls250 [])
    refine step (fun t k => XS.aloadN X248.here hx rfl (hb hby at_171) (by rw [hls250]; rfl) rfl k) ?_
    show G T248 (mkF m 172 ls250 [(.ref w_SERVER_ERROR)])
    refine step (fun t k => XS.aload X248.here hx rfl (hb hby at_172) (by rw [hls250]; rfl) rfl k) ?_
    show G T248 (mkF m 174 ls250 [(.ref w_GONE), (.ref w_SERVER_ERROR)])
    refine step (fun t k => Jvm.RoadKit.acmp X248 hx rfl rfl rfl (pc0 := 174) (pc' := 177) (same := false) rfl (hb hby at_174) rfl (decide_eq_false fun q => (Fld.ne ST.k40 ST.k34 (fun q => absurd (Value.int.inj q) (by decide))) (Value.ref.inj q)) (by decide) (by decide) k) ?_
    show G T248 (mkF m 177 ls250 [])
    refine step (fun t k => XS.aloadN X248.here hx rfl (hb hby at_177) (by rw [hls250]; rfl) rfl k) ?_
    show G T248 (mkF m 178 ls250 [(.ref w_SERVER_ERROR)])
    refine step (fun t k => XS.aload X248.here hx rfl (hb hby at_178) (by rw [hls250]; rfl) rfl k) ?_
    show G T248 (mkF m 180 ls250 [(.ref w_PAYLOAD_TOO_LARGE), (.ref w_SERVER_ERROR)])
    refine step (fun t k => Jvm.RoadKit.acmp X248 hx rfl rfl rfl (pc0 := 180) (pc' := 187) (same := false) rfl (hb hby at_180) rfl (decide_eq_false fun q => (Fld.ne ST.k40 ST.k35 (fun q => absurd (Value.int.inj q) (by decide))) (Value.ref.inj q)) (by decide) (by decide) k) ?_
    show G T248 (mkF m 187 ls250 [])
    refine step (fun t k => XS.iconst X248.here hx rfl (hb hby at_187) k) ?_
    show G T248 (mkF m 188 ls250 [(.int 0)])
    obtain ⟨ls251, hls251⟩  := own_sl #[.val (.int p0), .val (.ref b1), .val (.ref w_SERVER_ERROR), .val (.ref w_BAD_REQUEST), .val (.ref w_UNAUTHORIZED), .val (.ref w_FORBIDDEN), .val (.ref w_GONE), .val (.ref w_PAYLOAD_TOO_LARGE), .val (.int 0)]
    refine step (fun t k => XS.istore X248.here hx rfl (hb hby at_188) rfl (l' := ls251) (by rw [hls250, hls251]; rfl) k) ?_
    show G T248 (mkF m 190 ls251 [])
    refine step (fun t k => XS.aloadN X248.here hx rfl (hb hby at_190) (by rw [hls251]; rfl) rfl k) ?_
    show G T248 (mkF m 191 ls251 [(.ref w_SERVER_ERROR)])
    have hK252 := (backOf (R := room_1) (p := p) (e := e) (below := below) (s := s) (args := #[(.int p0)]) (len := 3) (W := 0) (rm_retr l Z a0 hw [] w_DELIVERED w_BAD_REQUEST w_UNAUTHORIZED w_FORBIDDEN w_NOT_FOUND w_GONE w_TIMED_OUT w_PAYLOAD_TOO_LARGE w_BUSY w_REDIRECTED w_SERVER_ERROR w_FAILED w_SOCKET_ERROR w_RESOLUTION_ERROR w_PROBATION w_SERVER_ERROR (10 : Int32) h31 n0 (own_old_le O31) ST O31 (Exa.ext O31.2 ST.k21) (Fld.ext O31.2 ST.k40)) hZ (ww47 hw) (ww3 hw) (by decide) (by decide))
    obtain ⟨cq252, kq252, q252a, q252b, q252c⟩ := isOf hZ e248 (Exa.ext O31.2 ST.k21)
    obtain ⟨_, _, ⟨T252, L252, k252, n252⟩, -, X252, ⟨Lc252, hQ252, l252, y252, z252⟩, st252⟩ := X248.virtualBack hx (y := y_3) (z := y_3) hown (mvT hZ (ww43 hw)) (mvT hZ (ww44 hw)) (notFace_of_selects (args := #[]) (mvT hZ (ww46 hw))) (mvT hZ (ww46 hw)) (mvT hZ (ww45 hw)) (by decide) hK252 q252a q252c (g := (mkF m 191 ls251 [(.ref w_SERVER_ERROR)])) rfl (by rw [hml, hls251]; rfl) (Steps.refl _) (argsL := []) (rest := []) (lenOf pd_2 rfl) rfl (by show 2 * 0 + _ ≤ _; exact Nat.le_of_eq rfl) (hb hby at_191) (fun _ _ => ⟨rfl, e248, (by decide : 1 + 0 ≤ _), (by decide : 15 + 0 ≤ _)⟩)
    dsimp only [Pt.U, Pt.locs, Pt.cells, Pt.slots] at X252 l252 y252 z252 st252 hQ252
    subst l252 y252 z252
    obtain ⟨rfl, N252q, e252⟩ := hQ252
    have N252 := Fr.app N248 N252q
    obtain ⟨lc252, X252, N252⟩ := own_gen X252 N252
    refine step (fun t k => st252.trans k) ?_
    show G T252 (mkF m 194 ls251 [(.int (f_retr w_DELIVERED w_BAD_REQUEST w_UNAUTHORIZED w_FORBIDDEN w_NOT_FOUND w_GONE w_TIMED_OUT w_PAYLOAD_TOO_LARGE w_BUSY w_REDIRECTED w_SERVER_ERROR w_FAILED w_SOCKET_ERROR w_RESOLUTION_ERROR w_PROBATION w_SERVER_ERROR (10 : Int32)))])
    have r253 : (f_retr w_DELIVERED w_BAD_REQUEST w_UNAUTHORIZED w_FORBIDDEN w_NOT_FOUND w_GONE w_TIMED_OUT w_PAYLOAD_TOO_LARGE w_BUSY w_REDIRECTED w_SERVER_ERROR w_FAILED w_SOCKET_ERROR w_RESOLUTION_ERROR w_PROBATION w_SERVER_ERROR (10 : Int32)) = (1 : Int32) := by
      unfold f_retr
      rw [if_neg (by decide : ¬ ((10 : Int32) = (1 : Int32))), if_neg (by decide : ¬ ((10 : Int32) = (2 : Int32))), if_neg (by decide : ¬ ((10 : Int32) = (3 : Int32))), if_neg (by decide : ¬ ((10 : Int32) = (4 : Int32))), if_neg (by decide : ¬ ((10 : Int32) = (5 : Int32))), if_neg (by decide : ¬ ((10 : Int32) = (6 : Int32))), if_neg (by decide : ¬ ((10 : Int32) = (7 : Int32)))]
    rw [r253]
    show G T252 (mkF m 194 ls251 [(.int 1)])
    refine step (fun t k => XS.iload X252.here hx rfl (hb hby at_194) (by rw [hls251]; rfl) k) ?_
    show G T252 (mkF m 196 ls251 [(.int 0), (.int 1)])
    refine step (fun t k => XS.ifNo X252.here hx rfl (hb hby at_196) rfl ((if0 _ _).trans (teq (by decide : (0 : Int32) = (0 : Int32))).2) k) ?_
    show G T252 (mkF m 199 ls251 [(.int 1)])
    refine step (fun t k => XS.iconst X252.here hx rfl (hb hby at_199) k) ?_
    show G T252 (mkF m 200 ls251 [(.int 1), (.int 1)])
    refine step (fun t k => XS.goto X252.here hx rfl (pc0 := 200) (pc' := 204) rfl (hb hby at_200) (by decide) (by decide) k) ?_
    show G T252 (mkF m 204 ls251 [(.int 1), (.int 1)])
    refine step (fun t k => XS.icmpNo X252.here hx rfl (hb hby at_204) rfl (teq (by decide : (1 : Int32) = (1 : Int32))).2 k) ?_
    show G T252 (mkF m 207 ls251 [])
    refine step (fun t k => XS.iconst X252.here hx rfl (hb hby at_207) k) ?_
    show G T252 (mkF m 208 ls251 [(.int 1)])
    refine step (fun t k => XS.goto X252.here hx rfl (pc0 := 208) (pc' := 212) rfl (hb hby at_208) (by decide) (by decide) k) ?_
    show G T252 (mkF m 212 ls251 [(.int 1)])
    exact ret (v := some (.int 1)) X252 (fun h => by rw [Bd.returns] at h; cases h) (fun fs hr => retN X252 hx (t := .boolean) Bd.returns (by simp) (hb hby at_212) hr) e252 ⟨rfl, N252⟩ (by decide) (by decide)
  · rw [hk]
    show G T31 (mkF m 113 ls32 [(.int 11), (.ref b1)])
    have q254 := own_ldR X31 hx hZ e31 V31 (j := (11 : Int32)) (v := (.ref w_FAILED)) (by decide) (own_at (i := 11) rfl rfl) rfl (g := (mkF m 113 ls32 [(.int 11), (.ref b1)])) rfl rfl (hb hby at_113)
    refine step q254 ?_
    show G T31 (mkF m 114 ls32 [(.ref w_FAILED)])
    obtain ⟨ls255, hls255⟩  := own_sl #[.val (.int p0), .val (.ref b1), .val (.ref w_FAILED), .unset, .unset, .unset, .unset, .unset, .unset]
    refine step (fun t k => XS.astoreN X31.here hx rfl (hb hby at_114) rfl rfl (l' := ls255) (by rw [hls32, hls255]; rfl) k) ?_
    show G T31 (mkF m 115 ls255 [])
    refine step (fun t k => XS.sipush X31.here hx rfl (hb hby at_115) k) ?_
    show G T31 (mkF m 118 ls255 [(.int 400)])
    have hK256 := (backOf (R := room_1) (p := p) (e := e) (below := below) (s := s) (args := #[(.int p0)]) (len := 3) (W := 0) (rm_of400 l Z a0 hw [] w_DELIVERED w_BAD_REQUEST w_UNAUTHORIZED w_FORBIDDEN w_NOT_FOUND w_GONE w_TIMED_OUT w_PAYLOAD_TOO_LARGE w_BUSY w_REDIRECTED w_SERVER_ERROR w_FAILED w_SOCKET_ERROR w_RESOLUTION_ERROR w_PROBATION h31 n0 (own_old_le O31) ST O31) hZ (ww37 hw) (ww3 hw) (by decide) (by decide))
    obtain ⟨_, _, ⟨T256, L256, k256, n256⟩, -, X256, ⟨Lc256, hQ256, l256, y256, z256⟩, st256⟩ := Jvm.LawKit.callS X31 hx (y := y_0) hown (mvT hZ (ww35 hw)) (mvT hZ (ww36 hw)) (mvT hZ (ww3 hw)) (mvT hZ (ww37 hw)) (by decide) hK256 (g := (mkF m 118 ls255 [(.int 400)])) rfl (by rw [hml, hls255]; rfl) (argsL := [(.int 400)]) (rest := []) (lenOf pd_1 rfl) rfl (by show 2 * 0 + _ ≤ _; exact Nat.le_of_eq rfl) (hb hby at_118) (fun _ _ => ⟨rfl, e31, (by decide : 1 + 0 ≤ _), (by decide : 15 + 0 ≤ _)⟩)
    dsimp only [Pt.U, Pt.locs, Pt.cells, Pt.slots] at X256 l256 y256 z256 st256 hQ256
    subst l256 y256 z256
    obtain ⟨rfl, N256q, e256⟩ := hQ256
    have N256 := Fr.app N31 N256q
    obtain ⟨lc256, X256, N256⟩ := own_gen X256 N256
    refine step (fun t k => st256 t k) ?_
    show G T256 (mkF m 121 ls255 [(.ref (f_of400 w_DELIVERED w_BAD_REQUEST w_UNAUTHORIZED w_FORBIDDEN w_NOT_FOUND w_GONE w_TIMED_OUT w_PAYLOAD_TOO_LARGE w_BUSY w_REDIRECTED w_SERVER_ERROR w_FAILED w_SOCKET_ERROR w_RESOLUTION_ERROR w_PROBATION))])
    have r257 : (f_of400 w_DELIVERED w_BAD_REQUEST w_UNAUTHORIZED w_FORBIDDEN w_NOT_FOUND w_GONE w_TIMED_OUT w_PAYLOAD_TOO_LARGE w_BUSY w_REDIRECTED w_SERVER_ERROR w_FAILED w_SOCKET_ERROR w_RESOLUTION_ERROR w_PROBATION) = w_BAD_REQUEST := rfl
    rw [r257]
    show G T256 (mkF m 121 ls255 [(.ref w_BAD_REQUEST)])
    obtain ⟨ls258, hls258⟩  := own_sl #[.val (.int p0), .val (.ref b1), .val (.ref w_FAILED), .val (.ref w_BAD_REQUEST), .unset, .unset, .unset, .unset, .unset]
    refine step (fun t k => XS.astoreN X256.here hx rfl (hb hby at_121) rfl rfl (l' := ls258) (by rw [hls255, hls258]; rfl) k) ?_
    show G T256 (mkF m 122 ls258 [])
    refine step (fun t k => XS.sipush X256.here hx rfl (hb hby at_122) k) ?_
    show G T256 (mkF m 125 ls258 [(.int 401)])
    have hK259 := (backOf (R := room_1) (p := p) (e := e) (below := below) (s := s) (args := #[(.int p0)]) (len := 3) (W := 0) (rm_of401 l Z a0 hw [] w_DELIVERED w_BAD_REQUEST w_UNAUTHORIZED w_FORBIDDEN w_NOT_FOUND w_GONE w_TIMED_OUT w_PAYLOAD_TOO_LARGE w_BUSY w_REDIRECTED w_SERVER_ERROR w_FAILED w_SOCKET_ERROR w_RESOLUTION_ERROR w_PROBATION h31 n0 (own_old_le O31) ST O31) hZ (ww37 hw) (ww3 hw) (by decide) (by decide))
    obtain ⟨_, _, ⟨T259, L259, k259, n259⟩, -, X259, ⟨Lc259, hQ259, l259, y259, z259⟩, st259⟩ := Jvm.LawKit.callS X256 hx (y := y_0) hown (mvT hZ (ww35 hw)) (mvT hZ (ww36 hw)) (mvT hZ (ww3 hw)) (mvT hZ (ww37 hw)) (by decide) hK259 (g := (mkF m 125 ls258 [(.int 401)])) rfl (by rw [hml, hls258]; rfl) (argsL := [(.int 401)]) (rest := []) (lenOf pd_1 rfl) rfl (by show 2 * 0 + _ ≤ _; exact Nat.le_of_eq rfl) (hb hby at_125) (fun _ _ => ⟨rfl, e256, (by decide : 1 + 0 ≤ _), (by decide : 15 + 0 ≤ _)⟩)
    dsimp only [Pt.U, Pt.locs, Pt.cells, Pt.slots] at X259 l259 y259 z259 st259 hQ259
    subst l259 y259 z259
    obtain ⟨rfl, N259q, e259⟩ := hQ259
    have N259 := Fr.app N256 N259q
    obtain ⟨lc259, X259, N259⟩ := own_gen X259 N259
    refine step (fun t k => st259 t k) ?_
    show G T259 (mkF m 128 ls258 [(.ref (f_of401 w_DELIVERED w_BAD_REQUEST w_UNAUTHORIZED w_FORBIDDEN w_NOT_FOUND w_GONE w_TIMED_OUT w_PAYLOAD_TOO_LARGE w_BUSY w_REDIRECTED w_SERVER_ERROR w_FAILED w_SOCKET_ERROR w_RESOLUTION_ERROR w_PROBATION))])
    have r260 : (f_of401 w_DELIVERED w_BAD_REQUEST w_UNAUTHORIZED w_FORBIDDEN w_NOT_FOUND w_GONE w_TIMED_OUT w_PAYLOAD_TOO_LARGE w_BUSY w_REDIRECTED w_SERVER_ERROR w_FAILED w_SOCKET_ERROR w_RESOLUTION_ERROR w_PROBATION) = w_UNAUTHORIZED := rfl
    rw [r260]
    show G T259 (mkF m 128 ls258 [(.ref w_UNAUTHORIZED)])
    obtain ⟨ls261, hls261⟩  := own_sl #[.val (.int p0), .val (.ref b1), .val (.ref w_FAILED), .val (.ref w_BAD_REQUEST), .val (.ref w_UNAUTHORIZED), .unset, .unset, .unset, .unset]
    refine step (fun t k => XS.astore X259.here hx rfl (hb hby at_128) rfl rfl (l' := ls261) (by rw [hls258, hls261]; rfl) k) ?_
    show G T259 (mkF m 130 ls261 [])
    refine step (fun t k => XS.sipush X259.here hx rfl (hb hby at_130) k) ?_
    show G T259 (mkF m 133 ls261 [(.int 403)])
    have hK262 := (backOf (R := room_1) (p := p) (e := e) (below := below) (s := s) (args := #[(.int p0)]) (len := 3) (W := 0) (rm_of403 l Z a0 hw [] w_DELIVERED w_BAD_REQUEST w_UNAUTHORIZED w_FORBIDDEN w_NOT_FOUND w_GONE w_TIMED_OUT w_PAYLOAD_TOO_LARGE w_BUSY w_REDIRECTED w_SERVER_ERROR w_FAILED w_SOCKET_ERROR w_RESOLUTION_ERROR w_PROBATION h31 n0 (own_old_le O31) ST O31) hZ (ww37 hw) (ww3 hw) (by decide) (by decide))
    obtain ⟨_, _, ⟨T262, L262, k262, n262⟩, -, X262, ⟨Lc262, hQ262, l262, y262, z262⟩, st262⟩ := Jvm.LawKit.callS X259 hx (y := y_0) hown (mvT hZ (ww35 hw)) (mvT hZ (ww36 hw)) (mvT hZ (ww3 hw)) (mvT hZ (ww37 hw)) (by decide) hK262 (g := (mkF m 133 ls261 [(.int 403)])) rfl (by rw [hml, hls261]; rfl) (argsL := [(.int 403)]) (rest := []) (lenOf pd_1 rfl) rfl (by show 2 * 0 + _ ≤ _; exact Nat.le_of_eq rfl) (hb hby at_133) (fun _ _ => ⟨rfl, e259, (by decide : 1 + 0 ≤ _), (by decide : 15 + 0 ≤ _)⟩)
    dsimp only [Pt.U, Pt.locs, Pt.cells, Pt.slots] at X262 l262 y262 z262 st262 hQ262
    subst l262 y262 z262
    obtain ⟨rfl, N262q, e262⟩ := hQ262
    have N262 := Fr.app N259 N262q
    obtain ⟨lc262, X262, N262⟩ := own_gen X262 N262
    refine step (fun t k => st262 t k) ?_
    show G T262 (mkF m 136 ls261 [(.ref (f_of403 w_DELIVERED w_BAD_REQUEST w_UNAUTHORIZED w_FORBIDDEN w_NOT_FOUND w_GONE w_TIMED_OUT w_PAYLOAD_TOO_LARGE w_BUSY w_REDIRECTED w_SERVER_ERROR w_FAILED w_SOCKET_ERROR w_RESOLUTION_ERROR w_PROBATION))])
    have r263 : (f_of403 w_DELIVERED w_BAD_REQUEST w_UNAUTHORIZED w_FORBIDDEN w_NOT_FOUND w_GONE w_TIMED_OUT w_PAYLOAD_TOO_LARGE w_BUSY w_REDIRECTED w_SERVER_ERROR w_FAILED w_SOCKET_ERROR w_RESOLUTION_ERROR w_PROBATION) = w_FORBIDDEN := rfl
    rw [r263]
    show G T262 (mkF m 136 ls261 [(.ref w_FORBIDDEN)])
    obtain ⟨ls264, hls264⟩  := own_sl #[.val (.int p0), .val (.ref b1), .val (.ref w_FAILED), .val (.ref w_BAD_REQUEST), .val (.ref w_UNAUTHORIZED), .val (.ref w_FORBIDDEN), .unset, .unset, .unset]
    refine step (fun t k => XS.astore X262.here hx rfl (hb hby at_136) rfl rfl (l' := ls264) (by rw [hls261, hls264]; rfl) k) ?_
    show G T262 (mkF m 138 ls264 [])
    refine step (fun t k => XS.sipush X262.here hx rfl (hb hby at_138) k) ?_
    show G T262 (mkF m 141 ls264 [(.int 410)])
    have hK265 := (backOf (R := room_1) (p := p) (e := e) (below := below) (s := s) (args := #[(.int p0)]) (len := 3) (W := 0) (rm_of410 l Z a0 hw [] w_DELIVERED w_BAD_REQUEST w_UNAUTHORIZED w_FORBIDDEN w_NOT_FOUND w_GONE w_TIMED_OUT w_PAYLOAD_TOO_LARGE w_BUSY w_REDIRECTED w_SERVER_ERROR w_FAILED w_SOCKET_ERROR w_RESOLUTION_ERROR w_PROBATION h31 n0 (own_old_le O31) ST O31) hZ (ww37 hw) (ww3 hw) (by decide) (by decide))
    obtain ⟨_, _, ⟨T265, L265, k265, n265⟩, -, X265, ⟨Lc265, hQ265, l265, y265, z265⟩, st265⟩ := Jvm.LawKit.callS X262 hx (y := y_0) hown (mvT hZ (ww35 hw)) (mvT hZ (ww36 hw)) (mvT hZ (ww3 hw)) (mvT hZ (ww37 hw)) (by decide) hK265 (g := (mkF m 141 ls264 [(.int 410)])) rfl (by rw [hml, hls264]; rfl) (argsL := [(.int 410)]) (rest := []) (lenOf pd_1 rfl) rfl (by show 2 * 0 + _ ≤ _; exact Nat.le_of_eq rfl) (hb hby at_141) (fun _ _ => ⟨rfl, e262, (by decide : 1 + 0 ≤ _), (by decide : 15 + 0 ≤ _)⟩)
    dsimp only [Pt.U, Pt.locs, Pt.cells, Pt.slots] at X265 l265 y265 z265 st265 hQ265
    subst l265 y265 z265
    obtain ⟨rfl, N265q, e265⟩ := hQ265
    have N265 := Fr.app N262 N265q
    obtain ⟨lc265, X265, N265⟩ := own_gen X265 N265
    refine step (fun t k => st265 t k) ?_
    show G T265 (mkF m 144 ls264 [(.ref (f_of410 w_DELIVERED w_BAD_REQUEST w_UNAUTHORIZED w_FORBIDDEN w_NOT_FOUND w_GONE w_TIMED_OUT w_PAYLOAD_TOO_LARGE w_BUSY w_REDIRECTED w_SERVER_ERROR w_FAILED w_SOCKET_ERROR w_RESOLUTION_ERROR w_PROBATION))])
    have r266 : (f_of410 w_DELIVERED w_BAD_REQUEST w_UNAUTHORIZED w_FORBIDDEN w_NOT_FOUND w_GONE w_TIMED_OUT w_PAYLOAD_TOO_LARGE w_BUSY w_REDIRECTED w_SERVER_ERROR w_FAILED w_SOCKET_ERROR w_RESOLUTION_ERROR w_PROBATION) = w_GONE := rfl
    rw [r266]
    show G T265 (mkF m 144 ls264 [(.ref w_GONE)])
    obtain ⟨ls267, hls267⟩  := own_sl #[.val (.int p0), .val (.ref b1), .val (.ref w_FAILED), .val (.ref w_BAD_REQUEST), .val (.ref w_UNAUTHORIZED), .val (.ref w_FORBIDDEN), .val (.ref w_GONE), .unset, .unset]
    refine step (fun t k => XS.astore X265.here hx rfl (hb hby at_144) rfl rfl (l' := ls267) (by rw [hls264, hls267]; rfl) k) ?_
    show G T265 (mkF m 146 ls267 [])
    refine step (fun t k => XS.sipush X265.here hx rfl (hb hby at_146) k) ?_
    show G T265 (mkF m 149 ls267 [(.int 413)])
    have hK268 := (backOf (R := room_1) (p := p) (e := e) (below := below) (s := s) (args := #[(.int p0)]) (len := 3) (W := 0) (rm_of413 l Z a0 hw [] w_DELIVERED w_BAD_REQUEST w_UNAUTHORIZED w_FORBIDDEN w_NOT_FOUND w_GONE w_TIMED_OUT w_PAYLOAD_TOO_LARGE w_BUSY w_REDIRECTED w_SERVER_ERROR w_FAILED w_SOCKET_ERROR w_RESOLUTION_ERROR w_PROBATION h31 n0 (own_old_le O31) ST O31) hZ (ww37 hw) (ww3 hw) (by decide) (by decide))
    obtain ⟨_, _, ⟨T268, L268, k268, n268⟩, -, X268, ⟨Lc268, hQ268, l268, y268, z268⟩, st268⟩ := Jvm.LawKit.callS X265 hx (y := y_0) hown (mvT hZ (ww35 hw)) (mvT hZ (ww36 hw)) (mvT hZ (ww3 hw)) (mvT hZ (ww37 hw)) (by decide) hK268 (g := (mkF m 149 ls267 [(.int 413)])) rfl (by rw [hml, hls267]; rfl) (argsL := [(.int 413)]) (rest := []) (lenOf pd_1 rfl) rfl (by show 2 * 0 + _ ≤ _; exact Nat.le_of_eq rfl) (hb hby at_149) (fun _ _ => ⟨rfl, e265, (by decide : 1 + 0 ≤ _), (by decide : 15 + 0 ≤ _)⟩)
    dsimp only [Pt.U, Pt.locs, Pt.cells, Pt.slots] at X268 l268 y268 z268 st268 hQ268
    subst l268 y268 z268
    obtain ⟨rfl, N268q, e268⟩ := hQ268
    have N268 := Fr.app N265 N268q
    obtain ⟨lc268, X268, N268⟩ := own_gen X268 N268
    refine step (fun t k => st268 t k) ?_
    show G T268 (mkF m 152 ls267 [(.ref (f_of413 w_DELIVERED w_BAD_REQUEST w_UNAUTHORIZED w_FORBIDDEN w_NOT_FOUND w_GONE w_TIMED_OUT w_PAYLOAD_TOO_LARGE w_BUSY w_REDIRECTED w_SERVER_ERROR w_FAILED w_SOCKET_ERROR w_RESOLUTION_ERROR w_PROBATION))])
    have r269 : (f_of413 w_DELIVERED w_BAD_REQUEST w_UNAUTHORIZED w_FORBIDDEN w_NOT_FOUND w_GONE w_TIMED_OUT w_PAYLOAD_TOO_LARGE w_BUSY w_REDIRECTED w_SERVER_ERROR w_FAILED w_SOCKET_ERROR w_RESOLUTION_ERROR w_PROBATION) = w_PAYLOAD_TOO_LARGE := rfl
    rw [r269]
    show G T268 (mkF m 152 ls267 [(.ref w_PAYLOAD_TOO_LARGE)])
    obtain ⟨ls270, hls270⟩  := own_sl #[.val (.int p0), .val (.ref b1), .val (.ref w_FAILED), .val (.ref w_BAD_REQUEST), .val (.ref w_UNAUTHORIZED), .val (.ref w_FORBIDDEN), .val (.ref w_GONE), .val (.ref w_PAYLOAD_TOO_LARGE), .unset]
    refine step (fun t k => XS.astore X268.here hx rfl (hb hby at_152) rfl rfl (l' := ls270) (by rw [hls267, hls270]; rfl) k) ?_
    show G T268 (mkF m 154 ls270 [])
    refine step (fun t k => XS.aloadN X268.here hx rfl (hb hby at_154) (by rw [hls270]; rfl) rfl k) ?_
    show G T268 (mkF m 155 ls270 [(.ref w_FAILED)])
    refine step (fun t k => XS.aloadN X268.here hx rfl (hb hby at_155) (by rw [hls270]; rfl) rfl k) ?_
    show G T268 (mkF m 156 ls270 [(.ref w_BAD_REQUEST), (.ref w_FAILED)])
    refine step (fun t k => Jvm.RoadKit.acmp X268 hx rfl rfl rfl (pc0 := 156) (pc' := 159) (same := false) rfl (hb hby at_156) rfl (decide_eq_false fun q => (Fld.ne ST.k39 ST.k31 (fun q => absurd (Value.int.inj q) (by decide))) (Value.ref.inj q)) (by decide) (by decide) k) ?_
    show G T268 (mkF m 159 ls270 [])
    refine step (fun t k => XS.aloadN X268.here hx rfl (hb hby at_159) (by rw [hls270]; rfl) rfl k) ?_
    show G T268 (mkF m 160 ls270 [(.ref w_FAILED)])
    refine step (fun t k => XS.aload X268.here hx rfl (hb hby at_160) (by rw [hls270]; rfl) rfl k) ?_
    show G T268 (mkF m 162 ls270 [(.ref w_UNAUTHORIZED), (.ref w_FAILED)])
    refine step (fun t k => Jvm.RoadKit.acmp X268 hx rfl rfl rfl (pc0 := 162) (pc' := 165) (same := false) rfl (hb hby at_162) rfl (decide_eq_false fun q => (Fld.ne ST.k39 ST.k32 (fun q => absurd (Value.int.inj q) (by decide))) (Value.ref.inj q)) (by decide) (by decide) k) ?_
    show G T268 (mkF m 165 ls270 [])
    refine step (fun t k => XS.aloadN X268.here hx rfl (hb hby at_165) (by rw [hls270]; rfl) rfl k) ?_
    show G T268 (mkF m 166 ls270 [(.ref w_FAILED)])
    refine step (fun t k => XS.aload X268.here hx rfl (hb hby at_166) (by rw [hls270]; rfl) rfl k) ?_
    show G T268 (mkF m 168 ls270 [(.ref w_FORBIDDEN), (.ref w_FAILED)])
    refine step (fun t k => Jvm.RoadKit.acmp X268 hx rfl rfl rfl (pc0 := 168) (pc' := 171) (same := false) rfl (hb hby at_168) rfl (decide_eq_false fun q => (Fld.ne ST.k39 ST.k33 (fun q => absurd (Value.int.inj q) (by decide))) (Value.ref.inj q)) (by decide) (by decide) k) ?_
    show G T268 (mkF m 171 ls270 [])
    refine step (fun t k => XS.aloadN X268.here hx rfl (hb hby at_171) (by rw [hls270]; rfl) rfl k) ?_
    show G T268 (mkF m 172 ls270 [(.ref w_FAILED)])
    refine step (fun t k => XS.aload X268.here hx rfl (hb hby at_172) (by rw [hls270]; rfl) rfl k) ?_
    show G T268 (mkF m 174 ls270 [(.ref w_GONE), (.ref w_FAILED)])
    refine step (fun t k => Jvm.RoadKit.acmp X268 hx rfl rfl rfl (pc0 := 174) (pc' := 177) (same := false) rfl (hb hby at_174) rfl (decide_eq_false fun q => (Fld.ne ST.k39 ST.k34 (fun q => absurd (Value.int.inj q) (by decide))) (Value.ref.inj q)) (by decide) (by decide) k) ?_
    show G T268 (mkF m 177 ls270 [])
    refine step (fun t k => XS.aloadN X268.here hx rfl (hb hby at_177) (by rw [hls270]; rfl) rfl k) ?_
    show G T268 (mkF m 178 ls270 [(.ref w_FAILED)])
    refine step (fun t k => XS.aload X268.here hx rfl (hb hby at_178) (by rw [hls270]; rfl) rfl k) ?_
    show G T268 (mkF m 180 ls270 [(.ref w_PAYLOAD_TOO_LARGE), (.ref w_FAILED)])
    refine step (fun t k => Jvm.RoadKit.acmp X268 hx rfl rfl rfl (pc0 := 180) (pc' := 187) (same := false) rfl (hb hby at_180) rfl (decide_eq_false fun q => (Fld.ne ST.k39 ST.k35 (fun q => absurd (Value.int.inj q) (by decide))) (Value.ref.inj q)) (by decide) (by decide) k) ?_
    show G T268 (mkF m 187 ls270 [])
    refine step (fun t k => XS.iconst X268.here hx rfl (hb hby at_187) k) ?_
    show G T268 (mkF m 188 ls270 [(.int 0)])
    obtain ⟨ls271, hls271⟩  := own_sl #[.val (.int p0), .val (.ref b1), .val (.ref w_FAILED), .val (.ref w_BAD_REQUEST), .val (.ref w_UNAUTHORIZED), .val (.ref w_FORBIDDEN), .val (.ref w_GONE), .val (.ref w_PAYLOAD_TOO_LARGE), .val (.int 0)]
    refine step (fun t k => XS.istore X268.here hx rfl (hb hby at_188) rfl (l' := ls271) (by rw [hls270, hls271]; rfl) k) ?_
    show G T268 (mkF m 190 ls271 [])
    refine step (fun t k => XS.aloadN X268.here hx rfl (hb hby at_190) (by rw [hls271]; rfl) rfl k) ?_
    show G T268 (mkF m 191 ls271 [(.ref w_FAILED)])
    have hK272 := (backOf (R := room_1) (p := p) (e := e) (below := below) (s := s) (args := #[(.int p0)]) (len := 3) (W := 0) (rm_retr l Z a0 hw [] w_DELIVERED w_BAD_REQUEST w_UNAUTHORIZED w_FORBIDDEN w_NOT_FOUND w_GONE w_TIMED_OUT w_PAYLOAD_TOO_LARGE w_BUSY w_REDIRECTED w_SERVER_ERROR w_FAILED w_SOCKET_ERROR w_RESOLUTION_ERROR w_PROBATION w_FAILED (11 : Int32) h31 n0 (own_old_le O31) ST O31 (Exa.ext O31.2 ST.k23) (Fld.ext O31.2 ST.k39)) hZ (ww47 hw) (ww3 hw) (by decide) (by decide))
    obtain ⟨cq272, kq272, q272a, q272b, q272c⟩ := isOf hZ e268 (Exa.ext O31.2 ST.k23)
    obtain ⟨_, _, ⟨T272, L272, k272, n272⟩, -, X272, ⟨Lc272, hQ272, l272, y272, z272⟩, st272⟩ := X268.virtualBack hx (y := y_3) (z := y_3) hown (mvT hZ (ww43 hw)) (mvT hZ (ww44 hw)) (notFace_of_selects (args := #[]) (mvT hZ (ww46 hw))) (mvT hZ (ww46 hw)) (mvT hZ (ww45 hw)) (by decide) hK272 q272a q272c (g := (mkF m 191 ls271 [(.ref w_FAILED)])) rfl (by rw [hml, hls271]; rfl) (Steps.refl _) (argsL := []) (rest := []) (lenOf pd_2 rfl) rfl (by show 2 * 0 + _ ≤ _; exact Nat.le_of_eq rfl) (hb hby at_191) (fun _ _ => ⟨rfl, e268, (by decide : 1 + 0 ≤ _), (by decide : 15 + 0 ≤ _)⟩)
    dsimp only [Pt.U, Pt.locs, Pt.cells, Pt.slots] at X272 l272 y272 z272 st272 hQ272
    subst l272 y272 z272
    obtain ⟨rfl, N272q, e272⟩ := hQ272
    have N272 := Fr.app N268 N272q
    obtain ⟨lc272, X272, N272⟩ := own_gen X272 N272
    refine step (fun t k => st272.trans k) ?_
    show G T272 (mkF m 194 ls271 [(.int (f_retr w_DELIVERED w_BAD_REQUEST w_UNAUTHORIZED w_FORBIDDEN w_NOT_FOUND w_GONE w_TIMED_OUT w_PAYLOAD_TOO_LARGE w_BUSY w_REDIRECTED w_SERVER_ERROR w_FAILED w_SOCKET_ERROR w_RESOLUTION_ERROR w_PROBATION w_FAILED (11 : Int32)))])
    have r273 : (f_retr w_DELIVERED w_BAD_REQUEST w_UNAUTHORIZED w_FORBIDDEN w_NOT_FOUND w_GONE w_TIMED_OUT w_PAYLOAD_TOO_LARGE w_BUSY w_REDIRECTED w_SERVER_ERROR w_FAILED w_SOCKET_ERROR w_RESOLUTION_ERROR w_PROBATION w_FAILED (11 : Int32)) = (1 : Int32) := by
      unfold f_retr
      rw [if_neg (by decide : ¬ ((11 : Int32) = (1 : Int32))), if_neg (by decide : ¬ ((11 : Int32) = (2 : Int32))), if_neg (by decide : ¬ ((11 : Int32) = (3 : Int32))), if_neg (by decide : ¬ ((11 : Int32) = (4 : Int32))), if_neg (by decide : ¬ ((11 : Int32) = (5 : Int32))), if_neg (by decide : ¬ ((11 : Int32) = (6 : Int32))), if_neg (by decide : ¬ ((11 : Int32) = (7 : Int32)))]
    rw [r273]
    show G T272 (mkF m 194 ls271 [(.int 1)])
    refine step (fun t k => XS.iload X272.here hx rfl (hb hby at_194) (by rw [hls271]; rfl) k) ?_
    show G T272 (mkF m 196 ls271 [(.int 0), (.int 1)])
    refine step (fun t k => XS.ifNo X272.here hx rfl (hb hby at_196) rfl ((if0 _ _).trans (teq (by decide : (0 : Int32) = (0 : Int32))).2) k) ?_
    show G T272 (mkF m 199 ls271 [(.int 1)])
    refine step (fun t k => XS.iconst X272.here hx rfl (hb hby at_199) k) ?_
    show G T272 (mkF m 200 ls271 [(.int 1), (.int 1)])
    refine step (fun t k => XS.goto X272.here hx rfl (pc0 := 200) (pc' := 204) rfl (hb hby at_200) (by decide) (by decide) k) ?_
    show G T272 (mkF m 204 ls271 [(.int 1), (.int 1)])
    refine step (fun t k => XS.icmpNo X272.here hx rfl (hb hby at_204) rfl (teq (by decide : (1 : Int32) = (1 : Int32))).2 k) ?_
    show G T272 (mkF m 207 ls271 [])
    refine step (fun t k => XS.iconst X272.here hx rfl (hb hby at_207) k) ?_
    show G T272 (mkF m 208 ls271 [(.int 1)])
    refine step (fun t k => XS.goto X272.here hx rfl (pc0 := 208) (pc' := 212) rfl (hb hby at_208) (by decide) (by decide) k) ?_
    show G T272 (mkF m 212 ls271 [(.int 1)])
    exact ret (v := some (.int 1)) X272 (fun h => by rw [Bd.returns] at h; cases h) (fun fs hr => retN X272 hx (t := .boolean) Bd.returns (by simp) (hb hby at_212) hr) e272 ⟨rfl, N272⟩ (by decide) (by decide)
  · rw [hk]
    show G T31 (mkF m 113 ls32 [(.int 12), (.ref b1)])
    have q274 := own_ldR X31 hx hZ e31 V31 (j := (12 : Int32)) (v := (.ref w_SOCKET_ERROR)) (by decide) (own_at (i := 12) rfl rfl) rfl (g := (mkF m 113 ls32 [(.int 12), (.ref b1)])) rfl rfl (hb hby at_113)
    refine step q274 ?_
    show G T31 (mkF m 114 ls32 [(.ref w_SOCKET_ERROR)])
    obtain ⟨ls275, hls275⟩  := own_sl #[.val (.int p0), .val (.ref b1), .val (.ref w_SOCKET_ERROR), .unset, .unset, .unset, .unset, .unset, .unset]
    refine step (fun t k => XS.astoreN X31.here hx rfl (hb hby at_114) rfl rfl (l' := ls275) (by rw [hls32, hls275]; rfl) k) ?_
    show G T31 (mkF m 115 ls275 [])
    refine step (fun t k => XS.sipush X31.here hx rfl (hb hby at_115) k) ?_
    show G T31 (mkF m 118 ls275 [(.int 400)])
    have hK276 := (backOf (R := room_1) (p := p) (e := e) (below := below) (s := s) (args := #[(.int p0)]) (len := 3) (W := 0) (rm_of400 l Z a0 hw [] w_DELIVERED w_BAD_REQUEST w_UNAUTHORIZED w_FORBIDDEN w_NOT_FOUND w_GONE w_TIMED_OUT w_PAYLOAD_TOO_LARGE w_BUSY w_REDIRECTED w_SERVER_ERROR w_FAILED w_SOCKET_ERROR w_RESOLUTION_ERROR w_PROBATION h31 n0 (own_old_le O31) ST O31) hZ (ww37 hw) (ww3 hw) (by decide) (by decide))
    obtain ⟨_, _, ⟨T276, L276, k276, n276⟩, -, X276, ⟨Lc276, hQ276, l276, y276, z276⟩, st276⟩ := Jvm.LawKit.callS X31 hx (y := y_0) hown (mvT hZ (ww35 hw)) (mvT hZ (ww36 hw)) (mvT hZ (ww3 hw)) (mvT hZ (ww37 hw)) (by decide) hK276 (g := (mkF m 118 ls275 [(.int 400)])) rfl (by rw [hml, hls275]; rfl) (argsL := [(.int 400)]) (rest := []) (lenOf pd_1 rfl) rfl (by show 2 * 0 + _ ≤ _; exact Nat.le_of_eq rfl) (hb hby at_118) (fun _ _ => ⟨rfl, e31, (by decide : 1 + 0 ≤ _), (by decide : 15 + 0 ≤ _)⟩)
    dsimp only [Pt.U, Pt.locs, Pt.cells, Pt.slots] at X276 l276 y276 z276 st276 hQ276
    subst l276 y276 z276
    obtain ⟨rfl, N276q, e276⟩ := hQ276
    have N276 := Fr.app N31 N276q
    obtain ⟨lc276, X276, N276⟩ := own_gen X276 N276
    refine step (fun t k => st276 t k) ?_
    show G T276 (mkF m 121 ls275 [(.ref (f_of400 w_DELIVERED w_BAD_REQUEST w_UNAUTHORIZED w_FORBIDDEN w_NOT_FOUND w_GONE w_TIMED_OUT w_PAYLOAD_TOO_LARGE w_BUSY w_REDIRECTED w_SERVER_ERROR w_FAILED w_SOCKET_ERROR w_RESOLUTION_ERROR w_PROBATION))])
    have r277 : (f_of400 w_DELIVERED w_BAD_REQUEST w_UNAUTHORIZED w_FORBIDDEN w_NOT_FOUND w_GONE w_TIMED_OUT w_PAYLOAD_TOO_LARGE w_BUSY w_REDIRECTED w_SERVER_ERROR w_FAILED w_SOCKET_ERROR w_RESOLUTION_ERROR w_PROBATION) = w_BAD_REQUEST := rfl
    rw [r277]
    show G T276 (mkF m 121 ls275 [(.ref w_BAD_REQUEST)])
    obtain ⟨ls278, hls278⟩  := own_sl #[.val (.int p0), .val (.ref b1), .val (.ref w_SOCKET_ERROR), .val (.ref w_BAD_REQUEST), .unset, .unset, .unset, .unset, .unset]
    refine step (fun t k => XS.astoreN X276.here hx rfl (hb hby at_121) rfl rfl (l' := ls278) (by rw [hls275, hls278]; rfl) k) ?_
    show G T276 (mkF m 122 ls278 [])
    refine step (fun t k => XS.sipush X276.here hx rfl (hb hby at_122) k) ?_
    show G T276 (mkF m 125 ls278 [(.int 401)])
    have hK279 := (backOf (R := room_1) (p := p) (e := e) (below := below) (s := s) (args := #[(.int p0)]) (len := 3) (W := 0) (rm_of401 l Z a0 hw [] w_DELIVERED w_BAD_REQUEST w_UNAUTHORIZED w_FORBIDDEN w_NOT_FOUND w_GONE w_TIMED_OUT w_PAYLOAD_TOO_LARGE w_BUSY w_REDIRECTED w_SERVER_ERROR w_FAILED w_SOCKET_ERROR w_RESOLUTION_ERROR w_PROBATION h31 n0 (own_old_le O31) ST O31) hZ (ww37 hw) (ww3 hw) (by decide) (by decide))
    obtain ⟨_, _, ⟨T279, L279, k279, n279⟩, -, X279, ⟨Lc279, hQ279, l279, y279, z279⟩, st279⟩ := Jvm.LawKit.callS X276 hx (y := y_0) hown (mvT hZ (ww35 hw)) (mvT hZ (ww36 hw)) (mvT hZ (ww3 hw)) (mvT hZ (ww37 hw)) (by decide) hK279 (g := (mkF m 125 ls278 [(.int 401)])) rfl (by rw [hml, hls278]; rfl) (argsL := [(.int 401)]) (rest := []) (lenOf pd_1 rfl) rfl (by show 2 * 0 + _ ≤ _; exact Nat.le_of_eq rfl) (hb hby at_125) (fun _ _ => ⟨rfl, e276, (by decide : 1 + 0 ≤ _), (by decide : 15 + 0 ≤ _)⟩)
    dsimp only [Pt.U, Pt.locs, Pt.cells, Pt.slots] at X279 l279 y279 z279 st279 hQ279
    subst l279 y279 z279
    obtain ⟨rfl, N279q, e279⟩ := hQ279
    have N279 := Fr.app N276 N279q
    obtain ⟨lc279, X279, N279⟩ := own_gen X279 N279
    refine step (fun t k => st279 t k) ?_
    show G T279 (mkF m 128 ls278 [(.ref (f_of401 w_DELIVERED w_BAD_REQUEST w_UNAUTHORIZED w_FORBIDDEN w_NOT_FOUND w_GONE w_TIMED_OUT w_PAYLOAD_TOO_LARGE w_BUSY w_REDIRECTED w_SERVER_ERROR w_FAILED w_SOCKET_ERROR w_RESOLUTION_ERROR w_PROBATION))])
    have r280 : (f_of401 w_DELIVERED w_BAD_REQUEST w_UNAUTHORIZED w_FORBIDDEN w_NOT_FOUND w_GONE w_TIMED_OUT w_PAYLOAD_TOO_LARGE w_BUSY w_REDIRECTED w_SERVER_ERROR w_FAILED w_SOCKET_ERROR w_RESOLUTION_ERROR w_PROBATION) = w_UNAUTHORIZED := rfl
    rw [r280]
    show G T279 (mkF m 128 ls278 [(.ref w_UNAUTHORIZED)])
    obtain ⟨ls281, hls281⟩  := own_sl #[.val (.int p0), .val (.ref b1), .val (.ref w_SOCKET_ERROR), .val (.ref w_BAD_REQUEST), .val (.ref w_UNAUTHORIZED), .unset, .unset, .unset, .unset]
    refine step (fun t k => XS.astore X279.here hx rfl (hb hby at_128) rfl rfl (l' := ls281) (by rw [hls278, hls281]; rfl) k) ?_
    show G T279 (mkF m 130 ls281 [])
    refine step (fun t k => XS.sipush X279.here hx rfl (hb hby at_130) k) ?_
    show G T279 (mkF m 133 ls281 [(.int 403)])
    have hK282 := (backOf (R := room_1) (p := p) (e := e) (below := below) (s := s) (args := #[(.int p0)]) (len := 3) (W := 0) (rm_of403 l Z a0 hw [] w_DELIVERED w_BAD_REQUEST w_UNAUTHORIZED w_FORBIDDEN w_NOT_FOUND w_GONE w_TIMED_OUT w_PAYLOAD_TOO_LARGE w_BUSY w_REDIRECTED w_SERVER_ERROR w_FAILED w_SOCKET_ERROR w_RESOLUTION_ERROR w_PROBATION h31 n0 (own_old_le O31) ST O31) hZ (ww37 hw) (ww3 hw) (by decide) (by decide))
    obtain ⟨_, _, ⟨T282, L282, k282, n282⟩, -, X282, ⟨Lc282, hQ282, l282, y282, z282⟩, st282⟩ := Jvm.LawKit.callS X279 hx (y := y_0) hown (mvT hZ (ww35 hw)) (mvT hZ (ww36 hw)) (mvT hZ (ww3 hw)) (mvT hZ (ww37 hw)) (by decide) hK282 (g := (mkF m 133 ls281 [(.int 403)])) rfl (by rw [hml, hls281]; rfl) (argsL := [(.int 403)]) (rest := []) (lenOf pd_1 rfl) rfl (by show 2 * 0 + _ ≤ _; exact Nat.le_of_eq rfl) (hb hby at_133) (fun _ _ => ⟨rfl, e279, (by decide : 1 + 0 ≤ _), (by decide : 15 + 0 ≤ _)⟩)
    dsimp only [Pt.U, Pt.locs, Pt.cells, Pt.slots] at X282 l282 y282 z282 st282 hQ282
    subst l282 y282 z282
    obtain ⟨rfl, N282q, e282⟩ := hQ282
    have N282 := Fr.app N279 N282q
    obtain ⟨lc282, X282, N282⟩ := own_gen X282 N282
    refine step (fun t k => st282 t k) ?_
    show G T282 (mkF m 136 ls281 [(.ref (f_of403 w_DELIVERED w_BAD_REQUEST w_UNAUTHORIZED w_FORBIDDEN w_NOT_FOUND w_GONE w_TIMED_OUT w_PAYLOAD_TOO_LARGE w_BUSY w_REDIRECTED w_SERVER_ERROR w_FAILED w_SOCKET_ERROR w_RESOLUTION_ERROR w_PROBATION))])
    have r283 : (f_of403 w_DELIVERED w_BAD_REQUEST w_UNAUTHORIZED w_FORBIDDEN w_NOT_FOUND w_GONE w_TIMED_OUT w_PAYLOAD_TOO_LARGE w_BUSY w_REDIRECTED w_SERVER_ERROR w_FAILED w_SOCKET_ERROR w_RESOLUTION_ERROR w_PROBATION) = w_FORBIDDEN := rfl
    rw [r283]
    show G T282 (mkF m 136 ls281 [(.ref w_FORBIDDEN)])
    obtain ⟨ls284, hls284⟩  := own_sl #[.val (.int p0), .val (.ref b1), .val (.ref w_SOCKET_ERROR), .val (.ref w_BAD_REQUEST), .val (.ref w_UNAUTHORIZED), .val (.ref w_FORBIDDEN), .unset, .unset, .unset]
    refine step (fun t k => XS.astore X282.here hx rfl (hb hby at_136) rfl rfl (l' := ls284) (by rw [hls281, hls284]; rfl) k) ?_
    show G T282 (mkF m 138 ls284 [])
    refine step (fun t k => XS.sipush X282.here hx rfl (hb hby at_138) k) ?_
    show G T282 (mkF m 141 ls284 [(.int 410)])
    have hK285 := (backOf (R := room_1) (p := p) (e := e) (below := below) (s := s) (args := #[(.int p0)]) (len := 3) (W := 0) (rm_of410 l Z a0 hw [] w_DELIVERED w_BAD_REQUEST w_UNAUTHORIZED w_FORBIDDEN w_NOT_FOUND w_GONE w_TIMED_OUT w_PAYLOAD_TOO_LARGE w_BUSY w_REDIRECTED w_SERVER_ERROR w_FAILED w_SOCKET_ERROR w_RESOLUTION_ERROR w_PROBATION h31 n0 (own_old_le O31) ST O31) hZ (ww37 hw) (ww3 hw) (by decide) (by decide))
    obtain ⟨_, _, ⟨T285, L285, k285, n285⟩, -, X285, ⟨Lc285, hQ285, l285, y285, z285⟩, st285⟩ := Jvm.LawKit.callS X282 hx (y := y_0) hown (mvT hZ (ww35 hw)) (mvT hZ (ww36 hw)) (mvT hZ (ww3 hw)) (mvT hZ (ww37 hw)) (by decide) hK285 (g := (mkF m 141 ls284 [(.int 410)])) rfl (by rw [hml, hls284]; rfl) (argsL := [(.int 410)]) (rest := []) (lenOf pd_1 rfl) rfl (by show 2 * 0 + _ ≤ _; exact Nat.le_of_eq rfl) (hb hby at_141) (fun _ _ => ⟨rfl, e282, (by decide : 1 + 0 ≤ _), (by decide : 15 + 0 ≤ _)⟩)
    dsimp only [Pt.U, Pt.locs, Pt.cells, Pt.slots] at X285 l285 y285 z285 st285 hQ285
    subst l285 y285 z285
    obtain ⟨rfl, N285q, e285⟩ := hQ285
    have N285 := Fr.app N282 N285q
    obtain ⟨lc285, X285, N285⟩ := own_gen X285 N285
    refine step (fun t k => st285 t k) ?_
    show G T285 (mkF m 144 ls284 [(.ref (f_of410 w_DELIVERED w_BAD_REQUEST w_UNAUTHORIZED w_FORBIDDEN w_NOT_FOUND w_GONE w_TIMED_OUT w_PAYLOAD_TOO_LARGE w_BUSY w_REDIRECTED w_SERVER_ERROR w_FAILED w_SOCKET_ERROR w_RESOLUTION_ERROR w_PROBATION))])
    have r286 : (f_of410 w_DELIVERED w_BAD_REQUEST w_UNAUTHORIZED w_FORBIDDEN w_NOT_FOUND w_GONE w_TIMED_OUT w_PAYLOAD_TOO_LARGE w_BUSY w_REDIRECTED w_SERVER_ERROR w_FAILED w_SOCKET_ERROR w_RESOLUTION_ERROR w_PROBATION) = w_GONE := rfl
    rw [r286]
    show G T285 (mkF m 144 ls284 [(.ref w_GONE)])
    obtain ⟨ls287, hls287⟩  := own_sl #[.val (.int p0), .val (.ref b1), .val (.ref w_SOCKET_ERROR), .val (.ref w_BAD_REQUEST), .val (.ref w_UNAUTHORIZED), .val (.ref w_FORBIDDEN), .val (.ref w_GONE), .unset, .unset]
    refine step (fun t k => XS.astore X285.here hx rfl (hb hby at_144) rfl rfl (l' := ls287) (by rw [hls284, hls287]; rfl) k) ?_
    show G T285 (mkF m 146 ls287 [])
    refine step (fun t k => XS.sipush X285.here hx rfl (hb hby at_146) k) ?_
    show G T285 (mkF m 149 ls287 [(.int 413)])
    have hK288 := (backOf (R := room_1) (p := p) (e := e) (below := below) (s := s) (args := #[(.int p0)]) (len := 3) (W := 0) (rm_of413 l Z a0 hw [] w_DELIVERED w_BAD_REQUEST w_UNAUTHORIZED w_FORBIDDEN w_NOT_FOUND w_GONE w_TIMED_OUT w_PAYLOAD_TOO_LARGE w_BUSY w_REDIRECTED w_SERVER_ERROR w_FAILED w_SOCKET_ERROR w_RESOLUTION_ERROR w_PROBATION h31 n0 (own_old_le O31) ST O31) hZ (ww37 hw) (ww3 hw) (by decide) (by decide))
    obtain ⟨_, _, ⟨T288, L288, k288, n288⟩, -, X288, ⟨Lc288, hQ288, l288, y288, z288⟩, st288⟩ := Jvm.LawKit.callS X285 hx (y := y_0) hown (mvT hZ (ww35 hw)) (mvT hZ (ww36 hw)) (mvT hZ (ww3 hw)) (mvT hZ (ww37 hw)) (by decide) hK288 (g := (mkF m 149 ls287 [(.int 413)])) rfl (by rw [hml, hls287]; rfl) (argsL := [(.int 413)]) (rest := []) (lenOf pd_1 rfl) rfl (by show 2 * 0 + _ ≤ _; exact Nat.le_of_eq rfl) (hb hby at_149) (fun _ _ => ⟨rfl, e285, (by decide : 1 + 0 ≤ _), (by decide : 15 + 0 ≤ _)⟩)
    dsimp only [Pt.U, Pt.locs, Pt.cells, Pt.slots] at X288 l288 y288 z288 st288 hQ288
    subst l288 y288 z288
    obtain ⟨rfl, N288q, e288⟩ := hQ288
    have N288 := Fr.app N285 N288q
    obtain ⟨lc288, X288, N288⟩ := own_gen X288 N288
    refine step (fun t k => st288 t k) ?_
    show G T288 (mkF m 152 ls287 [(.ref (f_of413 w_DELIVERED w_BAD_REQUEST w_UNAUTHORIZED w_FORBIDDEN w_NOT_FOUND w_GONE w_TIMED_OUT w_PAYLOAD_TOO_LARGE w_BUSY w_REDIRECTED w_SERVER_ERROR w_FAILED w_SOCKET_ERROR w_RESOLUTION_ERROR w_PROBATION))])
    have r289 : (f_of413 w_DELIVERED w_BAD_REQUEST w_UNAUTHORIZED w_FORBIDDEN w_NOT_FOUND w_GONE w_TIMED_OUT w_PAYLOAD_TOO_LARGE w_BUSY w_REDIRECTED w_SERVER_ERROR w_FAILED w_SOCKET_ERROR w_RESOLUTION_ERROR w_PROBATION) = w_PAYLOAD_TOO_LARGE := rfl
    rw [r289]
    show G T288 (mkF m 152 ls287 [(.ref w_PAYLOAD_TOO_LARGE)])
    obtain ⟨ls290, hls290⟩  := own_sl #[.val (.int p0), .val (.ref b1), .val (.ref w_SOCKET_ERROR), .val (.ref w_BAD_REQUEST), .val (.ref w_UNAUTHORIZED), .val (.ref w_FORBIDDEN), .val (.ref w_GONE), .val (.ref w_PAYLOAD_TOO_LARGE), .unset]
    refine step (fun t k => XS.astore X288.here hx rfl (hb hby at_152) rfl rfl (l' := ls290) (by rw [hls287, hls290]; rfl) k) ?_
    show G T288 (mkF m 154 ls290 [])
    refine step (fun t k => XS.aloadN X288.here hx rfl (hb hby at_154) (by rw [hls290]; rfl) rfl k) ?_
    show G T288 (mkF m 155 ls290 [(.ref w_SOCKET_ERROR)])
    refine step (fun t k => XS.aloadN X288.here hx rfl (hb hby at_155) (by rw [hls290]; rfl) rfl k) ?_
    show G T288 (mkF m 156 ls290 [(.ref w_BAD_REQUEST), (.ref w_SOCKET_ERROR)])
    refine step (fun t k => Jvm.RoadKit.acmp X288 hx rfl rfl rfl (pc0 := 156) (pc' := 159) (same := false) rfl (hb hby at_156) rfl (decide_eq_false fun q => (Fld.ne ST.k42 ST.k31 (fun q => absurd (Value.int.inj q) (by decide))) (Value.ref.inj q)) (by decide) (by decide) k) ?_
    show G T288 (mkF m 159 ls290 [])
    refine step (fun t k => XS.aloadN X288.here hx rfl (hb hby at_159) (by rw [hls290]; rfl) rfl k) ?_
    show G T288 (mkF m 160 ls290 [(.ref w_SOCKET_ERROR)])
    refine step (fun t k => XS.aload X288.here hx rfl (hb hby at_160) (by rw [hls290]; rfl) rfl k) ?_
    show G T288 (mkF m 162 ls290 [(.ref w_UNAUTHORIZED), (.ref w_SOCKET_ERROR)])
    refine step (fun t k => Jvm.RoadKit.acmp X288 hx rfl rfl rfl (pc0 := 162) (pc' := 165) (same := false) rfl (hb hby at_162) rfl (decide_eq_false fun q => (Fld.ne ST.k42 ST.k32 (fun q => absurd (Value.int.inj q) (by decide))) (Value.ref.inj q)) (by decide) (by decide) k) ?_
    show G T288 (mkF m 165 ls290 [])
    refine step (fun t k => XS.aloadN X288.here hx rfl (hb hby at_165) (by rw [hls290]; rfl) rfl k) ?_
    show G T288 (mkF m 166 ls290 [(.ref w_SOCKET_ERROR)])
    refine step (fun t k => XS.aload X288.here hx rfl (hb hby at_166) (by rw [hls290]; rfl) rfl k) ?_
    show G T288 (mkF m 168 ls290 [(.ref w_FORBIDDEN), (.ref w_SOCKET_ERROR)])
    refine step (fun t k => Jvm.RoadKit.acmp X288 hx rfl rfl rfl (pc0 := 168) (pc' := 171) (same := false) rfl (hb hby at_168) rfl (decide_eq_false fun q => (Fld.ne ST.k42 ST.k33 (fun q => absurd (Value.int.inj q) (by decide))) (Value.ref.inj q)) (by decide) (by decide) k) ?_
    show G T288 (mkF m 171 ls290 [])
    refine step (fun t k => XS.aloadN X288.here hx rfl (hb hby at_171) (by rw [hls290]; rfl) rfl k) ?_
    show G T288 (mkF m 172 ls290 [(.ref w_SOCKET_ERROR)])
    refine step (fun t k => XS.aload X288.here hx rfl (hb hby at_172) (by rw [hls290]; rfl) rfl k) ?_
    show G T288 (mkF m 174 ls290 [(.ref w_GONE), (.ref w_SOCKET_ERROR)])
    refine step (fun t k => Jvm.RoadKit.acmp X288 hx rfl rfl rfl (pc0 := 174) (pc' := 177) (same := false) rfl (hb hby at_174) rfl (decide_eq_false fun q => (Fld.ne ST.k42 ST.k34 (fun q => absurd (Value.int.inj q) (by decide))) (Value.ref.inj q)) (by decide) (by decide) k) ?_
    show G T288 (mkF m 177 ls290 [])
    refine step (fun t k => XS.aloadN X288.here hx rfl (hb hby at_177) (by rw [hls290]; rfl) rfl k) ?_
    show G T288 (mkF m 178 ls290 [(.ref w_SOCKET_ERROR)])
    refine step (fun t k => XS.aload X288.here hx rfl (hb hby at_178) (by rw [hls290]; rfl) rfl k) ?_
    show G T288 (mkF m 180 ls290 [(.ref w_PAYLOAD_TOO_LARGE), (.ref w_SOCKET_ERROR)])
    refine step (fun t k => Jvm.RoadKit.acmp X288 hx rfl rfl rfl (pc0 := 180) (pc' := 187) (same := false) rfl (hb hby at_180) rfl (decide_eq_false fun q => (Fld.ne ST.k42 ST.k35 (fun q => absurd (Value.int.inj q) (by decide))) (Value.ref.inj q)) (by decide) (by decide) k) ?_
    show G T288 (mkF m 187 ls290 [])
    refine step (fun t k => XS.iconst X288.here hx rfl (hb hby at_187) k) ?_
    show G T288 (mkF m 188 ls290 [(.int 0)])
    obtain ⟨ls291, hls291⟩  := own_sl #[.val (.int p0), .val (.ref b1), .val (.ref w_SOCKET_ERROR), .val (.ref w_BAD_REQUEST), .val (.ref w_UNAUTHORIZED), .val (.ref w_FORBIDDEN), .val (.ref w_GONE), .val (.ref w_PAYLOAD_TOO_LARGE), .val (.int 0)]
    refine step (fun t k => XS.istore X288.here hx rfl (hb hby at_188) rfl (l' := ls291) (by rw [hls290, hls291]; rfl) k) ?_
    show G T288 (mkF m 190 ls291 [])
    refine step (fun t k => XS.aloadN X288.here hx rfl (hb hby at_190) (by rw [hls291]; rfl) rfl k) ?_
    show G T288 (mkF m 191 ls291 [(.ref w_SOCKET_ERROR)])
    have hK292 := (backOf (R := room_1) (p := p) (e := e) (below := below) (s := s) (args := #[(.int p0)]) (len := 3) (W := 0) (rm_retr l Z a0 hw [] w_DELIVERED w_BAD_REQUEST w_UNAUTHORIZED w_FORBIDDEN w_NOT_FOUND w_GONE w_TIMED_OUT w_PAYLOAD_TOO_LARGE w_BUSY w_REDIRECTED w_SERVER_ERROR w_FAILED w_SOCKET_ERROR w_RESOLUTION_ERROR w_PROBATION w_SOCKET_ERROR (12 : Int32) h31 n0 (own_old_le O31) ST O31 (Exa.ext O31.2 ST.k25) (Fld.ext O31.2 ST.k42)) hZ (ww47 hw) (ww3 hw) (by decide) (by decide))
    obtain ⟨cq292, kq292, q292a, q292b, q292c⟩ := isOf hZ e288 (Exa.ext O31.2 ST.k25)
    obtain ⟨_, _, ⟨T292, L292, k292, n292⟩, -, X292, ⟨Lc292, hQ292, l292, y292, z292⟩, st292⟩ := X288.virtualBack hx (y := y_3) (z := y_3) hown (mvT hZ (ww43 hw)) (mvT hZ (ww44 hw)) (notFace_of_selects (args := #[]) (mvT hZ (ww46 hw))) (mvT hZ (ww46 hw)) (mvT hZ (ww45 hw)) (by decide) hK292 q292a q292c (g := (mkF m 191 ls291 [(.ref w_SOCKET_ERROR)])) rfl (by rw [hml, hls291]; rfl) (Steps.refl _) (argsL := []) (rest := []) (lenOf pd_2 rfl) rfl (by show 2 * 0 + _ ≤ _; exact Nat.le_of_eq rfl) (hb hby at_191) (fun _ _ => ⟨rfl, e288, (by decide : 1 + 0 ≤ _), (by decide : 15 + 0 ≤ _)⟩)
    dsimp only [Pt.U, Pt.locs, Pt.cells, Pt.slots] at X292 l292 y292 z292 st292 hQ292
    subst l292 y292 z292
    obtain ⟨rfl, N292q, e292⟩ := hQ292
    have N292 := Fr.app N288 N292q
    obtain ⟨lc292, X292, N292⟩ := own_gen X292 N292
    refine step (fun t k => st292.trans k) ?_
    show G T292 (mkF m 194 ls291 [(.int (f_retr w_DELIVERED w_BAD_REQUEST w_UNAUTHORIZED w_FORBIDDEN w_NOT_FOUND w_GONE w_TIMED_OUT w_PAYLOAD_TOO_LARGE w_BUSY w_REDIRECTED w_SERVER_ERROR w_FAILED w_SOCKET_ERROR w_RESOLUTION_ERROR w_PROBATION w_SOCKET_ERROR (12 : Int32)))])
    have r293 : (f_retr w_DELIVERED w_BAD_REQUEST w_UNAUTHORIZED w_FORBIDDEN w_NOT_FOUND w_GONE w_TIMED_OUT w_PAYLOAD_TOO_LARGE w_BUSY w_REDIRECTED w_SERVER_ERROR w_FAILED w_SOCKET_ERROR w_RESOLUTION_ERROR w_PROBATION w_SOCKET_ERROR (12 : Int32)) = (1 : Int32) := by
      unfold f_retr
      rw [if_neg (by decide : ¬ ((12 : Int32) = (1 : Int32))), if_neg (by decide : ¬ ((12 : Int32) = (2 : Int32))), if_neg (by decide : ¬ ((12 : Int32) = (3 : Int32))), if_neg (by decide : ¬ ((12 : Int32) = (4 : Int32))), if_neg (by decide : ¬ ((12 : Int32) = (5 : Int32))), if_neg (by decide : ¬ ((12 : Int32) = (6 : Int32))), if_neg (by decide : ¬ ((12 : Int32) = (7 : Int32)))]
    rw [r293]
    show G T292 (mkF m 194 ls291 [(.int 1)])
    refine step (fun t k => XS.iload X292.here hx rfl (hb hby at_194) (by rw [hls291]; rfl) k) ?_
    show G T292 (mkF m 196 ls291 [(.int 0), (.int 1)])
    refine step (fun t k => XS.ifNo X292.here hx rfl (hb hby at_196) rfl ((if0 _ _).trans (teq (by decide : (0 : Int32) = (0 : Int32))).2) k) ?_
    show G T292 (mkF m 199 ls291 [(.int 1)])
    refine step (fun t k => XS.iconst X292.here hx rfl (hb hby at_199) k) ?_
    show G T292 (mkF m 200 ls291 [(.int 1), (.int 1)])
    refine step (fun t k => XS.goto X292.here hx rfl (pc0 := 200) (pc' := 204) rfl (hb hby at_200) (by decide) (by decide) k) ?_
    show G T292 (mkF m 204 ls291 [(.int 1), (.int 1)])
    refine step (fun t k => XS.icmpNo X292.here hx rfl (hb hby at_204) rfl (teq (by decide : (1 : Int32) = (1 : Int32))).2 k) ?_
    show G T292 (mkF m 207 ls291 [])
    refine step (fun t k => XS.iconst X292.here hx rfl (hb hby at_207) k) ?_
    show G T292 (mkF m 208 ls291 [(.int 1)])
    refine step (fun t k => XS.goto X292.here hx rfl (pc0 := 208) (pc' := 212) rfl (hb hby at_208) (by decide) (by decide) k) ?_
    show G T292 (mkF m 212 ls291 [(.int 1)])
    exact ret (v := some (.int 1)) X292 (fun h => by rw [Bd.returns] at h; cases h) (fun fs hr => retN X292 hx (t := .boolean) Bd.returns (by simp) (hb hby at_212) hr) e292 ⟨rfl, N292⟩ (by decide) (by decide)
  · rw [hk]
    show G T31 (mkF m 113 ls32 [(.int 13), (.ref b1)])
    have q294 := own_ldR X31 hx hZ e31 V31 (j := (13 : Int32)) (v := (.ref w_RESOLUTION_ERROR)) (by decide) (own_at (i := 13) rfl rfl) rfl (g := (mkF m 113 ls32 [(.int 13), (.ref b1)])) rfl rfl (hb hby at_113)
    refine step q294 ?_
    show G T31 (mkF m 114 ls32 [(.ref w_RESOLUTION_ERROR)])
    obtain ⟨ls295, hls295⟩  := own_sl #[.val (.int p0), .val (.ref b1), .val (.ref w_RESOLUTION_ERROR), .unset, .unset, .unset, .unset, .unset, .unset]
    refine step (fun t k => XS.astoreN X31.here hx rfl (hb hby at_114) rfl rfl (l' := ls295) (by rw [hls32, hls295]; rfl) k) ?_
    show G T31 (mkF m 115 ls295 [])
    refine step (fun t k => XS.sipush X31.here hx rfl (hb hby at_115) k) ?_
    show G T31 (mkF m 118 ls295 [(.int 400)])
    have hK296 := (backOf (R := room_1) (p := p) (e := e) (below := below) (s := s) (args := #[(.int p0)]) (len := 3) (W := 0) (rm_of400 l Z a0 hw [] w_DELIVERED w_BAD_REQUEST w_UNAUTHORIZED w_FORBIDDEN w_NOT_FOUND w_GONE w_TIMED_OUT w_PAYLOAD_TOO_LARGE w_BUSY w_REDIRECTED w_SERVER_ERROR w_FAILED w_SOCKET_ERROR w_RESOLUTION_ERROR w_PROBATION h31 n0 (own_old_le O31) ST O31) hZ (ww37 hw) (ww3 hw) (by decide) (by decide))
    obtain ⟨_, _, ⟨T296, L296, k296, n296⟩, -, X296, ⟨Lc296, hQ296, l296, y296, z296⟩, st296⟩ := Jvm.LawKit.callS X31 hx (y := y_0) hown (mvT hZ (ww35 hw)) (mvT hZ (ww36 hw)) (mvT hZ (ww3 hw)) (mvT hZ (ww37 hw)) (by decide) hK296 (g := (mkF m 118 ls295 [(.int 400)])) rfl (by rw [hml, hls295]; rfl) (argsL := [(.int 400)]) (rest := []) (lenOf pd_1 rfl) rfl (by show 2 * 0 + _ ≤ _; exact Nat.le_of_eq rfl) (hb hby at_118) (fun _ _ => ⟨rfl, e31, (by decide : 1 + 0 ≤ _), (by decide : 15 + 0 ≤ _)⟩)
    dsimp only [Pt.U, Pt.locs, Pt.cells, Pt.slots] at X296 l296 y296 z296 st296 hQ296
    subst l296 y296 z296
    obtain ⟨rfl, N296q, e296⟩ := hQ296
    have N296 := Fr.app N31 N296q
    obtain ⟨lc296, X296, N296⟩ := own_gen X296 N296
    refine step (fun t k => st296 t k) ?_
    show G T296 (mkF m 121 ls295 [(.ref (f_of400 w_DELIVERED w_BAD_REQUEST w_UNAUTHORIZED w_FORBIDDEN w_NOT_FOUND w_GONE w_TIMED_OUT w_PAYLOAD_TOO_LARGE w_BUSY w_REDIRECTED w_SERVER_ERROR w_FAILED w_SOCKET_ERROR w_RESOLUTION_ERROR w_PROBATION))])
    have r297 : (f_of400 w_DELIVERED w_BAD_REQUEST w_UNAUTHORIZED w_FORBIDDEN w_NOT_FOUND w_GONE w_TIMED_OUT w_PAYLOAD_TOO_LARGE w_BUSY w_REDIRECTED w_SERVER_ERROR w_FAILED w_SOCKET_ERROR w_RESOLUTION_ERROR w_PROBATION) = w_BAD_REQUEST := rfl
    rw [r297]
    show G T296 (mkF m 121 ls295 [(.ref w_BAD_REQUEST)])
    obtain ⟨ls298, hls298⟩  := own_sl #[.val (.int p0), .val (.ref b1), .val (.ref w_RESOLUTION_ERROR), .val (.ref w_BAD_REQUEST), .unset, .unset, .unset, .unset, .unset]
    refine step (fun t k => XS.astoreN X296.here hx rfl (hb hby at_121) rfl rfl (l' := ls298) (by rw [hls295, hls298]; rfl) k) ?_
    show G T296 (mkF m 122 ls298 [])
    refine step (fun t k => XS.sipush X296.here hx rfl (hb hby at_122) k) ?_
    show G T296 (mkF m 125 ls298 [(.int 401)])
    have hK299 := (backOf (R := room_1) (p := p) (e := e) (below := below) (s := s) (args := #[(.int p0)]) (len := 3) (W := 0) (rm_of401 l Z a0 hw [] w_DELIVERED w_BAD_REQUEST w_UNAUTHORIZED w_FORBIDDEN w_NOT_FOUND w_GONE w_TIMED_OUT w_PAYLOAD_TOO_LARGE w_BUSY w_REDIRECTED w_SERVER_ERROR w_FAILED w_SOCKET_ERROR w_RESOLUTION_ERROR w_PROBATION h31 n0 (own_old_le O31) ST O31) hZ (ww37 hw) (ww3 hw) (by decide) (by decide))
    obtain ⟨_, _, ⟨T299, L299, k299, n299⟩, -, X299, ⟨Lc299, hQ299, l299, y299, z299⟩, st299⟩ := Jvm.LawKit.callS X296 hx (y := y_0) hown (mvT hZ (ww35 hw)) (mvT hZ (ww36 hw)) (mvT hZ (ww3 hw)) (mvT hZ (ww37 hw)) (by decide) hK299 (g := (mkF m 125 ls298 [(.int 401)])) rfl (by rw [hml, hls298]; rfl) (argsL := [(.int 401)]) (rest := []) (lenOf pd_1 rfl) rfl (by show 2 * 0 + _ ≤ _; exact Nat.le_of_eq rfl) (hb hby at_125) (fun _ _ => ⟨rfl, e296, (by decide : 1 + 0 ≤ _), (by decide : 15 + 0 ≤ _)⟩)
    dsimp only [Pt.U, Pt.locs, Pt.cells, Pt.slots] at X299 l299 y299 z299 st299 hQ299
    subst l299 y299 z299
    obtain ⟨rfl, N299q, e299⟩ := hQ299
    have N299 := Fr.app N296 N299q
    obtain ⟨lc299, X299, N299⟩ := own_gen X299 N299
    refine step (fun t k => st299 t k) ?_
    show G T299 (mkF m 128 ls298 [(.ref (f_of401 w_DELIVERED w_BAD_REQUEST w_UNAUTHORIZED w_FORBIDDEN w_NOT_FOUND w_GONE w_TIMED_OUT w_PAYLOAD_TOO_LARGE w_BUSY w_REDIRECTED w_SERVER_ERROR w_FAILED w_SOCKET_ERROR w_RESOLUTION_ERROR w_PROBATION))])
    have r300 : (f_of401 w_DELIVERED w_BAD_REQUEST w_UNAUTHORIZED w_FORBIDDEN w_NOT_FOUND w_GONE w_TIMED_OUT w_PAYLOAD_TOO_LARGE w_BUSY w_REDIRECTED w_SERVER_ERROR w_FAILED w_SOCKET_ERROR w_RESOLUTION_ERROR w_PROBATION) = w_UNAUTHORIZED := rfl
    rw [r300]
    show G T299 (mkF m 128 ls298 [(.ref w_UNAUTHORIZED)])
    obtain ⟨ls301, hls301⟩  := own_sl #[.val (.int p0), .val (.ref b1), .val (.ref w_RESOLUTION_ERROR), .val (.ref w_BAD_REQUEST), .val (.ref w_UNAUTHORIZED), .unset, .unset, .unset, .unset]
    refine step (fun t k => XS.astore X299.here hx rfl (hb hby at_128) rfl rfl (l' := ls301) (by rw [hls298, hls301]; rfl) k) ?_
    show G T299 (mkF m 130 ls301 [])
    refine step (fun t k => XS.sipush X299.here hx rfl (hb hby at_130) k) ?_
    show G T299 (mkF m 133 ls301 [(.int 403)])
    have hK302 := (backOf (R := room_1) (p := p) (e := e) (below := below) (s := s) (args := #[(.int p0)]) (len := 3) (W := 0) (rm_of403 l Z a0 hw [] w_DELIVERED w_BAD_REQUEST w_UNAUTHORIZED w_FORBIDDEN w_NOT_FOUND w_GONE w_TIMED_OUT w_PAYLOAD_TOO_LARGE w_BUSY w_REDIRECTED w_SERVER_ERROR w_FAILED w_SOCKET_ERROR w_RESOLUTION_ERROR w_PROBATION h31 n0 (own_old_le O31) ST O31) hZ (ww37 hw) (ww3 hw) (by decide) (by decide))
    obtain ⟨_, _, ⟨T302, L302, k302, n302⟩, -, X302, ⟨Lc302, hQ302, l302, y302, z302⟩, st302⟩ := Jvm.LawKit.callS X299 hx (y := y_0) hown (mvT hZ (ww35 hw)) (mvT hZ (ww36 hw)) (mvT hZ (ww3 hw)) (mvT hZ (ww37 hw)) (by decide) hK302 (g := (mkF m 133 ls301 [(.int 403)])) rfl (by rw [hml, hls301]; rfl) (argsL := [(.int 403)]) (rest := []) (lenOf pd_1 rfl) rfl (by show 2 * 0 + _ ≤ _; exact Nat.le_of_eq rfl) (hb hby at_133) (fun _ _ => ⟨rfl, e299, (by decide : 1 + 0 ≤ _), (by decide : 15 + 0 ≤ _)⟩)
    dsimp only [Pt.U, Pt.locs, Pt.cells, Pt.slots] at X302 l302 y302 z302 st302 hQ302
    subst l302 y302 z302
    obtain ⟨rfl, N302q, e302⟩ := hQ302
    have N302 := Fr.app N299 N302q
    obtain ⟨lc302, X302, N302⟩ := own_gen X302 N302
    refine step (fun t k => st302 t k) ?_
    show G T302 (mkF m 136 ls301 [(.ref (f_of403 w_DELIVERED w_BAD_REQUEST w_UNAUTHORIZED w_FORBIDDEN w_NOT_FOUND w_GONE w_TIMED_OUT w_PAYLOAD_TOO_LARGE w_BUSY w_REDIRECTED w_SERVER_ERROR w_FAILED w_SOCKET_ERROR w_RESOLUTION_ERROR w_PROBATION))])
    have r303 : (f_of403 w_DELIVERED w_BAD_REQUEST w_UNAUTHORIZED w_FORBIDDEN w_NOT_FOUND w_GONE w_TIMED_OUT w_PAYLOAD_TOO_LARGE w_BUSY w_REDIRECTED w_SERVER_ERROR w_FAILED w_SOCKET_ERROR w_RESOLUTION_ERROR w_PROBATION) = w_FORBIDDEN := rfl
    rw [r303]
    show G T302 (mkF m 136 ls301 [(.ref w_FORBIDDEN)])
    obtain ⟨ls304, hls304⟩  := own_sl #[.val (.int p0), .val (.ref b1), .val (.ref w_RESOLUTION_ERROR), .val (.ref w_BAD_REQUEST), .val (.ref w_UNAUTHORIZED), .val (.ref w_FORBIDDEN), .unset, .unset, .unset]
    refine step (fun t k => XS.astore X302.here hx rfl (hb hby at_136) rfl rfl (l' := ls304) (by rw [hls301, hls304]; rfl) k) ?_
    show G T302 (mkF m 138 ls304 [])
    refine step (fun t k => XS.sipush X302.here hx rfl (hb hby at_138) k) ?_
    show G T302 (mkF m 141 ls304 [(.int 410)])
    have hK305 := (backOf (R := room_1) (p := p) (e := e) (below := below) (s := s) (args := #[(.int p0)]) (len := 3) (W := 0) (rm_of410 l Z a0 hw [] w_DELIVERED w_BAD_REQUEST w_UNAUTHORIZED w_FORBIDDEN w_NOT_FOUND w_GONE w_TIMED_OUT w_PAYLOAD_TOO_LARGE w_BUSY w_REDIRECTED w_SERVER_ERROR w_FAILED w_SOCKET_ERROR w_RESOLUTION_ERROR w_PROBATION h31 n0 (own_old_le O31) ST O31) hZ (ww37 hw) (ww3 hw) (by decide) (by decide))
    obtain ⟨_, _, ⟨T305, L305, k305, n305⟩, -, X305, ⟨Lc305, hQ305, l305, y305, z305⟩, st305⟩ := Jvm.LawKit.callS X302 hx (y := y_0) hown (mvT hZ (ww35 hw)) (mvT hZ (ww36 hw)) (mvT hZ (ww3 hw)) (mvT hZ (ww37 hw)) (by decide) hK305 (g := (mkF m 141 ls304 [(.int 410)])) rfl (by rw [hml, hls304]; rfl) (argsL := [(.int 410)]) (rest := []) (lenOf pd_1 rfl) rfl (by show 2 * 0 + _ ≤ _; exact Nat.le_of_eq rfl) (hb hby at_141) (fun _ _ => ⟨rfl, e302, (by decide : 1 + 0 ≤ _), (by decide : 15 + 0 ≤ _)⟩)
    dsimp only [Pt.U, Pt.locs, Pt.cells, Pt.slots] at X305 l305 y305 z305 st305 hQ305
    subst l305 y305 z305
    obtain ⟨rfl, N305q, e305⟩ := hQ305
    have N305 := Fr.app N302 N305q
    obtain ⟨lc305, X305, N305⟩ := own_gen X305 N305
    refine step (fun t k => st305 t k) ?_
    show G T305 (mkF m 144 ls304 [(.ref (f_of410 w_DELIVERED w_BAD_REQUEST w_UNAUTHORIZED w_FORBIDDEN w_NOT_FOUND w_GONE w_TIMED_OUT w_PAYLOAD_TOO_LARGE w_BUSY w_REDIRECTED w_SERVER_ERROR w_FAILED w_SOCKET_ERROR w_RESOLUTION_ERROR w_PROBATION))])
    have r306 : (f_of410 w_DELIVERED w_BAD_REQUEST w_UNAUTHORIZED w_FORBIDDEN w_NOT_FOUND w_GONE w_TIMED_OUT w_PAYLOAD_TOO_LARGE w_BUSY w_REDIRECTED w_SERVER_ERROR w_FAILED w_SOCKET_ERROR w_RESOLUTION_ERROR w_PROBATION) = w_GONE := rfl
    rw [r306]
    show G T305 (mkF m 144 ls304 [(.ref w_GONE)])
    obtain ⟨ls307, hls307⟩  := own_sl #[.val (.int p0), .val (.ref b1), .val (.ref w_RESOLUTION_ERROR), .val (.ref w_BAD_REQUEST), .val (.ref w_UNAUTHORIZED), .val (.ref w_FORBIDDEN), .val (.ref w_GONE), .unset, .unset]
    refine step (fun t k => XS.astore X305.here hx rfl (hb hby at_144) rfl rfl (l' := ls307) (by rw [hls304, hls307]; rfl) k) ?_
    show G T305 (mkF m 146 ls307 [])
    refine step (fun t k => XS.sipush X305.here hx rfl (hb hby at_146) k) ?_
    show G T305 (mkF m 149 ls307 [(.int 413)])
    have hK308 := (backOf (R := room_1) (p := p) (e := e) (below := below) (s := s) (args := #[(.int p0)]) (len := 3) (W := 0) (rm_of413 l Z a0 hw [] w_DELIVERED w_BAD_REQUEST w_UNAUTHORIZED w_FORBIDDEN w_NOT_FOUND w_GONE w_TIMED_OUT w_PAYLOAD_TOO_LARGE w_BUSY w_REDIRECTED w_SERVER_ERROR w_FAILED w_SOCKET_ERROR w_RESOLUTION_ERROR w_PROBATION h31 n0 (own_old_le O31) ST O31) hZ (ww37 hw) (ww3 hw) (by decide) (by decide))
    obtain ⟨_, _, ⟨T308, L308, k308, n308⟩, -, X308, ⟨Lc308, hQ308, l308, y308, z308⟩, st308⟩ := Jvm.LawKit.callS X305 hx (y := y_0) hown (mvT hZ (ww35 hw)) (mvT hZ (ww36 hw)) (mvT hZ (ww3 hw)) (mvT hZ (ww37 hw)) (by decide) hK308 (g := (mkF m 149 ls307 [(.int 413)])) rfl (by rw [hml, hls307]; rfl) (argsL := [(.int 413)]) (rest := []) (lenOf pd_1 rfl) rfl (by show 2 * 0 + _ ≤ _; exact Nat.le_of_eq rfl) (hb hby at_149) (fun _ _ => ⟨rfl, e305, (by decide : 1 + 0 ≤ _), (by decide : 15 + 0 ≤ _)⟩)
    dsimp only [Pt.U, Pt.locs, Pt.cells, Pt.slots] at X308 l308 y308 z308 st308 hQ308
    subst l308 y308 z308
    obtain ⟨rfl, N308q, e308⟩ := hQ308
    have N308 := Fr.app N305 N308q
    obtain ⟨lc308, X308, N308⟩ := own_gen X308 N308
    refine step (fun t k => st308 t k) ?_
    show G T308 (mkF m 152 ls307 [(.ref (f_of413 w_DELIVERED w_BAD_REQUEST w_UNAUTHORIZED w_FORBIDDEN w_NOT_FOUND w_GONE w_TIMED_OUT w_PAYLOAD_TOO_LARGE w_BUSY w_REDIRECTED w_SERVER_ERROR w_FAILED w_SOCKET_ERROR w_RESOLUTION_ERROR w_PROBATION))])
    have r309 : (f_of413 w_DELIVERED w_BAD_REQUEST w_UNAUTHORIZED w_FORBIDDEN w_NOT_FOUND w_GONE w_TIMED_OUT w_PAYLOAD_TOO_LARGE w_BUSY w_REDIRECTED w_SERVER_ERROR w_FAILED w_SOCKET_ERROR w_RESOLUTION_ERROR w_PROBATION) = w_PAYLOAD_TOO_LARGE := rfl
    rw [r309]
    show G T308 (mkF m 152 ls307 [(.ref w_PAYLOAD_TOO_LARGE)])
    obtain ⟨ls310, hls310⟩  := own_sl #[.val (.int p0), .val (.ref b1), .val (.ref w_RESOLUTION_ERROR), .val (.ref w_BAD_REQUEST), .val (.ref w_UNAUTHORIZED), .val (.ref w_FORBIDDEN), .val (.ref w_GONE), .val (.ref w_PAYLOAD_TOO_LARGE), .unset]
    refine step (fun t k => XS.astore X308.here hx rfl (hb hby at_152) rfl rfl (l' := ls310) (by rw [hls307, hls310]; rfl) k) ?_
    show G T308 (mkF m 154 ls310 [])
    refine step (fun t k => XS.aloadN X308.here hx rfl (hb hby at_154) (by rw [hls310]; rfl) rfl k) ?_
    show G T308 (mkF m 155 ls310 [(.ref w_RESOLUTION_ERROR)])
    refine step (fun t k => XS.aloadN X308.here hx rfl (hb hby at_155) (by rw [hls310]; rfl) rfl k) ?_
    show G T308 (mkF m 156 ls310 [(.ref w_BAD_REQUEST), (.ref w_RESOLUTION_ERROR)])
    refine step (fun t k => Jvm.RoadKit.acmp X308 hx rfl rfl rfl (pc0 := 156) (pc' := 159) (same := false) rfl (hb hby at_156) rfl (decide_eq_false fun q => (Fld.ne ST.k36 ST.k31 (fun q => absurd (Value.int.inj q) (by decide))) (Value.ref.inj q)) (by decide) (by decide) k) ?_
    show G T308 (mkF m 159 ls310 [])
    refine step (fun t k => XS.aloadN X308.here hx rfl (hb hby at_159) (by rw [hls310]; rfl) rfl k) ?_
    show G T308 (mkF m 160 ls310 [(.ref w_RESOLUTION_ERROR)])
    refine step (fun t k => XS.aload X308.here hx rfl (hb hby at_160) (by rw [hls310]; rfl) rfl k) ?_
    show G T308 (mkF m 162 ls310 [(.ref w_UNAUTHORIZED), (.ref w_RESOLUTION_ERROR)])
    refine step (fun t k => Jvm.RoadKit.acmp X308 hx rfl rfl rfl (pc0 := 162) (pc' := 165) (same := false) rfl (hb hby at_162) rfl (decide_eq_false fun q => (Fld.ne ST.k36 ST.k32 (fun q => absurd (Value.int.inj q) (by decide))) (Value.ref.inj q)) (by decide) (by decide) k) ?_
    show G T308 (mkF m 165 ls310 [])
    refine step (fun t k => XS.aloadN X308.here hx rfl (hb hby at_165) (by rw [hls310]; rfl) rfl k) ?_
    show G T308 (mkF m 166 ls310 [(.ref w_RESOLUTION_ERROR)])
    refine step (fun t k => XS.aload X308.here hx rfl (hb hby at_166) (by rw [hls310]; rfl) rfl k) ?_
    show G T308 (mkF m 168 ls310 [(.ref w_FORBIDDEN), (.ref w_RESOLUTION_ERROR)])
    refine step (fun t k => Jvm.RoadKit.acmp X308 hx rfl rfl rfl (pc0 := 168) (pc' := 171) (same := false) rfl (hb hby at_168) rfl (decide_eq_false fun q => (Fld.ne ST.k36 ST.k33 (fun q => absurd (Value.int.inj q) (by decide))) (Value.ref.inj q)) (by decide) (by decide) k) ?_
    show G T308 (mkF m 171 ls310 [])
    refine step (fun t k => XS.aloadN X308.here hx rfl (hb hby at_171) (by rw [hls310]; rfl) rfl k) ?_
    show G T308 (mkF m 172 ls310 [(.ref w_RESOLUTION_ERROR)])
    refine step (fun t k => XS.aload X308.here hx rfl (hb hby at_172) (by rw [hls310]; rfl) rfl k) ?_
    show G T308 (mkF m 174 ls310 [(.ref w_GONE), (.ref w_RESOLUTION_ERROR)])
    refine step (fun t k => Jvm.RoadKit.acmp X308 hx rfl rfl rfl (pc0 := 174) (pc' := 177) (same := false) rfl (hb hby at_174) rfl (decide_eq_false fun q => (Fld.ne ST.k36 ST.k34 (fun q => absurd (Value.int.inj q) (by decide))) (Value.ref.inj q)) (by decide) (by decide) k) ?_
    show G T308 (mkF m 177 ls310 [])
    refine step (fun t k => XS.aloadN X308.here hx rfl (hb hby at_177) (by rw [hls310]; rfl) rfl k) ?_
    show G T308 (mkF m 178 ls310 [(.ref w_RESOLUTION_ERROR)])
    refine step (fun t k => XS.aload X308.here hx rfl (hb hby at_178) (by rw [hls310]; rfl) rfl k) ?_
    show G T308 (mkF m 180 ls310 [(.ref w_PAYLOAD_TOO_LARGE), (.ref w_RESOLUTION_ERROR)])
    refine step (fun t k => Jvm.RoadKit.acmp X308 hx rfl rfl rfl (pc0 := 180) (pc' := 187) (same := false) rfl (hb hby at_180) rfl (decide_eq_false fun q => (Fld.ne ST.k36 ST.k35 (fun q => absurd (Value.int.inj q) (by decide))) (Value.ref.inj q)) (by decide) (by decide) k) ?_
    show G T308 (mkF m 187 ls310 [])
    refine step (fun t k => XS.iconst X308.here hx rfl (hb hby at_187) k) ?_
    show G T308 (mkF m 188 ls310 [(.int 0)])
    obtain ⟨ls311, hls311⟩  := own_sl #[.val (.int p0), .val (.ref b1), .val (.ref w_RESOLUTION_ERROR), .val (.ref w_BAD_REQUEST), .val (.ref w_UNAUTHORIZED), .val (.ref w_FORBIDDEN), .val (.ref w_GONE), .val (.ref w_PAYLOAD_TOO_LARGE), .val (.int 0)]
    refine step (fun t k => XS.istore X308.here hx rfl (hb hby at_188) rfl (l' := ls311) (by rw [hls310, hls311]; rfl) k) ?_
    show G T308 (mkF m 190 ls311 [])
    refine step (fun t k => XS.aloadN X308.here hx rfl (hb hby at_190) (by rw [hls311]; rfl) rfl k) ?_
    show G T308 (mkF m 191 ls311 [(.ref w_RESOLUTION_ERROR)])
    have hK312 := (backOf (R := room_1) (p := p) (e := e) (below := below) (s := s) (args := #[(.int p0)]) (len := 3) (W := 0) (rm_retr l Z a0 hw [] w_DELIVERED w_BAD_REQUEST w_UNAUTHORIZED w_FORBIDDEN w_NOT_FOUND w_GONE w_TIMED_OUT w_PAYLOAD_TOO_LARGE w_BUSY w_REDIRECTED w_SERVER_ERROR w_FAILED w_SOCKET_ERROR w_RESOLUTION_ERROR w_PROBATION w_RESOLUTION_ERROR (13 : Int32) h31 n0 (own_old_le O31) ST O31 (Exa.ext O31.2 ST.k27) (Fld.ext O31.2 ST.k36)) hZ (ww47 hw) (ww3 hw) (by decide) (by decide))
    obtain ⟨cq312, kq312, q312a, q312b, q312c⟩ := isOf hZ e308 (Exa.ext O31.2 ST.k27)
    obtain ⟨_, _, ⟨T312, L312, k312, n312⟩, -, X312, ⟨Lc312, hQ312, l312, y312, z312⟩, st312⟩ := X308.virtualBack hx (y := y_3) (z := y_3) hown (mvT hZ (ww43 hw)) (mvT hZ (ww44 hw)) (notFace_of_selects (args := #[]) (mvT hZ (ww46 hw))) (mvT hZ (ww46 hw)) (mvT hZ (ww45 hw)) (by decide) hK312 q312a q312c (g := (mkF m 191 ls311 [(.ref w_RESOLUTION_ERROR)])) rfl (by rw [hml, hls311]; rfl) (Steps.refl _) (argsL := []) (rest := []) (lenOf pd_2 rfl) rfl (by show 2 * 0 + _ ≤ _; exact Nat.le_of_eq rfl) (hb hby at_191) (fun _ _ => ⟨rfl, e308, (by decide : 1 + 0 ≤ _), (by decide : 15 + 0 ≤ _)⟩)
    dsimp only [Pt.U, Pt.locs, Pt.cells, Pt.slots] at X312 l312 y312 z312 st312 hQ312
    subst l312 y312 z312
    obtain ⟨rfl, N312q, e312⟩ := hQ312
    have N312 := Fr.app N308 N312q
    obtain ⟨lc312, X312, N312⟩ := own_gen X312 N312
    refine step (fun t k => st312.trans k) ?_
    show G T312 (mkF m 194 ls311 [(.int (f_retr w_DELIVERED w_BAD_REQUEST w_UNAUTHORIZED w_FORBIDDEN w_NOT_FOUND w_GONE w_TIMED_OUT w_PAYLOAD_TOO_LARGE w_BUSY w_REDIRECTED w_SERVER_ERROR w_FAILED w_SOCKET_ERROR w_RESOLUTION_ERROR w_PROBATION w_RESOLUTION_ERROR (13 : Int32)))])
    have r313 : (f_retr w_DELIVERED w_BAD_REQUEST w_UNAUTHORIZED w_FORBIDDEN w_NOT_FOUND w_GONE w_TIMED_OUT w_PAYLOAD_TOO_LARGE w_BUSY w_REDIRECTED w_SERVER_ERROR w_FAILED w_SOCKET_ERROR w_RESOLUTION_ERROR w_PROBATION w_RESOLUTION_ERROR (13 : Int32)) = (1 : Int32) := by
      unfold f_retr
      rw [if_neg (by decide : ¬ ((13 : Int32) = (1 : Int32))), if_neg (by decide : ¬ ((13 : Int32) = (2 : Int32))), if_neg (by decide : ¬ ((13 : Int32) = (3 : Int32))), if_neg (by decide : ¬ ((13 : Int32) = (4 : Int32))), if_neg (by decide : ¬ ((13 : Int32) = (5 : Int32))), if_neg (by decide : ¬ ((13 : Int32) = (6 : Int32))), if_neg (by decide : ¬ ((13 : Int32) = (7 : Int32)))]
    rw [r313]
    show G T312 (mkF m 194 ls311 [(.int 1)])
    refine step (fun t k => XS.iload X312.here hx rfl (hb hby at_194) (by rw [hls311]; rfl) k) ?_
    show G T312 (mkF m 196 ls311 [(.int 0), (.int 1)])
    refine step (fun t k => XS.ifNo X312.here hx rfl (hb hby at_196) rfl ((if0 _ _).trans (teq (by decide : (0 : Int32) = (0 : Int32))).2) k) ?_
    show G T312 (mkF m 199 ls311 [(.int 1)])
    refine step (fun t k => XS.iconst X312.here hx rfl (hb hby at_199) k) ?_
    show G T312 (mkF m 200 ls311 [(.int 1), (.int 1)])
    refine step (fun t k => XS.goto X312.here hx rfl (pc0 := 200) (pc' := 204) rfl (hb hby at_200) (by decide) (by decide) k) ?_
    show G T312 (mkF m 204 ls311 [(.int 1), (.int 1)])
    refine step (fun t k => XS.icmpNo X312.here hx rfl (hb hby at_204) rfl (teq (by decide : (1 : Int32) = (1 : Int32))).2 k) ?_
    show G T312 (mkF m 207 ls311 [])
    refine step (fun t k => XS.iconst X312.here hx rfl (hb hby at_207) k) ?_
    show G T312 (mkF m 208 ls311 [(.int 1)])
    refine step (fun t k => XS.goto X312.here hx rfl (pc0 := 208) (pc' := 212) rfl (hb hby at_208) (by decide) (by decide) k) ?_
    show G T312 (mkF m 212 ls311 [(.int 1)])
    exact ret (v := some (.int 1)) X312 (fun h => by rw [Bd.returns] at h; cases h) (fun fs hr => retN X312 hx (t := .boolean) Bd.returns (by simp) (hb hby at_212) hr) e312 ⟨rfl, N312⟩ (by decide) (by decide)
  · rw [hk]
    show G T31 (mkF m 113 ls32 [(.int 14), (.ref b1)])
    have q314 := own_ldR X31 hx hZ e31 V31 (j := (14 : Int32)) (v := (.ref w_PROBATION)) (by decide) (own_at (i := 14) rfl rfl) rfl (g := (mkF m 113 ls32 [(.int 14), (.ref b1)])) rfl rfl (hb hby at_113)
    refine step q314 ?_
    show G T31 (mkF m 114 ls32 [(.ref w_PROBATION)])
    obtain ⟨ls315, hls315⟩  := own_sl #[.val (.int p0), .val (.ref b1), .val (.ref w_PROBATION), .unset, .unset, .unset, .unset, .unset, .unset]
    refine step (fun t k => XS.astoreN X31.here hx rfl (hb hby at_114) rfl rfl (l' := ls315) (by rw [hls32, hls315]; rfl) k) ?_
    show G T31 (mkF m 115 ls315 [])
    refine step (fun t k => XS.sipush X31.here hx rfl (hb hby at_115) k) ?_
    show G T31 (mkF m 118 ls315 [(.int 400)])
    have hK316 := (backOf (R := room_1) (p := p) (e := e) (below := below) (s := s) (args := #[(.int p0)]) (len := 3) (W := 0) (rm_of400 l Z a0 hw [] w_DELIVERED w_BAD_REQUEST w_UNAUTHORIZED w_FORBIDDEN w_NOT_FOUND w_GONE w_TIMED_OUT w_PAYLOAD_TOO_LARGE w_BUSY w_REDIRECTED w_SERVER_ERROR w_FAILED w_SOCKET_ERROR w_RESOLUTION_ERROR w_PROBATION h31 n0 (own_old_le O31) ST O31) hZ (ww37 hw) (ww3 hw) (by decide) (by decide))
    obtain ⟨_, _, ⟨T316, L316, k316, n316⟩, -, X316, ⟨Lc316, hQ316, l316, y316, z316⟩, st316⟩ := Jvm.LawKit.callS X31 hx (y := y_0) hown (mvT hZ (ww35 hw)) (mvT hZ (ww36 hw)) (mvT hZ (ww3 hw)) (mvT hZ (ww37 hw)) (by decide) hK316 (g := (mkF m 118 ls315 [(.int 400)])) rfl (by rw [hml, hls315]; rfl) (argsL := [(.int 400)]) (rest := []) (lenOf pd_1 rfl) rfl (by show 2 * 0 + _ ≤ _; exact Nat.le_of_eq rfl) (hb hby at_118) (fun _ _ => ⟨rfl, e31, (by decide : 1 + 0 ≤ _), (by decide : 15 + 0 ≤ _)⟩)
    dsimp only [Pt.U, Pt.locs, Pt.cells, Pt.slots] at X316 l316 y316 z316 st316 hQ316
    subst l316 y316 z316
    obtain ⟨rfl, N316q, e316⟩ := hQ316
    have N316 := Fr.app N31 N316q
    obtain ⟨lc316, X316, N316⟩ := own_gen X316 N316
    refine step (fun t k => st316 t k) ?_
    show G T316 (mkF m 121 ls315 [(.ref (f_of400 w_DELIVERED w_BAD_REQUEST w_UNAUTHORIZED w_FORBIDDEN w_NOT_FOUND w_GONE w_TIMED_OUT w_PAYLOAD_TOO_LARGE w_BUSY w_REDIRECTED w_SERVER_ERROR w_FAILED w_SOCKET_ERROR w_RESOLUTION_ERROR w_PROBATION))])
    have r317 : (f_of400 w_DELIVERED w_BAD_REQUEST w_UNAUTHORIZED w_FORBIDDEN w_NOT_FOUND w_GONE w_TIMED_OUT w_PAYLOAD_TOO_LARGE w_BUSY w_REDIRECTED w_SERVER_ERROR w_FAILED w_SOCKET_ERROR w_RESOLUTION_ERROR w_PROBATION) = w_BAD_REQUEST := rfl
    rw [r317]
    show G T316 (mkF m 121 ls315 [(.ref w_BAD_REQUEST)])
    obtain ⟨ls318, hls318⟩  := own_sl #[.val (.int p0), .val (.ref b1), .val (.ref w_PROBATION), .val (.ref w_BAD_REQUEST), .unset, .unset, .unset, .unset, .unset]
    refine step (fun t k => XS.astoreN X316.here hx rfl (hb hby at_121) rfl rfl (l' := ls318) (by rw [hls315, hls318]; rfl) k) ?_
    show G T316 (mkF m 122 ls318 [])
    refine step (fun t k => XS.sipush X316.here hx rfl (hb hby at_122) k) ?_
    show G T316 (mkF m 125 ls318 [(.int 401)])
    have hK319 := (backOf (R := room_1) (p := p) (e := e) (below := below) (s := s) (args := #[(.int p0)]) (len := 3) (W := 0) (rm_of401 l Z a0 hw [] w_DELIVERED w_BAD_REQUEST w_UNAUTHORIZED w_FORBIDDEN w_NOT_FOUND w_GONE w_TIMED_OUT w_PAYLOAD_TOO_LARGE w_BUSY w_REDIRECTED w_SERVER_ERROR w_FAILED w_SOCKET_ERROR w_RESOLUTION_ERROR w_PROBATION h31 n0 (own_old_le O31) ST O31) hZ (ww37 hw) (ww3 hw) (by decide) (by decide))
    obtain ⟨_, _, ⟨T319, L319, k319, n319⟩, -, X319, ⟨Lc319, hQ319, l319, y319, z319⟩, st319⟩ := Jvm.LawKit.callS X316 hx (y := y_0) hown (mvT hZ (ww35 hw)) (mvT hZ (ww36 hw)) (mvT hZ (ww3 hw)) (mvT hZ (ww37 hw)) (by decide) hK319 (g := (mkF m 125 ls318 [(.int 401)])) rfl (by rw [hml, hls318]; rfl) (argsL := [(.int 401)]) (rest := []) (lenOf pd_1 rfl) rfl (by show 2 * 0 + _ ≤ _; exact Nat.le_of_eq rfl) (hb hby at_125) (fun _ _ => ⟨rfl, e316, (by decide : 1 + 0 ≤ _), (by decide : 15 + 0 ≤ _)⟩)
    dsimp only [Pt.U, Pt.locs, Pt.cells, Pt.slots] at X319 l319 y319 z319 st319 hQ319
    subst l319 y319 z319
    obtain ⟨rfl, N319q, e319⟩ := hQ319
    have N319 := Fr.app N316 N319q
    obtain ⟨lc319, X319, N319⟩ := own_gen X319 N319
    refine step (fun t k => st319 t k) ?_
    show G T319 (mkF m 128 ls318 [(.ref (f_of401 w_DELIVERED w_BAD_REQUEST w_UNAUTHORIZED w_FORBIDDEN w_NOT_FOUND w_GONE w_TIMED_OUT w_PAYLOAD_TOO_LARGE w_BUSY w_REDIRECTED w_SERVER_ERROR w_FAILED w_SOCKET_ERROR w_RESOLUTION_ERROR w_PROBATION))])
    have r320 : (f_of401 w_DELIVERED w_BAD_REQUEST w_UNAUTHORIZED w_FORBIDDEN w_NOT_FOUND w_GONE w_TIMED_OUT w_PAYLOAD_TOO_LARGE w_BUSY w_REDIRECTED w_SERVER_ERROR w_FAILED w_SOCKET_ERROR w_RESOLUTION_ERROR w_PROBATION) = w_UNAUTHORIZED := rfl
    rw [r320]
    show G T319 (mkF m 128 ls318 [(.ref w_UNAUTHORIZED)])
    obtain ⟨ls321, hls321⟩  := own_sl #[.val (.int p0), .val (.ref b1), .val (.ref w_PROBATION), .val (.ref w_BAD_REQUEST), .val (.ref w_UNAUTHORIZED), .unset, .unset, .unset, .unset]
    refine step (fun t k => XS.astore X319.here hx rfl (hb hby at_128) rfl rfl (l' := ls321) (by rw [hls318, hls321]; rfl) k) ?_
    show G T319 (mkF m 130 ls321 [])
    refine step (fun t k => XS.sipush X319.here hx rfl (hb hby at_130) k) ?_
    show G T319 (mkF m 133 ls321 [(.int 403)])
    have hK322 := (backOf (R := room_1) (p := p) (e := e) (below := below) (s := s) (args := #[(.int p0)]) (len := 3) (W := 0) (rm_of403 l Z a0 hw [] w_DELIVERED w_BAD_REQUEST w_UNAUTHORIZED w_FORBIDDEN w_NOT_FOUND w_GONE w_TIMED_OUT w_PAYLOAD_TOO_LARGE w_BUSY w_REDIRECTED w_SERVER_ERROR w_FAILED w_SOCKET_ERROR w_RESOLUTION_ERROR w_PROBATION h31 n0 (own_old_le O31) ST O31) hZ (ww37 hw) (ww3 hw) (by decide) (by decide))
    obtain ⟨_, _, ⟨T322, L322, k322, n322⟩, -, X322, ⟨Lc322, hQ322, l322, y322, z322⟩, st322⟩ := Jvm.LawKit.callS X319 hx (y := y_0) hown (mvT hZ (ww35 hw)) (mvT hZ (ww36 hw)) (mvT hZ (ww3 hw)) (mvT hZ (ww37 hw)) (by decide) hK322 (g := (mkF m 133 ls321 [(.int 403)])) rfl (by rw [hml, hls321]; rfl) (argsL := [(.int 403)]) (rest := []) (lenOf pd_1 rfl) rfl (by show 2 * 0 + _ ≤ _; exact Nat.le_of_eq rfl) (hb hby at_133) (fun _ _ => ⟨rfl, e319, (by decide : 1 + 0 ≤ _), (by decide : 15 + 0 ≤ _)⟩)
    dsimp only [Pt.U, Pt.locs, Pt.cells, Pt.slots] at X322 l322 y322 z322 st322 hQ322
    subst l322 y322 z322
    obtain ⟨rfl, N322q, e322⟩ := hQ322
    have N322 := Fr.app N319 N322q
    obtain ⟨lc322, X322, N322⟩ := own_gen X322 N322
    refine step (fun t k => st322 t k) ?_
    show G T322 (mkF m 136 ls321 [(.ref (f_of403 w_DELIVERED w_BAD_REQUEST w_UNAUTHORIZED w_FORBIDDEN w_NOT_FOUND w_GONE w_TIMED_OUT w_PAYLOAD_TOO_LARGE w_BUSY w_REDIRECTED w_SERVER_ERROR w_FAILED w_SOCKET_ERROR w_RESOLUTION_ERROR w_PROBATION))])
    have r323 : (f_of403 w_DELIVERED w_BAD_REQUEST w_UNAUTHORIZED w_FORBIDDEN w_NOT_FOUND w_GONE w_TIMED_OUT w_PAYLOAD_TOO_LARGE w_BUSY w_REDIRECTED w_SERVER_ERROR w_FAILED w_SOCKET_ERROR w_RESOLUTION_ERROR w_PROBATION) = w_FORBIDDEN := rfl
    rw [r323]
    show G T322 (mkF m 136 ls321 [(.ref w_FORBIDDEN)])
    obtain ⟨ls324, hls324⟩  := own_sl #[.val (.int p0), .val (.ref b1), .val (.ref w_PROBATION), .val (.ref w_BAD_REQUEST), .val (.ref w_UNAUTHORIZED), .val (.ref w_FORBIDDEN), .unset, .unset, .unset]
    refine step (fun t k => XS.astore X322.here hx rfl (hb hby at_136) rfl rfl (l' := ls324) (by rw [hls321, hls324]; rfl) k) ?_
    show G T322 (mkF m 138 ls324 [])
    refine step (fun t k => XS.sipush X322.here hx rfl (hb hby at_138) k) ?_
    show G T322 (mkF m 141 ls324 [(.int 410)])
    have hK325 := (backOf (R := room_1) (p := p) (e := e) (below := below) (s := s) (args := #[(.int p0)]) (len := 3) (W := 0) (rm_of410 l Z a0 hw [] w_DELIVERED w_BAD_REQUEST w_UNAUTHORIZED w_FORBIDDEN w_NOT_FOUND w_GONE w_TIMED_OUT w_PAYLOAD_TOO_LARGE w_BUSY w_REDIRECTED w_SERVER_ERROR w_FAILED w_SOCKET_ERROR w_RESOLUTION_ERROR w_PROBATION h31 n0 (own_old_le O31) ST O31) hZ (ww37 hw) (ww3 hw) (by decide) (by decide))
    obtain ⟨_, _, ⟨T325, L325, k325, n325⟩, -, X325, ⟨Lc325, hQ325, l325, y325, z325⟩, st325⟩ := Jvm.LawKit.callS X322 hx (y := y_0) hown (mvT hZ (ww35 hw)) (mvT hZ (ww36 hw)) (mvT hZ (ww3 hw)) (mvT hZ (ww37 hw)) (by decide) hK325 (g := (mkF m 141 ls324 [(.int 410)])) rfl (by rw [hml, hls324]; rfl) (argsL := [(.int 410)]) (rest := []) (lenOf pd_1 rfl) rfl (by show 2 * 0 + _ ≤ _; exact Nat.le_of_eq rfl) (hb hby at_141) (fun _ _ => ⟨rfl, e322, (by decide : 1 + 0 ≤ _), (by decide : 15 + 0 ≤ _)⟩)
    dsimp only [Pt.U, Pt.locs, Pt.cells, Pt.slots] at X325 l325 y325 z325 st325 hQ325
    subst l325 y325 z325
    obtain ⟨rfl, N325q, e325⟩ := hQ325
    have N325 := Fr.app N322 N325q
    obtain ⟨lc325, X325, N325⟩ := own_gen X325 N325
    refine step (fun t k => st325 t k) ?_
    show G T325 (mkF m 144 ls324 [(.ref (f_of410 w_DELIVERED w_BAD_REQUEST w_UNAUTHORIZED w_FORBIDDEN w_NOT_FOUND w_GONE w_TIMED_OUT w_PAYLOAD_TOO_LARGE w_BUSY w_REDIRECTED w_SERVER_ERROR w_FAILED w_SOCKET_ERROR w_RESOLUTION_ERROR w_PROBATION))])
    have r326 : (f_of410 w_DELIVERED w_BAD_REQUEST w_UNAUTHORIZED w_FORBIDDEN w_NOT_FOUND w_GONE w_TIMED_OUT w_PAYLOAD_TOO_LARGE w_BUSY w_REDIRECTED w_SERVER_ERROR w_FAILED w_SOCKET_ERROR w_RESOLUTION_ERROR w_PROBATION) = w_GONE := rfl
    rw [r326]
    show G T325 (mkF m 144 ls324 [(.ref w_GONE)])
    obtain ⟨ls327, hls327⟩  := own_sl #[.val (.int p0), .val (.ref b1), .val (.ref w_PROBATION), .val (.ref w_BAD_REQUEST), .val (.ref w_UNAUTHORIZED), .val (.ref w_FORBIDDEN), .val (.ref w_GONE), .unset, .unset]
    refine step (fun t k => XS.astore X325.here hx rfl (hb hby at_144) rfl rfl (l' := ls327) (by rw [hls324, hls327]; rfl) k) ?_
    show G T325 (mkF m 146 ls327 [])
    refine step (fun t k => XS.sipush X325.here hx rfl (hb hby at_146) k) ?_
    show G T325 (mkF m 149 ls327 [(.int 413)])
    have hK328 := (backOf (R := room_1) (p := p) (e := e) (below := below) (s := s) (args := #[(.int p0)]) (len := 3) (W := 0) (rm_of413 l Z a0 hw [] w_DELIVERED w_BAD_REQUEST w_UNAUTHORIZED w_FORBIDDEN w_NOT_FOUND w_GONE w_TIMED_OUT w_PAYLOAD_TOO_LARGE w_BUSY w_REDIRECTED w_SERVER_ERROR w_FAILED w_SOCKET_ERROR w_RESOLUTION_ERROR w_PROBATION h31 n0 (own_old_le O31) ST O31) hZ (ww37 hw) (ww3 hw) (by decide) (by decide))
    obtain ⟨_, _, ⟨T328, L328, k328, n328⟩, -, X328, ⟨Lc328, hQ328, l328, y328, z328⟩, st328⟩ := Jvm.LawKit.callS X325 hx (y := y_0) hown (mvT hZ (ww35 hw)) (mvT hZ (ww36 hw)) (mvT hZ (ww3 hw)) (mvT hZ (ww37 hw)) (by decide) hK328 (g := (mkF m 149 ls327 [(.int 413)])) rfl (by rw [hml, hls327]; rfl) (argsL := [(.int 413)]) (rest := []) (lenOf pd_1 rfl) rfl (by show 2 * 0 + _ ≤ _; exact Nat.le_of_eq rfl) (hb hby at_149) (fun _ _ => ⟨rfl, e325, (by decide : 1 + 0 ≤ _), (by decide : 15 + 0 ≤ _)⟩)
    dsimp only [Pt.U, Pt.locs, Pt.cells, Pt.slots] at X328 l328 y328 z328 st328 hQ328
    subst l328 y328 z328
    obtain ⟨rfl, N328q, e328⟩ := hQ328
    have N328 := Fr.app N325 N328q
    obtain ⟨lc328, X328, N328⟩ := own_gen X328 N328
    refine step (fun t k => st328 t k) ?_
    show G T328 (mkF m 152 ls327 [(.ref (f_of413 w_DELIVERED w_BAD_REQUEST w_UNAUTHORIZED w_FORBIDDEN w_NOT_FOUND w_GONE w_TIMED_OUT w_PAYLOAD_TOO_LARGE w_BUSY w_REDIRECTED w_SERVER_ERROR w_FAILED w_SOCKET_ERROR w_RESOLUTION_ERROR w_PROBATION))])
    have r329 : (f_of413 w_DELIVERED w_BAD_REQUEST w_UNAUTHORIZED w_FORBIDDEN w_NOT_FOUND w_GONE w_TIMED_OUT w_PAYLOAD_TOO_LARGE w_BUSY w_REDIRECTED w_SERVER_ERROR w_FAILED w_SOCKET_ERROR w_RESOLUTION_ERROR w_PROBATION) = w_PAYLOAD_TOO_LARGE := rfl
    rw [r329]
    show G T328 (mkF m 152 ls327 [(.ref w_PAYLOAD_TOO_LARGE)])
    obtain ⟨ls330, hls330⟩  := own_sl #[.val (.int p0), .val (.ref b1), .val (.ref w_PROBATION), .val (.ref w_BAD_REQUEST), .val (.ref w_UNAUTHORIZED), .val (.ref w_FORBIDDEN), .val (.ref w_GONE), .val (.ref w_PAYLOAD_TOO_LARGE), .unset]
    refine step (fun t k => XS.astore X328.here hx rfl (hb hby at_152) rfl rfl (l' := ls330) (by rw [hls327, hls330]; rfl) k) ?_
    show G T328 (mkF m 154 ls330 [])
    refine step (fun t k => XS.aloadN X328.here hx rfl (hb hby at_154) (by rw [hls330]; rfl) rfl k) ?_
    show G T328 (mkF m 155 ls330 [(.ref w_PROBATION)])
    refine step (fun t k => XS.aloadN X328.here hx rfl (hb hby at_155) (by rw [hls330]; rfl) rfl k) ?_
    show G T328 (mkF m 156 ls330 [(.ref w_BAD_REQUEST), (.ref w_PROBATION)])
    refine step (fun t k => Jvm.RoadKit.acmp X328 hx rfl rfl rfl (pc0 := 156) (pc' := 159) (same := false) rfl (hb hby at_156) rfl (decide_eq_false fun q => (Fld.ne ST.k38 ST.k31 (fun q => absurd (Value.int.inj q) (by decide))) (Value.ref.inj q)) (by decide) (by decide) k) ?_
    show G T328 (mkF m 159 ls330 [])
    refine step (fun t k => XS.aloadN X328.here hx rfl (hb hby at_159) (by rw [hls330]; rfl) rfl k) ?_
    show G T328 (mkF m 160 ls330 [(.ref w_PROBATION)])
    refine step (fun t k => XS.aload X328.here hx rfl (hb hby at_160) (by rw [hls330]; rfl) rfl k) ?_
    show G T328 (mkF m 162 ls330 [(.ref w_UNAUTHORIZED), (.ref w_PROBATION)])
    refine step (fun t k => Jvm.RoadKit.acmp X328 hx rfl rfl rfl (pc0 := 162) (pc' := 165) (same := false) rfl (hb hby at_162) rfl (decide_eq_false fun q => (Fld.ne ST.k38 ST.k32 (fun q => absurd (Value.int.inj q) (by decide))) (Value.ref.inj q)) (by decide) (by decide) k) ?_
    show G T328 (mkF m 165 ls330 [])
    refine step (fun t k => XS.aloadN X328.here hx rfl (hb hby at_165) (by rw [hls330]; rfl) rfl k) ?_
    show G T328 (mkF m 166 ls330 [(.ref w_PROBATION)])
    refine step (fun t k => XS.aload X328.here hx rfl (hb hby at_166) (by rw [hls330]; rfl) rfl k) ?_
    show G T328 (mkF m 168 ls330 [(.ref w_FORBIDDEN), (.ref w_PROBATION)])
    refine step (fun t k => Jvm.RoadKit.acmp X328 hx rfl rfl rfl (pc0 := 168) (pc' := 171) (same := false) rfl (hb hby at_168) rfl (decide_eq_false fun q => (Fld.ne ST.k38 ST.k33 (fun q => absurd (Value.int.inj q) (by decide))) (Value.ref.inj q)) (by decide) (by decide) k) ?_
    show G T328 (mkF m 171 ls330 [])
    refine step (fun t k => XS.aloadN X328.here hx rfl (hb hby at_171) (by rw [hls330]; rfl) rfl k) ?_
    show G T328 (mkF m 172 ls330 [(.ref w_PROBATION)])
    refine step (fun t k => XS.aload X328.here hx rfl (hb hby at_172) (by rw [hls330]; rfl) rfl k) ?_
    show G T328 (mkF m 174 ls330 [(.ref w_GONE), (.ref w_PROBATION)])
    refine step (fun t k => Jvm.RoadKit.acmp X328 hx rfl rfl rfl (pc0 := 174) (pc' := 177) (same := false) rfl (hb hby at_174) rfl (decide_eq_false fun q => (Fld.ne ST.k38 ST.k34 (fun q => absurd (Value.int.inj q) (by decide))) (Value.ref.inj q)) (by decide) (by decide) k) ?_
    show G T328 (mkF m 177 ls330 [])
    refine step (fun t k => XS.aloadN X328.here hx rfl (hb hby at_177) (by rw [hls330]; rfl) rfl k) ?_
    show G T328 (mkF m 178 ls330 [(.ref w_PROBATION)])
    refine step (fun t k => XS.aload X328.here hx rfl (hb hby at_178) (by rw [hls330]; rfl) rfl k) ?_
    show G T328 (mkF m 180 ls330 [(.ref w_PAYLOAD_TOO_LARGE), (.ref w_PROBATION)])
    refine step (fun t k => Jvm.RoadKit.acmp X328 hx rfl rfl rfl (pc0 := 180) (pc' := 187) (same := false) rfl (hb hby at_180) rfl (decide_eq_false fun q => (Fld.ne ST.k38 ST.k35 (fun q => absurd (Value.int.inj q) (by decide))) (Value.ref.inj q)) (by decide) (by decide) k) ?_
    show G T328 (mkF m 187 ls330 [])
    refine step (fun t k => XS.iconst X328.here hx rfl (hb hby at_187) k) ?_
    show G T328 (mkF m 188 ls330 [(.int 0)])
    obtain ⟨ls331, hls331⟩  := own_sl #[.val (.int p0), .val (.ref b1), .val (.ref w_PROBATION), .val (.ref w_BAD_REQUEST), .val (.ref w_UNAUTHORIZED), .val (.ref w_FORBIDDEN), .val (.ref w_GONE), .val (.ref w_PAYLOAD_TOO_LARGE), .val (.int 0)]
    refine step (fun t k => XS.istore X328.here hx rfl (hb hby at_188) rfl (l' := ls331) (by rw [hls330, hls331]; rfl) k) ?_
    show G T328 (mkF m 190 ls331 [])
    refine step (fun t k => XS.aloadN X328.here hx rfl (hb hby at_190) (by rw [hls331]; rfl) rfl k) ?_
    show G T328 (mkF m 191 ls331 [(.ref w_PROBATION)])
    have hK332 := (backOf (R := room_1) (p := p) (e := e) (below := below) (s := s) (args := #[(.int p0)]) (len := 3) (W := 0) (rm_retr l Z a0 hw [] w_DELIVERED w_BAD_REQUEST w_UNAUTHORIZED w_FORBIDDEN w_NOT_FOUND w_GONE w_TIMED_OUT w_PAYLOAD_TOO_LARGE w_BUSY w_REDIRECTED w_SERVER_ERROR w_FAILED w_SOCKET_ERROR w_RESOLUTION_ERROR w_PROBATION w_PROBATION (14 : Int32) h31 n0 (own_old_le O31) ST O31 (Exa.ext O31.2 ST.k29) (Fld.ext O31.2 ST.k38)) hZ (ww47 hw) (ww3 hw) (by decide) (by decide))
    obtain ⟨cq332, kq332, q332a, q332b, q332c⟩ := isOf hZ e328 (Exa.ext O31.2 ST.k29)
    obtain ⟨_, _, ⟨T332, L332, k332, n332⟩, -, X332, ⟨Lc332, hQ332, l332, y332, z332⟩, st332⟩ := X328.virtualBack hx (y := y_3) (z := y_3) hown (mvT hZ (ww43 hw)) (mvT hZ (ww44 hw)) (notFace_of_selects (args := #[]) (mvT hZ (ww46 hw))) (mvT hZ (ww46 hw)) (mvT hZ (ww45 hw)) (by decide) hK332 q332a q332c (g := (mkF m 191 ls331 [(.ref w_PROBATION)])) rfl (by rw [hml, hls331]; rfl) (Steps.refl _) (argsL := []) (rest := []) (lenOf pd_2 rfl) rfl (by show 2 * 0 + _ ≤ _; exact Nat.le_of_eq rfl) (hb hby at_191) (fun _ _ => ⟨rfl, e328, (by decide : 1 + 0 ≤ _), (by decide : 15 + 0 ≤ _)⟩)
    dsimp only [Pt.U, Pt.locs, Pt.cells, Pt.slots] at X332 l332 y332 z332 st332 hQ332
    subst l332 y332 z332
    obtain ⟨rfl, N332q, e332⟩ := hQ332
    have N332 := Fr.app N328 N332q
    obtain ⟨lc332, X332, N332⟩ := own_gen X332 N332
    refine step (fun t k => st332.trans k) ?_
    show G T332 (mkF m 194 ls331 [(.int (f_retr w_DELIVERED w_BAD_REQUEST w_UNAUTHORIZED w_FORBIDDEN w_NOT_FOUND w_GONE w_TIMED_OUT w_PAYLOAD_TOO_LARGE w_BUSY w_REDIRECTED w_SERVER_ERROR w_FAILED w_SOCKET_ERROR w_RESOLUTION_ERROR w_PROBATION w_PROBATION (14 : Int32)))])
    have r333 : (f_retr w_DELIVERED w_BAD_REQUEST w_UNAUTHORIZED w_FORBIDDEN w_NOT_FOUND w_GONE w_TIMED_OUT w_PAYLOAD_TOO_LARGE w_BUSY w_REDIRECTED w_SERVER_ERROR w_FAILED w_SOCKET_ERROR w_RESOLUTION_ERROR w_PROBATION w_PROBATION (14 : Int32)) = (1 : Int32) := by
      unfold f_retr
      rw [if_neg (by decide : ¬ ((14 : Int32) = (1 : Int32))), if_neg (by decide : ¬ ((14 : Int32) = (2 : Int32))), if_neg (by decide : ¬ ((14 : Int32) = (3 : Int32))), if_neg (by decide : ¬ ((14 : Int32) = (4 : Int32))), if_neg (by decide : ¬ ((14 : Int32) = (5 : Int32))), if_neg (by decide : ¬ ((14 : Int32) = (6 : Int32))), if_neg (by decide : ¬ ((14 : Int32) = (7 : Int32)))]
    rw [r333]
    show G T332 (mkF m 194 ls331 [(.int 1)])
    refine step (fun t k => XS.iload X332.here hx rfl (hb hby at_194) (by rw [hls331]; rfl) k) ?_
    show G T332 (mkF m 196 ls331 [(.int 0), (.int 1)])
    refine step (fun t k => XS.ifNo X332.here hx rfl (hb hby at_196) rfl ((if0 _ _).trans (teq (by decide : (0 : Int32) = (0 : Int32))).2) k) ?_
    show G T332 (mkF m 199 ls331 [(.int 1)])
    refine step (fun t k => XS.iconst X332.here hx rfl (hb hby at_199) k) ?_
    show G T332 (mkF m 200 ls331 [(.int 1), (.int 1)])
    refine step (fun t k => XS.goto X332.here hx rfl (pc0 := 200) (pc' := 204) rfl (hb hby at_200) (by decide) (by decide) k) ?_
    show G T332 (mkF m 204 ls331 [(.int 1), (.int 1)])
    refine step (fun t k => XS.icmpNo X332.here hx rfl (hb hby at_204) rfl (teq (by decide : (1 : Int32) = (1 : Int32))).2 k) ?_
    show G T332 (mkF m 207 ls331 [])
    refine step (fun t k => XS.iconst X332.here hx rfl (hb hby at_207) k) ?_
    show G T332 (mkF m 208 ls331 [(.int 1)])
    refine step (fun t k => XS.goto X332.here hx rfl (pc0 := 208) (pc' := 212) rfl (hb hby at_208) (by decide) (by decide) k) ?_
    show G T332 (mkF m 212 ls331 [(.int 1)])
    exact ret (v := some (.int 1)) X332 (fun h => by rw [Bd.returns] at h; cases h) (fun fs hr => retN X332 hx (t := .boolean) Bd.returns (by simp) (hb hby at_212) hr) e332 ⟨rfl, N332⟩ (by decide) (by decide)
set_option maxRecDepth 65536 in
set_option maxHeartbeats 40000000 in
theorem comes_1 {Post : Tables → Env → Array Value → State → Outcome → State → Prop} (hpost : ∀ tb e args s v u, (limb_1_1.after args s (.returned v) u = true ∧ limb_1_2.after args s (.returned v) u = true ∧ True) → FrameEnd s (.returned v) u (Jvm.fieldLocs frame_1_writes args s ++ Jvm.arrayLocs frame_1_arrays args s ++ Jvm.staticLocs frame_1_statics s) 16 128 → Post tb e args s (.returned v) u) :
    ArmFor flags0 classFile x code maxLocals ret World_1 tables_1 room_1 Calls_1 rest_1 Pre_1 Post := by
  intro l hfl _ _ p e ha hc hk s m args below hf hA hF happ hP
  obtain ⟨hcalls, hrest, hpre⟩ := hP
  obtain ⟨-, -, -, hnamed, -, -, -, hat⟩ := (Spec.applies_iff hf).mp happ
  obtain ⟨hg, hn⟩ := and_e (Cond.before_iff.mp (show (Jvm.Cond.and given_1 narrow_1).before args s = true from hpre))
  obtain ⟨g1a, g1b⟩ := and_e hg
  obtain ⟨w0, rfl⟩ : ∃ w0 : Value, args = #[w0] := by
    have hs : args.size = 1 := by simpa [Cond.value, given_1] using g1a
    obtain ⟨L⟩ := args
    match L, hs with
    | [w0], _ => exact ⟨w0, rfl⟩
  have hw := fun d (hd : d ∈ tables_1) => atoms_spec (ws := Jvm.Cond.code x code maxLocals ret :: tables_1) hat d (List.mem_cons_of_mem _ hd)
  have hfit : Fit s := fun {y c} hc i hi => by
    obtain ⟨ha, rfl⟩ := Array.getElem?_eq_some_iff.mp hc
    have q := List.all_eq_true.mp ((Array.all_eq_true_iff_forall_mem.mp hF) _ (Array.getElem_mem ha)) i (List.mem_range.mpr hi)
    simpa [Array.getElem?_eq_getElem hi] using q
  obtain ⟨i0, ei0⟩ := is_v g1b
  obtain rfl : w0 = (.int i0) := Option.some.inj ei0
  obtain ⟨k1a, k1b⟩ := and_e hn
  obtain ⟨k2a, k2b⟩ := and_e k1b
  obtain ⟨k3a, k3b⟩ := and_e k2b
  obtain ⟨k4a, k4b⟩ := and_e k3b
  obtain ⟨k5a, k5b⟩ := and_e k4b
  obtain ⟨k6a, k6b⟩ := and_e k5b
  obtain ⟨k7a, k7b⟩ := and_e k6b
  obtain ⟨k8a, k8b⟩ := and_e k7b
  obtain ⟨k9a, k9b⟩ := and_e k8b
  obtain ⟨k10a, k10b⟩ := and_e k9b
  obtain ⟨k11a, k11b⟩ := and_e k10b
  obtain ⟨k12a, k12b⟩ := and_e k11b
  obtain ⟨k13a, k13b⟩ := and_e k12b
  obtain ⟨k14a, k14b⟩ := and_e k13b
  obtain ⟨k15a, k15b⟩ := and_e k14b
  obtain ⟨k16a, k16b⟩ := and_e k15b
  obtain ⟨k17a, k17b⟩ := and_e k16b
  obtain ⟨k18a, k18b⟩ := and_e k17b
  obtain ⟨k19a, k19b⟩ := and_e k18b
  obtain ⟨k20a, k20b⟩ := and_e k19b
  obtain ⟨k21a, k21b⟩ := and_e k20b
  obtain ⟨k22a, k22b⟩ := and_e k21b
  obtain ⟨k23a, k23b⟩ := and_e k22b
  obtain ⟨k24a, k24b⟩ := and_e k23b
  obtain ⟨k25a, k25b⟩ := and_e k24b
  obtain ⟨k26a, k26b⟩ := and_e k25b
  obtain ⟨k27a, k27b⟩ := and_e k26b
  obtain ⟨k28a, k28b⟩ := and_e k27b
  obtain ⟨k29a, k29b⟩ := and_e k28b
  obtain ⟨w_DELIVERED, ev_DELIVERED⟩ := exa_v k1a
  obtain ⟨w_BAD_REQUEST, ev_BAD_REQUEST⟩ := exa_v k2a
  obtain ⟨w_UNAUTHORIZED, ev_UNAUTHORIZED⟩ := exa_v k3a
  obtain ⟨w_FORBIDDEN, ev_FORBIDDEN⟩ := exa_v k4a
  obtain ⟨w_NOT_FOUND, ev_NOT_FOUND⟩ := exa_v k5a
  obtain ⟨w_GONE, ev_GONE⟩ := exa_v k6a
  obtain ⟨w_TIMED_OUT, ev_TIMED_OUT⟩ := exa_v k7a
  obtain ⟨w_PAYLOAD_TOO_LARGE, ev_PAYLOAD_TOO_LARGE⟩ := exa_v k8a
  obtain ⟨w_BUSY, ev_BUSY⟩ := exa_v k9a
  obtain ⟨w_REDIRECTED, ev_REDIRECTED⟩ := exa_v k10a
  obtain ⟨w_SERVER_ERROR, ev_SERVER_ERROR⟩ := exa_v k11a
  obtain ⟨w_FAILED, ev_FAILED⟩ := exa_v k12a
  obtain ⟨w_SOCKET_ERROR, ev_SOCKET_ERROR⟩ := exa_v k13a
  obtain ⟨w_RESOLUTION_ERROR, ev_RESOLUTION_ERROR⟩ := exa_v k14a
  obtain ⟨w_PROBATION, ev_PROBATION⟩ := exa_v k15a
  obtain ⟨n, o, h1, h2, h3, _, L, rfl, ⟨rfl, N⟩, hq⟩ := rm_law l s _ hw tables_1 w_DELIVERED w_BAD_REQUEST w_UNAUTHORIZED w_FORBIDDEN w_NOT_FOUND w_GONE w_TIMED_OUT w_PAYLOAD_TOO_LARGE w_BUSY w_REDIRECTED w_SERVER_ERROR w_FAILED w_SOCKET_ERROR w_RESOLUTION_ERROR w_PROBATION i0 s.heap s.heap.size (Nat.le_refl _) ⟨Sta.start ev_DELIVERED (Or.inr ⟨(ww3 hw), (ww4 hw)⟩), Exa.start ev_DELIVERED k1a, Sta.start ev_BAD_REQUEST (Or.inr ⟨(ww3 hw), (ww7 hw)⟩), Exa.start ev_BAD_REQUEST k2a, Sta.start ev_UNAUTHORIZED (Or.inr ⟨(ww3 hw), (ww9 hw)⟩), Exa.start ev_UNAUTHORIZED k3a, Sta.start ev_FORBIDDEN (Or.inr ⟨(ww3 hw), (ww11 hw)⟩), Exa.start ev_FORBIDDEN k4a, Sta.start ev_NOT_FOUND (Or.inr ⟨(ww3 hw), (ww13 hw)⟩), Exa.start ev_NOT_FOUND k5a, Sta.start ev_GONE (Or.inr ⟨(ww3 hw), (ww15 hw)⟩), Exa.start ev_GONE k6a, Sta.start ev_TIMED_OUT (Or.inr ⟨(ww3 hw), (ww17 hw)⟩), Exa.start ev_TIMED_OUT k7a, Sta.start ev_PAYLOAD_TOO_LARGE (Or.inr ⟨(ww3 hw), (ww19 hw)⟩), Exa.start ev_PAYLOAD_TOO_LARGE k8a, Sta.start ev_BUSY (Or.inr ⟨(ww3 hw), (ww21 hw)⟩), Exa.start ev_BUSY k9a, Sta.start ev_REDIRECTED (Or.inr ⟨(ww3 hw), (ww23 hw)⟩), Exa.start ev_REDIRECTED k10a, Sta.start ev_SERVER_ERROR (Or.inr ⟨(ww3 hw), (ww25 hw)⟩), Exa.start ev_SERVER_ERROR k11a, Sta.start ev_FAILED (Or.inr ⟨(ww3 hw), (ww27 hw)⟩), Exa.start ev_FAILED k12a, Sta.start ev_SOCKET_ERROR (Or.inr ⟨(ww3 hw), (ww29 hw)⟩), Exa.start ev_SOCKET_ERROR k13a, Sta.start ev_RESOLUTION_ERROR (Or.inr ⟨(ww3 hw), (ww31 hw)⟩), Exa.start ev_RESOLUTION_ERROR k14a, Sta.start ev_PROBATION (Or.inr ⟨(ww3 hw), (ww33 hw)⟩), Exa.start ev_PROBATION k15a, own_fldI ev_DELIVERED k16a, own_fldI ev_BAD_REQUEST k17a, own_fldI ev_UNAUTHORIZED k18a, own_fldI ev_FORBIDDEN k19a, own_fldI ev_GONE k20a, own_fldI ev_PAYLOAD_TOO_LARGE k21a, own_fldI ev_RESOLUTION_ERROR k22a, own_fldI ev_TIMED_OUT k23a, own_fldI ev_PROBATION k24a, own_fldI ev_FAILED k25a, own_fldI ev_SERVER_ERROR k26a, own_fldI ev_BUSY k27a, own_fldI ev_SOCKET_ERROR k28a, own_fldI ev_NOT_FOUND k29a, own_fldI ev_REDIRECTED k29b⟩ (Old.start s)  p e ha hc hk s m _ below hf ((Spec.applies_iff_loose hf).mp happ).1 ⟨rfl, State.Warmed39.refl s, rfl⟩ trivial
  refine ⟨n, _, h1, h2, h3, hpost _ _ _ _ _ _ ⟨Cond.after_iff.mpr rfl, Cond.after_iff.mpr (eq_i res_at (Term.int_eval (1)) rfl), trivial⟩ ⟨hq.1, hq.2.1, (hq.2.2.sift fun y hy => Or.inr (N y hy)).mono (by decide) (by decide)⟩⟩
theorem main_1_1 : Claimed_1_1 := comes_1 fun _ _ _ _ _ _ h hF => ⟨h.1, hF⟩
theorem main_1_2 : Claimed_1_2 := comes_1 fun _ _ _ _ _ _ h hF => ⟨h.2.1, hF⟩
end Jvm.Pilot.@@N@@
namespace Jvm.Pilot.@@N@@
open Jvm Jvm.ClassFile Sem Op Lib Jvm.Free Jvm.Stand Jvm.Pilot.@@N@@.Jvm.D
/-! MADE BY PROGRAM (witnessworld.py) out of the Statement's table words and the real class files: 14 classes; the members and pool entries that the words name. The judged class is class 1, her method 1. -/
namespace start1
open Jvm.ClassFile
def u (s : String) : CpInfo := .utf8 (stringToUtf16 s)
/-- a pool by its gaps: so many unusable entries, then the entry; so many at the end -/
def gap : Nat → List CpInfo → List CpInfo
  | 0, r => r
  | n + 1, r => .unusable :: gap n r
def poolList (es : List (Nat × CpInfo)) (last : Nat) : List CpInfo := es.foldr (fun e r => gap e.1 (e.2 :: r)) (gap last [])
def pool (es : List (Nat × CpInfo)) (last : Nat) : Array CpInfo := ⟨poolList es last⟩
def fileOf (pool : Array CpInfo) (this : Nat) (attrs : Array Attribute := #[]) (ms : Array MethodInfo := #[]) (fl : Nat := 33) (sup : Nat := 0) (ifs : Array Nat := #[]) (fds : Array FieldInfo := #[]) : ClassFile where
  minorVersion := 0
  majorVersion := 65
  constantPool := pool
  accessFlags := fl
  thisClass := this
  superClass := sup
  interfaces := ifs
  fields := fds
  methods := ms
  attributes := attrs
def plain (name : String) (sup : Option ClassId) : Class where
  name := name
  kind := .ordinary
  loader := none
  accessFlags := 33
  super := sup
  interfaces := #[]
  cf := none
  fields := #[]
  methods := #[]
  instanceTypes := #[]
  staticTypes := #[]
  resolved := #[]
  callSites := []
  init := .initialized
  statics := none
  mirror := none

def pool0 : Array CpInfo := pool [(5, u "<init>"), (0, u "()V"), (1, .class_ 10), (1, u "java/lang/Object")] 113

def k0m0 : Method := { name := "<init>", desc := "()V", sig := { parameters := [], returnType := none }, accessFlags := 1, code := none }
/-- java/lang/Object -/
def k0 : Class := { plain "java/lang/Object" none with
  accessFlags := 33
  interfaces := #[]
  cf := some (fileOf pool0 8 #[] #[{ accessFlags := 1, nameIndex := 5, descriptorIndex := 6, attributes := #[] }] 33 0 #[] #[])
  fields := #[]
  methods := #[k0m0]
  instanceTypes := #[]
  staticTypes := #[]
  resolved := Array.replicate 124 none
  statics := none }

def pool1 : Array CpInfo := pool [(2, .class_ 4), (1, u "java/lang/Object"), (0, u "<init>"), (0, u "()V"), (0, .class_ 8), (0, u "com/example/redeliver/redeliver/core/Outcome"), (0, .fieldref 7 10), (0, .nameAndType 11 12), (0, u "DELIVERED"), (0, u "Lcom/example/redeliver/redeliver/core/Outcome;"), (0, .fieldref 7 14), (0, .nameAndType 15 12), (0, u "BAD_REQUEST"), (0, .fieldref 7 17), (0, .nameAndType 18 12), (0, u "UNAUTHORIZED"), (0, .fieldref 7 20), (0, .nameAndType 21 12), (0, u "FORBIDDEN"), (0, .fieldref 7 23), (0, .nameAndType 24 12), (0, u "NOT_FOUND"), (0, .fieldref 7 26), (0, .nameAndType 27 12), (0, u "GONE"), (0, .fieldref 7 29), (0, .nameAndType 30 12), (0, u "TIMED_OUT"), (0, .fieldref 7 32), (0, .nameAndType 33 12), (0, u "PAYLOAD_TOO_LARGE"), (0, .fieldref 7 35), (0, .nameAndType 36 12), (0, u "BUSY"), (0, .fieldref 7 38), (0, .nameAndType 39 12), (0, u "REDIRECTED"), (0, .fieldref 7 41), (0, .nameAndType 42 12), (0, u "SERVER_ERROR"), (0, .fieldref 7 44), (0, .nameAndType 45 12), (0, u "FAILED"), (0, .fieldref 7 47), (0, .nameAndType 48 12), (0, u "SOCKET_ERROR"), (0, .fieldref 7 50), (0, .nameAndType 51 12), (0, u "RESOLUTION_ERROR"), (0, .fieldref 7 53), (0, .nameAndType 54 12), (0, u "PROBATION"), (0, .integer 2147483647), (0, .methodref 7 57), (0, .nameAndType 58 59), (0, u "ofStatus"), (0, u "(I)Lcom/example/redeliver/redeliver/core/Outcome;"), (0, .methodref 7 61), (0, .nameAndType 62 63), (0, u "isRetried"), (0, u "()Z"), (0, .class_ 65), (0, u "com/example/redeliver/redeliver/core/OutcomeIsRetriedPinLaw"), (2, u "law"), (0, u "(I)Z")] 5

def k1m0 : Method := { name := "<init>", desc := "()V", sig := { parameters := [], returnType := none }, accessFlags := 2, code := none }
def k1c1 : Code := { maxStack := 4, maxLocals := 9, code := code, exceptionTable := #[], attributes := #[] }
def k1m1 : Method := { name := "law", desc := "(I)Z", sig := { parameters := [.int], returnType := some .boolean }, accessFlags := 9, code := some k1c1 }
/-- com/example/redeliver/redeliver/core/OutcomeIsRetriedPinLaw -/
def k1 : Class := { plain "com/example/redeliver/redeliver/core/OutcomeIsRetriedPinLaw" (some 0) with
  accessFlags := 49
  interfaces := #[]
  cf := some (fileOf pool1 64 #[] #[{ accessFlags := 2, nameIndex := 5, descriptorIndex := 6, attributes := #[] }, { accessFlags := 9, nameIndex := 68, descriptorIndex := 69, attributes := #[] }] 49 2 #[] #[])
  fields := #[]
  methods := #[k1m0, k1m1]
  instanceTypes := #[]
  staticTypes := #[]
  resolved := Array.replicate 75 none
  statics := none }

def pool2 : Array CpInfo := pool [(1, .class_ 2), (0, u "java/lang/constant/Constable"), (0, .class_ 4), (0, u "java/lang/Object")] 6

/-- java/lang/constant/Constable -/
def k2 : Class := { plain "java/lang/constant/Constable" (some 0) with
  accessFlags := 1537
  interfaces := #[]
  cf := some (fileOf pool2 1 #[] #[] 1537 3 #[] #[])
  fields := #[]
  methods := #[]
  instanceTypes := #[]
  staticTypes := #[]
  resolved := Array.replicate 11 none
  statics := none }

def pool3 : Array CpInfo := pool [(1, .class_ 2), (0, u "java/lang/Comparable"), (0, .class_ 4), (0, u "java/lang/Object")] 7

/-- java/lang/Comparable -/
def k3 : Class := { plain "java/lang/Comparable" (some 0) with
  accessFlags := 1537
  interfaces := #[]
  cf := some (fileOf pool3 1 #[] #[] 1537 3 #[] #[])
  fields := #[]
  methods := #[]
  instanceTypes := #[]
  staticTypes := #[]
  resolved := Array.replicate 12 none
  statics := none }

def pool4 : Array CpInfo := pool [(1, .class_ 2), (0, u "java/io/Serializable"), (0, .class_ 4), (0, u "java/lang/Object")] 2

/-- java/io/Serializable -/
def k4 : Class := { plain "java/io/Serializable" (some 0) with
  accessFlags := 1537
  interfaces := #[]
  cf := some (fileOf pool4 1 #[] #[] 1537 3 #[] #[])
  fields := #[]
  methods := #[]
  instanceTypes := #[]
  staticTypes := #[]
  resolved := Array.replicate 7 none
  statics := none }

def pool5 : Array CpInfo := pool [(2, .class_ 4), (1, u "java/lang/Enum"), (0, u "name"), (0, u "Ljava/lang/String;"), (0, .fieldref 2 8), (0, .nameAndType 9 10), (0, u "ordinal"), (0, u "I"), (1, .class_ 14), (1, u "java/lang/Object"), (4, u "hash"), (86, .class_ 108), (1, u "java/lang/Enum$EnumDesc"), (2, .class_ 112), (0, u "java/lang/constant/Constable"), (0, .class_ 114), (0, u "java/lang/Comparable"), (0, .class_ 116), (0, u "java/io/Serializable"), (9, u "()I")] 77

def k5c0 : Code := { maxStack := 1, maxLocals := 1, code := jdk_37_method_2_code, exceptionTable := #[], attributes := #[] }
def k5m0 : Method := { name := "ordinal", desc := "()I", sig := { parameters := [], returnType := some .int }, accessFlags := 17, code := some k5c0 }
/-- java/lang/Enum -/
def k5 : Class := { plain "java/lang/Enum" (some 0) with
  accessFlags := 1057
  interfaces := #[2, 3, 4]
  cf := some (fileOf pool5 2 #[.nestMembers #[106]] #[{ accessFlags := 17, nameIndex := 9, descriptorIndex := 126, attributes := #[] }] 1057 12 #[111, 113, 115] #[{ accessFlags := 18, nameIndex := 5, descriptorIndex := 6, attributes := #[] }, { accessFlags := 18, nameIndex := 9, descriptorIndex := 10, attributes := #[] }, { accessFlags := 2, nameIndex := 19, descriptorIndex := 10, attributes := #[] }])
  fields := #[{ name := "name", type := (.object "java/lang/String"), accessFlags := 18, slot := 0, constantValue := 0 }, { name := "ordinal", type := .int, accessFlags := 18, slot := 1, constantValue := 0 }, { name := "hash", type := .int, accessFlags := 2, slot := 2, constantValue := 0 }]
  methods := #[k5m0]
  instanceTypes := #[(.object "java/lang/String"), .int, .int]
  staticTypes := #[]
  resolved := Array.replicate 204 none
  statics := none }

def pool6 : Array CpInfo := pool [(9, .class_ 10), (0, u "com/example/redeliver/redeliver/core/Worded"), (23, .class_ 35), (0, u "java/lang/Object")] 24

/-- com/example/redeliver/redeliver/core/Worded -/
def k6 : Class := { plain "com/example/redeliver/redeliver/core/Worded" (some 0) with
  accessFlags := 1537
  interfaces := #[]
  cf := some (fileOf pool6 9 #[] #[] 1537 34 #[] #[])
  fields := #[]
  methods := #[]
  instanceTypes := #[]
  staticTypes := #[]
  resolved := Array.replicate 60 none
  statics := none }

def pool7 : Array CpInfo := pool [(1, .class_ 2), (0, u "com/example/redeliver/redeliver/core/Outcome"), (2, u "DELIVERED"), (0, u "Lcom/example/redeliver/redeliver/core/Outcome;"), (0, .fieldref 1 8), (0, .nameAndType 9 6), (0, u "BAD_REQUEST"), (0, .fieldref 1 11), (0, .nameAndType 12 6), (0, u "UNAUTHORIZED"), (0, .fieldref 1 14), (0, .nameAndType 15 6), (0, u "FORBIDDEN"), (2, u "NOT_FOUND"), (0, .fieldref 1 20), (0, .nameAndType 21 6), (0, u "GONE"), (2, u "TIMED_OUT"), (0, .fieldref 1 26), (0, .nameAndType 27 6), (0, u "PAYLOAD_TOO_LARGE"), (2, u "BUSY"), (2, u "REDIRECTED"), (2, u "SERVER_ERROR"), (2, u "FAILED"), (2, u "SOCKET_ERROR"), (2, u "RESOLUTION_ERROR"), (2, u "PROBATION"), (2, u "$VALUES"), (0, u "[Lcom/example/redeliver/redeliver/core/Outcome;"), (6, .class_ 61), (1, u "java/lang/Enum"), (8, u "word"), (0, u "Ljava/lang/String;"), (1, .class_ 75), (1, u "com/example/redeliver/redeliver/core/Worded"), (1, .methodref 1 78), (0, .nameAndType 79 80), (0, u "ordinal"), (0, u "()I"), (60, u "ofStatus"), (0, u "(I)Lcom/example/redeliver/redeliver/core/Outcome;"), (1, u "isRetried"), (0, u "()Z")] 5

def k7c0 : Code := { maxStack := 2, maxLocals := 2, code := prog_8_method_6_code, exceptionTable := #[], attributes := #[] }
def k7m0 : Method := { name := "ofStatus", desc := "(I)Lcom/example/redeliver/redeliver/core/Outcome;", sig := { parameters := [.int], returnType := some (.object "com/example/redeliver/redeliver/core/Outcome") }, accessFlags := 9, code := some k7c0 }
def k7c1 : Code := { maxStack := 1, maxLocals := 1, code := prog_8_method_7_code, exceptionTable := #[], attributes := #[] }
def k7m1 : Method := { name := "isRetried", desc := "()Z", sig := { parameters := [], returnType := some .boolean }, accessFlags := 1, code := some k7c1 }
/-- com/example/redeliver/redeliver/core/Outcome -/
def k7 : Class := { plain "com/example/redeliver/redeliver/core/Outcome" (some 5) with
  accessFlags := 16433
  interfaces := #[6]
  cf := some (fileOf pool7 1 #[] #[{ accessFlags := 9, nameIndex := 141, descriptorIndex := 142, attributes := #[] }, { accessFlags := 1, nameIndex := 144, descriptorIndex := 145, attributes := #[] }] 16433 59 #[73] #[{ accessFlags := 16409, nameIndex := 5, descriptorIndex := 6, attributes := #[] }, { accessFlags := 16409, nameIndex := 9, descriptorIndex := 6, attributes := #[] }, { accessFlags := 16409, nameIndex := 12, descriptorIndex := 6, attributes := #[] }, { accessFlags := 16409, nameIndex := 15, descriptorIndex := 6, attributes := #[] }, { accessFlags := 16409, nameIndex := 18, descriptorIndex := 6, attributes := #[] }, { accessFlags := 16409, nameIndex := 21, descriptorIndex := 6, attributes := #[] }, { accessFlags := 16409, nameIndex := 24, descriptorIndex := 6, attributes := #[] }, { accessFlags := 16409, nameIndex := 27, descriptorIndex := 6, attributes := #[] }, { accessFlags := 16409, nameIndex := 30, descriptorIndex := 6, attributes := #[] }, { accessFlags := 16409, nameIndex := 33, descriptorIndex := 6, attributes := #[] }, { accessFlags := 16409, nameIndex := 36, descriptorIndex := 6, attributes := #[] }, { accessFlags := 16409, nameIndex := 39, descriptorIndex := 6, attributes := #[] }, { accessFlags := 16409, nameIndex := 42, descriptorIndex := 6, attributes := #[] }, { accessFlags := 16409, nameIndex := 45, descriptorIndex := 6, attributes := #[] }, { accessFlags := 16409, nameIndex := 48, descriptorIndex := 6, attributes := #[] }, { accessFlags := 18, nameIndex := 70, descriptorIndex := 71, attributes := #[] }, { accessFlags := 4122, nameIndex := 51, descriptorIndex := 52, attributes := #[] }])
  fields := #[{ name := "DELIVERED", type := (.object "com/example/redeliver/redeliver/core/Outcome"), accessFlags := 16409, slot := 0, constantValue := 0 }, { name := "BAD_REQUEST", type := (.object "com/example/redeliver/redeliver/core/Outcome"), accessFlags := 16409, slot := 1, constantValue := 0 }, { name := "UNAUTHORIZED", type := (.object "com/example/redeliver/redeliver/core/Outcome"), accessFlags := 16409, slot := 2, constantValue := 0 }, { name := "FORBIDDEN", type := (.object "com/example/redeliver/redeliver/core/Outcome"), accessFlags := 16409, slot := 3, constantValue := 0 }, { name := "NOT_FOUND", type := (.object "com/example/redeliver/redeliver/core/Outcome"), accessFlags := 16409, slot := 4, constantValue := 0 }, { name := "GONE", type := (.object "com/example/redeliver/redeliver/core/Outcome"), accessFlags := 16409, slot := 5, constantValue := 0 }, { name := "TIMED_OUT", type := (.object "com/example/redeliver/redeliver/core/Outcome"), accessFlags := 16409, slot := 6, constantValue := 0 }, { name := "PAYLOAD_TOO_LARGE", type := (.object "com/example/redeliver/redeliver/core/Outcome"), accessFlags := 16409, slot := 7, constantValue := 0 }, { name := "BUSY", type := (.object "com/example/redeliver/redeliver/core/Outcome"), accessFlags := 16409, slot := 8, constantValue := 0 }, { name := "REDIRECTED", type := (.object "com/example/redeliver/redeliver/core/Outcome"), accessFlags := 16409, slot := 9, constantValue := 0 }, { name := "SERVER_ERROR", type := (.object "com/example/redeliver/redeliver/core/Outcome"), accessFlags := 16409, slot := 10, constantValue := 0 }, { name := "FAILED", type := (.object "com/example/redeliver/redeliver/core/Outcome"), accessFlags := 16409, slot := 11, constantValue := 0 }, { name := "SOCKET_ERROR", type := (.object "com/example/redeliver/redeliver/core/Outcome"), accessFlags := 16409, slot := 12, constantValue := 0 }, { name := "RESOLUTION_ERROR", type := (.object "com/example/redeliver/redeliver/core/Outcome"), accessFlags := 16409, slot := 13, constantValue := 0 }, { name := "PROBATION", type := (.object "com/example/redeliver/redeliver/core/Outcome"), accessFlags := 16409, slot := 14, constantValue := 0 }, { name := "word", type := (.object "java/lang/String"), accessFlags := 18, slot := 3, constantValue := 0 }, { name := "$VALUES", type := (.array (.object "com/example/redeliver/redeliver/core/Outcome")), accessFlags := 4122, slot := 15, constantValue := 0 }]
  methods := #[k7m0, k7m1]
  instanceTypes := #[(.object "java/lang/String"), .int, .int, (.object "java/lang/String")]
  staticTypes := #[(.object "com/example/redeliver/redeliver/core/Outcome"), (.object "com/example/redeliver/redeliver/core/Outcome"), (.object "com/example/redeliver/redeliver/core/Outcome"), (.object "com/example/redeliver/redeliver/core/Outcome"), (.object "com/example/redeliver/redeliver/core/Outcome"), (.object "com/example/redeliver/redeliver/core/Outcome"), (.object "com/example/redeliver/redeliver/core/Outcome"), (.object "com/example/redeliver/redeliver/core/Outcome"), (.object "com/example/redeliver/redeliver/core/Outcome"), (.object "com/example/redeliver/redeliver/core/Outcome"), (.object "com/example/redeliver/redeliver/core/Outcome"), (.object "com/example/redeliver/redeliver/core/Outcome"), (.object "com/example/redeliver/redeliver/core/Outcome"), (.object "com/example/redeliver/redeliver/core/Outcome"), (.object "com/example/redeliver/redeliver/core/Outcome"), (.array (.object "com/example/redeliver/redeliver/core/Outcome"))]
  resolved := Array.replicate 151 none
  statics := some 0 }

def pool8 : Array CpInfo := pool [(1, u "java/lang/Cloneable"), (0, .class_ 1), (0, u "java/lang/Object"), (0, .class_ 3)] 3

/-- java/lang/Cloneable -/
def k8 : Class := { plain "java/lang/Cloneable" (some 0) with
  accessFlags := 1537
  interfaces := #[]
  cf := some (fileOf pool8 2 #[] #[] 1537 4 #[] #[])
  fields := #[]
  methods := #[]
  instanceTypes := #[]
  staticTypes := #[]
  resolved := Array.replicate 8 none
  statics := none }

/-- the primitive byte -/
def k9 : Class := { plain "byte" none with kind := .primitive 'B', accessFlags := 0x411 }
/-- [B -/
def k10 : Class := { plain "[B" (some 0) with kind := .array 9 .byte, interfaces := #[8, 4], accessFlags := 1041 }

/-- the primitive int -/
def k11 : Class := { plain "int" none with kind := .primitive 'I', accessFlags := 0x411 }
/-- [I -/
def k12 : Class := { plain "[I" (some 0) with kind := .array 11 .int, interfaces := #[8, 4], accessFlags := 1041 }

/-- [Lcom/example/redeliver/redeliver/core/Outcome; -/
def k13 : Class := { plain "[Lcom/example/redeliver/redeliver/core/Outcome;" (some 0) with kind := .array 7 (.object "com/example/redeliver/redeliver/core/Outcome"), interfaces := #[8, 4], accessFlags := 1041 }

def heap : Heap := #[{ cls := 7, slots := #[.ref 1, .ref 2, .ref 3, .ref 4, .ref 5, .ref 6, .ref 7, .ref 8, .ref 9, .ref 10, .ref 11, .ref 12, .ref 13, .ref 14, .ref 15, .null], vm := .statics 7 },
  { cls := 7, slots := #[.null, .int (0), .int 0, .null], vm := .none },
  { cls := 7, slots := #[.null, .int (1), .int 0, .null], vm := .none },
  { cls := 7, slots := #[.null, .int (2), .int 0, .null], vm := .none },
  { cls := 7, slots := #[.null, .int (3), .int 0, .null], vm := .none },
  { cls := 7, slots := #[.null, .int (4), .int 0, .null], vm := .none },
  { cls := 7, slots := #[.null, .int (5), .int 0, .null], vm := .none },
  { cls := 7, slots := #[.null, .int (6), .int 0, .null], vm := .none },
  { cls := 7, slots := #[.null, .int (7), .int 0, .null], vm := .none },
  { cls := 7, slots := #[.null, .int (8), .int 0, .null], vm := .none },
  { cls := 7, slots := #[.null, .int (9), .int 0, .null], vm := .none },
  { cls := 7, slots := #[.null, .int (10), .int 0, .null], vm := .none },
  { cls := 7, slots := #[.null, .int (11), .int 0, .null], vm := .none },
  { cls := 7, slots := #[.null, .int (12), .int 0, .null], vm := .none },
  { cls := 7, slots := #[.null, .int (13), .int 0, .null], vm := .none },
  { cls := 7, slots := #[.null, .int (14), .int 0, .null], vm := .none }]
def classes : Array Class := #[k0, k1, k2, k3, k4, k5, k6, k7, k8, k9, k10, k11, k12, k13]
def interned : List (Array UInt16 × Addr) := []
def slotsUsed : Nat := 76
def theMethod : MethodId := ⟨1, 1⟩
def args0 : Array Value := #[.int 4]
def aboutOver (below : List Frame) : State where
  vm := { classes := classes, interned := interned.toArray }
  heap := heap
  slotsUsed := slotsUsed
  threads := #[{ frames := .invoking theMethod args0 :: below }]
def below0 : List Frame := [.native { method := ⟨0, 0⟩, args := #[] }]
def about1 : State := aboutOver below0
def p0 : Program := .bare "" "" ""
def e0 : Env := launch0.env 0 0 0
theorem w_frames : about1.frames = Frame.invoking theMethod args0 :: below0 := rfl
set_option maxRecDepth 65536 in
theorem w_args : argsFit about1.vm theMethod args0 = true := by decide +kernel
set_option maxRecDepth 65536 in
theorem w_heap : heapFits about1 = true := by decide +kernel
set_option maxRecDepth 65536 in
theorem w_runnable : about1.curStatus? = some .runnable := by decide +kernel
set_option maxRecDepth 65536 in
theorem w_alone : about1.alone = true := by decide +kernel
set_option maxRecDepth 65536 in
theorem w_named : about1.methodNamed? x = some theMethod := by decide +kernel
set_option maxRecDepth 65536 in
theorem w_hears : about1.hears theMethod below0 = true := by decide +kernel
set_option maxRecDepth 65536 in
theorem w_ripe : about1.ripe theMethod args0 below0 = true := by decide +kernel
theorem w_running : about1.status = .running := rfl
set_option maxRecDepth 65536 in
theorem w_room : about1.hasRoom e0.platform room_1 = true :=
  launch0.hasRoom_least _ room_1 (by decide +kernel) (by decide +kernel) (by decide +kernel) (by decide +kernel) (by decide +kernel) (by decide +kernel)
theorem allAtoms_all (ts : List Jvm.Cond) (a : Array Jvm.Value) (st : Jvm.State) : (allAtoms ts).before a st = ts.all (fun c => c.before a st) := by
  induction ts with
  | nil => rfl
  | cons c t ih =>
    show (Jvm.Cond.and c (allAtoms t)).before a st = _
    rw [Jvm.Cond.before_and, ih, List.all_cons]
def words1 : List Jvm.Cond := Jvm.Cond.code x code maxLocals ret :: tables_1
/-- a 'code' word, met by the world's own term for the bytes: nothing is compared byte by byte -/
theorem code_word {y : MethodName} {bytes : ByteArray} {mx : Nat} {rt : Option FieldType} {a : Array Value} {s : State} {m : MethodId} {meth : Method} {c : Code} (h1 : s.methodNamed? y = some m) (h2 : s.vm.method? m = some meth) (h3 : meth.code = some c) (h4 : c.code = bytes)
    (h5 : (c.maxLocals == mx && c.exceptionTable.isEmpty && decide (c.maxStack ≤ mostOperands) && decide (meth.sig.returnType = rt) && !meth.locks && decide (parseMethodDescriptor y.desc = some meth.sig)) = true) : (Jvm.Cond.code y bytes mx rt).before a s = true := by
  simp only [Bool.and_eq_true, beq_iff_eq, Bool.not_eq_true', decide_eq_true_eq] at h5
  obtain ⟨⟨⟨⟨⟨g1, g2⟩, g3⟩, g4⟩, g5⟩, g6⟩ := h5
  simp [Cond.before, Cond.holds, Cond.value, h1, h2, h3, h4, g1, g2, g3, g4, g5, g6]
def isCode : Jvm.Cond → Bool
  | .code _ _ _ _ => true
  | _ => false
theorem all_split {L : List Jvm.Cond} {P : Jvm.Cond → Bool} (h1 : L.all (fun c => isCode c || P c) = true) (h2 : ∀ c ∈ L.filter isCode, P c = true) : L.all P = true := by
  refine List.all_eq_true.mpr fun c hc => ?_
  have h := List.all_eq_true.mp h1 c hc
  rcases Bool.eq_false_or_eq_true (isCode c) with hi | hi
  · exact h2 c (List.mem_filter.mpr ⟨hc, hi⟩)
  · simpa [hi] using h
set_option maxRecDepth 65536 in
theorem w_c0 : (Jvm.Cond.code x code maxLocals ret).before args0 about1 = true := code_word (m := ⟨1, 1⟩) (meth := k1m1) (c := k1c1) (by decide +kernel) rfl rfl rfl (by decide +kernel)
set_option maxRecDepth 65536 in
theorem w_c1 : (Jvm.Cond.code ({ cls := "com/example/redeliver/redeliver/core/Outcome", name := "ofStatus", desc := "(I)Lcom/example/redeliver/redeliver/core/Outcome;" } : Jvm.MethodName) prog_8_method_6_code (2 : Nat) (Option.some (Jvm.ClassFile.FieldType.object "com/example/redeliver/redeliver/core/Outcome"))).before args0 about1 = true := code_word (m := ⟨7, 0⟩) (meth := k7m0) (c := k7c0) (by decide +kernel) rfl rfl rfl (by decide +kernel)
set_option maxRecDepth 65536 in
theorem w_c2 : (Jvm.Cond.code ({ cls := "com/example/redeliver/redeliver/core/Outcome", name := "isRetried", desc := "()Z" } : Jvm.MethodName) prog_8_method_7_code (1 : Nat) (Option.some Jvm.ClassFile.FieldType.boolean)).before args0 about1 = true := code_word (m := ⟨7, 1⟩) (meth := k7m1) (c := k7c1) (by decide +kernel) rfl rfl rfl (by decide +kernel)
set_option maxRecDepth 65536 in
theorem w_c3 : (Jvm.Cond.code ({ cls := "java/lang/Enum", name := "ordinal", desc := "()I" } : Jvm.MethodName) jdk_37_method_2_code (1 : Nat) (Option.some Jvm.ClassFile.FieldType.int)).before args0 about1 = true := code_word (m := ⟨5, 0⟩) (meth := k5m0) (c := k5c0) (by decide +kernel) rfl rfl rfl (by decide +kernel)
def codes1 : List Jvm.Cond := [Jvm.Cond.code x code maxLocals ret, Jvm.Cond.code ({ cls := "com/example/redeliver/redeliver/core/Outcome", name := "ofStatus", desc := "(I)Lcom/example/redeliver/redeliver/core/Outcome;" } : Jvm.MethodName) prog_8_method_6_code (2 : Nat) (Option.some (Jvm.ClassFile.FieldType.object "com/example/redeliver/redeliver/core/Outcome")), Jvm.Cond.code ({ cls := "com/example/redeliver/redeliver/core/Outcome", name := "isRetried", desc := "()Z" } : Jvm.MethodName) prog_8_method_7_code (1 : Nat) (Option.some Jvm.ClassFile.FieldType.boolean), Jvm.Cond.code ({ cls := "java/lang/Enum", name := "ordinal", desc := "()I" } : Jvm.MethodName) jdk_37_method_2_code (1 : Nat) (Option.some Jvm.ClassFile.FieldType.int)]
set_option maxRecDepth 65536 in
theorem codes_eq : words1.filter isCode = codes1 := rfl
theorem w_codes : ∀ c ∈ words1.filter isCode, c.before args0 about1 = true := by
  rw [codes_eq]
  intro c hc
  simp only [codes1, List.mem_cons, List.not_mem_nil, or_false] at hc
  rcases hc with rfl | rfl | rfl | rfl
  · exact w_c0
  · exact w_c1
  · exact w_c2
  · exact w_c3
set_option maxRecDepth 65536 in
theorem w_t1 : (words1.take 24).all (fun c => isCode c || c.before args0 about1) = true := by decide +kernel
set_option maxRecDepth 65536 in
theorem w_t2 : ((words1.drop 24).take 24).all (fun c => isCode c || c.before args0 about1) = true := by decide +kernel
set_option maxRecDepth 65536 in
theorem w_t3 : ((words1.drop 24).drop 24).all (fun c => isCode c || c.before args0 about1) = true := by decide +kernel
theorem w_tables : (allAtoms (Jvm.Cond.code x code maxLocals ret :: tables_1)).before args0 about1 = true := by
  rw [allAtoms_all]
  show words1.all (fun c => c.before args0 about1) = true
  refine all_split ?_ w_codes
  rw [← List.take_append_drop 24 words1, List.all_append, w_t1, ← List.take_append_drop 24 (words1.drop 24), List.all_append, w_t2, w_t3]
  rfl
set_option maxRecDepth 65536 in
theorem w_case : (Jvm.Cond.and given_1 narrow_1).before args0 about1 = true := by decide +kernel
theorem w_applies : (headSpec (Jvm.Cond.code x code maxLocals ret :: tables_1) room_1).applies x e0.platform about1 = true :=
  (Spec.applies_iff w_frames).mpr ⟨w_running, w_runnable, w_alone, w_named, w_hears, w_ripe, w_room, w_tables⟩
theorem atStart : AtStart classFile x code maxLocals ret World_1 tables_1 room_1 Calls_1 rest_1 Pre_1 launch0 p0 e0 about1 theMethod args0 below0 :=
  ⟨lists_1, trivial, launch0.admits_env _ _ _, launch0.least_env, fairChoices_fair.cas, fairChoices_fair.clock, w_frames, w_args, w_heap, w_applies, trivial, trivial, w_case⟩
end start1
theorem witness_1 : WitnessClaimed_1 := ⟨start1.p0, start1.e0, start1.about1, start1.theMethod, start1.args0, start1.below0, start1.atStart⟩
end Jvm.Pilot.@@N@@
