import JvmDerived
import JvmDerived.Pilot.@@N@@Statement
import JvmDerived.Pilot.@@N@@Code
set_option linter.unusedVariables false
set_option linter.unusedSimpArgs false
namespace Jvm.RoadKit
open Sem ClassFile Op Lib Jvm.Stand Jvm.Free Jvm.LawKit
section New
variable {p : Program} {l : Launch} {e : Env} {R : Room} {s : State} {m : MethodId} {args : Array Value} {below : List Frame} {meth : Method} {c : Code} {T : State} {locs : List Loc} {cells slots : Nat}
theorem retI (X : Stand p l e R s m args below meth c T locs cells slots) (hx : p.tables.exec = Jvm.exec) {pc : Nat} {Ls : Array Slot} {z : Int32} {rest : List Value} (hret : meth.sig.returnType = some .int) (hd : decode c.code pc = .ok (.ireturn, 1)) {fs : List Frame}
    (hl : ∀ (f : JFrame) (acts : List Action), f.method = m → f.locked = none → f.entered = [] → (doReturn e (T.setTop f) acts (some (.int z))).1 = T.setFrames fs) : Steps p.tables e below (T.setTop (mkF m pc Ls (.int z :: rest))) (T.setFrames fs) :=
  retOut X hx hret rfl (Or.inl ⟨rfl, Or.inl rfl, z, rfl⟩) hd hl
theorem retL (X : Stand p l e R s m args below meth c T locs cells slots) (hx : p.tables.exec = Jvm.exec) {pc : Nat} {Ls : Array Slot} {z : Int64} {rest : List Value} (hret : meth.sig.returnType = some .long) (hd : decode c.code pc = .ok (.lreturn, 1)) {fs : List Frame}
    (hl : ∀ (f : JFrame) (acts : List Action), f.method = m → f.locked = none → f.entered = [] → (doReturn e (T.setTop f) acts (some (.long z))).1 = T.setFrames fs) : Steps p.tables e below (T.setTop (mkF m pc Ls (.long z :: rest))) (T.setFrames fs) :=
  retOut X hx hret rfl (Or.inr (Or.inl ⟨rfl, rfl, z, rfl⟩)) hd hl
theorem own_retD (X : Stand p l e R s m args below meth c T locs cells slots) (hx : p.tables.exec = Jvm.exec) {pc : Nat} {Ls : Array Slot} {z : UInt64} {rest : List Value} (hret : meth.sig.returnType = some .double) (hd : decode c.code pc = .ok (.dreturn, 1)) {fs : List Frame}
    (hl : ∀ (f : JFrame) (acts : List Action), f.method = m → f.locked = none → f.entered = [] → (doReturn e (T.setTop f) acts (some (.double z))).1 = T.setFrames fs) : Steps p.tables e below (T.setTop (mkF m pc Ls (.double z :: rest))) (T.setFrames fs) :=
  retOut X hx hret rfl (Or.inr (Or.inr (Or.inl ⟨rfl, rfl, z, rfl⟩))) hd hl
theorem own_nar {t : FieldType} {w : Value} (ht : t.isReference = true) (hw : w.isRef = true) : narrow t w = w := by
  cases t <;> first | (cases ht; done) | (cases w <;> first | rfl | (cases hw; done))
theorem retA (X : Stand p l e R s m args below meth c T locs cells slots) (hx : p.tables.exec = Jvm.exec) {pc : Nat} {Ls : Array Slot} {w : Value} {t : FieldType} {rest : List Value} (hret : meth.sig.returnType = some t) (ht : t.isReference = true) (hw : w.isRef = true) (hd : decode c.code pc = .ok (.areturn, 1)) {fs : List Frame}
    (hl : ∀ (f : JFrame) (acts : List Action), f.method = m → f.locked = none → f.entered = [] → (doReturn e (T.setTop f) acts (some w)).1 = T.setFrames fs) : Steps p.tables e below (T.setTop (mkF m pc Ls (w :: rest))) (T.setFrames fs) :=
  retOut X hx hret (own_nar ht hw) (Or.inr (Or.inr (Or.inr (Or.inr ⟨rfl, ht, hw⟩)))) hd hl
/-- the rest of a walk, as a predicate on where it stands -/
theorem own_open (K N : Nat) (Q : Option Value → Heap → List Loc → Prop) (hlocks : meth.locks = false) :
    ∃ G : State → JFrame → Prop,
      (∀ {T T' : State} {g g' : JFrame}, (∀ t, Steps p.tables e below (T'.setTop g') t → Steps p.tables e below (T.setTop g) t) → G T' g' → G T g) ∧
      (∀ {T : State} {g : JFrame} {locs : List Loc} {cells slots : Nat} {v : Option Value} {h : Heap}, Stand p l e R s m args below meth c T locs cells slots → (meth.sig.returnType = none → v = none) →
        (∀ fs, (∀ (f : JFrame) (acts : List Action), f.method = m → f.locked = none → f.entered = [] → (doReturn e (T.setTop f) acts v).1 = T.setFrames fs) → Steps p.tables e below (T.setTop g) (T.setFrames fs)) → T.heap = h → Q v h locs → cells ≤ K → slots ≤ N → G T g) ∧
      (∀ {T : State} {g : JFrame}, G T g → ∃ t o, Steps p.tables e below (T.setTop g) t ∧ t.status = .running ∧ Ended t below o ∧ ∃ v L, o = .returned v ∧ Q v t.heap L ∧ FrameEnd s o t L K N) := by
  refine ⟨fun T g => ∃ t o, Steps p.tables e below (T.setTop g) t ∧ t.status = .running ∧ Ended t below o ∧ ∃ v L, o = .returned v ∧ Q v t.heap L ∧ FrameEnd s o t L K N, ?_, ?_, fun h => h⟩
  · intro T T' g g' hs hG
    obtain ⟨t, o, h1, h2⟩ := hG
    exact ⟨t, o, hs t h1, h2⟩
  · intro T g locs cells slots v h X hv hst hT hQ hk hn
    obtain ⟨fs, hr, hrun, hended, hW, hsame⟩ := X.leave hv hlocks
    exact ⟨_, _, hst fs hr, hrun, hended, v, locs, rfl, by show Q v T.heap locs; rw [hT]; exact hQ, ⟨_, rfl⟩, hW, hsame.mono hk hn⟩
theorem own_openW (K N : Nat) (Q : Option Value → Heap → List Loc → Prop) (hlocks : meth.locks = false) :
    ∃ G : State → JFrame → Prop,
      (∀ {T T' : State} {g g' : JFrame}, (∀ t, Steps p.tables e below (T'.setTop g') t → Steps p.tables e below (T.setTop g) t) → G T' g' → G T g) ∧
      (∀ {T : State} {g : JFrame} {locs : List Loc} {cells slots : Nat} {v : Option Value} {h : Heap} {vm0 : Vm} {k0 : Nat}, Stand p l e R (s.setVm vm0) m args below meth c T locs cells slots → s.Since vm0 k0 → k0 ≤ h.size → (meth.sig.returnType = none → v = none) →
        (∀ fs, (∀ (f : JFrame) (acts : List Action), f.method = m → f.locked = none → f.entered = [] → (doReturn e (T.setTop f) acts v).1 = T.setFrames fs) → Steps p.tables e below (T.setTop g) (T.setFrames fs)) → T.heap = h → Q v h locs → cells ≤ K → slots ≤ N → G T g) ∧
      (∀ {T : State} {g : JFrame}, G T g → ∃ t o, Steps p.tables e below (T.setTop g) t ∧ t.status = .running ∧ Ended t below o ∧ ∃ v L, o = .returned v ∧ Q v t.heap L ∧ ReturnedEndW s o t L K N) := by
  refine ⟨fun T g => ∃ t o, Steps p.tables e below (T.setTop g) t ∧ t.status = .running ∧ Ended t below o ∧ ∃ v L, o = .returned v ∧ Q v t.heap L ∧ ReturnedEndW s o t L K N, ?_, ?_, fun h => h⟩
  · intro T T' g g' hs hG
    obtain ⟨t, o, h1, h2⟩ := hG
    exact ⟨t, o, hs t h1, h2⟩
  · intro T g locs cells slots v h vm0 k0 X hS hk0 hv hst hT hQ hk hn
    obtain ⟨fs, hr, hrun, hended, hW⟩ := X.leaveW hS (by rw [hT]; exact hk0) hv hlocks
    exact ⟨_, _, hst fs hr, hrun, hended, v, locs, rfl, by show Q v T.heap locs; rw [hT]; exact hQ, hW.1, hW.2.1, hW.2.2.1, hW.2.2.2.mono hk hn⟩
theorem own_at {j : Int32} {i : Nat} {vs : List Value} {d v : Value} (hj : j.toNatClampNeg = i) (h : vs.getD i d = v) : vs.getD j.toNatClampNeg d = v := hj ▸ h
theorem own_gen {n0 : Nat} (X : Stand p l e R s m args below meth c T locs cells slots) (N : Fr n0 locs) : ∃ lc, Stand p l e R s m args below meth c T lc cells slots ∧ Fr n0 lc := ⟨_, X, N⟩
theorem own_sl (a : Array Slot) : ∃ z, z = a := ⟨_, rfl⟩
theorem own_xlt {x y : Int32} : x < y ↔ x.toInt < y.toInt := Int32.lt_iff_toInt_lt
theorem own_xeq {x y : Int32} : x = y ↔ x.toInt = y.toInt := Int32.toInt_inj.symm
theorem own_xltL {x y : Int64} : x < y ↔ x.toInt < y.toInt := Int64.lt_iff_toInt_lt
theorem own_xeqL {x y : Int64} : x = y ↔ x.toInt = y.toInt := Int64.toInt_inj.symm
theorem own_old_le {Z : State} {n0 : Nat} {h : Heap} (O : Old Z n0 h) : n0 ≤ h.size := O.1 ▸ O.2.1
theorem own_oldne {Z : State} {n0 : Nat} {h : Heap} {a b : Addr} (O : Old Z n0 h) (q : a < Z.heap.size) (r : n0 ≤ b) : a ≠ b := O.ne q r
theorem own_fldI {Z : State} {args : Array Value} {t : Term} {C f d : String} {a : Addr} {k : Int32} (ht : t.eval args Z none [] Z = some (.ref a)) (h : (Cond.eq (.field t C f d) (.int k)).value args Z none Z [] = some true) : Fld Z Z.heap a C f d (.int k) := by
  refine Fld.start ?_
  rw [← fld_at (C := C) (n := f) (dd := d) ht]
  obtain ⟨x, y, h1, h2, h3, h4⟩ := cmp_v (Or.inl h)
  have h5 : y = .int k := Option.some.inj (h2.symm.trans (Term.int_eval k))
  subst h5
  obtain ⟨z, rfl⟩ := h4
  have := gotT (P := z = k) (by simp [Cond.value, h1, h2]) h
  rw [h1, this]
theorem own_fldD {Z : State} {args : Array Value} {t : Term} {C f d : String} {a : Addr} {k : Int64} {b : UInt64} (hb : k.toUInt64 = b) (ht : t.eval args Z none [] Z = some (.ref a)) (h : (Cond.eq (.field t C f d) (.op1 .bitsD (.long k))).value args Z none Z [] = some true) : Fld Z Z.heap a C f d (.double b) := by
  refine Fld.start ?_
  rw [← fld_at (C := C) (n := f) (dd := d) ht]
  obtain ⟨x, y, h1, h2, h3, h4⟩ := cmp_v (Or.inl h)
  have h5 : y = .double k.toUInt64 := Option.some.inj (h2.symm.trans rfl)
  subst h5
  obtain ⟨z, rfl⟩ := h4
  have := gotT (P := z = k.toUInt64) (by simp [Cond.value, h1, h2]) h
  rw [h1, this, hb]
theorem own_dnn {a b : UInt64} (ha : Jvm.Free.Fl.NoNaN64 a) (hb : FP.Core.DFin b) (hz : ¬ FP.Core.DZero b) : Jvm.Free.Fl.NoNaN64 (FP.ddiv a b) := by
  refine Jvm.Free.Fl.val64_no.mpr fun q => ?_
  have q2 := (FP.Core.quotient_nan FP.Core.b64 _ _).mp ((FP.Core.val64_ddiv a b).symm.trans q)
  rcases q2 with h | h | ⟨s, t, h1, h2⟩ | ⟨s, t, q, r, h1, h2⟩
  · exact Jvm.Free.Fl.val64_no.mp ha h
  · exact hb.ne_nan h
  · exact hb.ne_inf t h2
  · exact hz ⟨t, r, h2⟩
theorem own_i2dn (x : Int32) : Jvm.Free.Fl.NoNaN64 (FP.i2d x) := Jvm.Free.Fl.noNaN64_no.mpr (FP.Core.i2d_fin x).notNaN
theorem own_i2dz {x : Int32} (h : x ≠ 0) : ¬ FP.Core.DZero (FP.i2d x) := fun q => FP.Core.i2d_ne_zero h ((FP.Core.zero_bits2 _).mp q)
theorem own_and255 (x : Int32) : ¬ (x &&& (255 : Int32)) < 0 ∧ ¬ (255 : Int32) < (x &&& (255 : Int32)) := by
  have c1 := c_mask x (255 : Int32) 8 (by decide) (by decide)
  have q0 : (0 : Int32).toInt = 0 := by decide
  have q1 : (255 : Int32).toInt = 255 := by decide
  rw [own_xlt, own_xlt]
  omega
theorem own_l255 (x : Int64) : ¬ (x &&& (255 : Int64)).toInt32 < 0 ∧ ¬ (255 : Int32) < (x &&& (255 : Int64)).toInt32 := by
  have c1 := c_maskL x (255 : Int64) 8 (by decide) (by decide)
  have c2 := c_l2i (x &&& (255 : Int64))
  have r := rng32 (x &&& (255 : Int64)).toInt32
  have q0 : (0 : Int32).toInt = 0 := by decide
  have q1 : (255 : Int32).toInt = 255 := by decide
  rw [own_xlt, own_xlt]
  omega
theorem own_i2c {x : Int32} (h : ¬ x < 0 ∧ ¬ (255 : Int32) < x) : x.toUInt32.toUInt16.toUInt32.toInt32 = x := by
  have c1 := c_i2c x
  have q0 : (0 : Int32).toInt = 0 := by decide
  have q1 : (255 : Int32).toInt = 255 := by decide
  rw [own_xlt, own_xlt] at h
  rw [own_xeq]
  omega
theorem own_narc {x : Int32} (h : ¬ x < 0 ∧ ¬ (255 : Int32) < x) : nar .char x = x := own_i2c h
theorem own_nz {Z : State} {args : Array Value} {t : Term} {z : Int32} (ht : t.eval args Z none [] Z = some (.int z)) (h : (Cond.not (Cond.eq t (.int 0))).value args Z none Z [] = some true) : ¬ z = (0 : Int32) :=
  gotF (P := z = (0 : Int32)) (by simp [Cond.value, ht, Term.int_eval]) (not_v h)
theorem own_evI {Z : State} {args : Array Value} {u : Term} {k : Int32} (h : (Cond.eq u (.int k)).value args Z none Z [] = some true) : u.eval args Z none [] Z = some (.int k) := by
  obtain ⟨x, y, h1, h2, h3, h4⟩ := cmp_v (Or.inl h)
  have h5 : y = .int k := Option.some.inj (h2.symm.trans (Term.int_eval k))
  subst h5
  obtain ⟨z, rfl⟩ := h4
  have := gotT (P := z = k) (by simp [Cond.value, h1, h2]) h
  rw [h1, this]
theorem own_slotI {Z : State} {args : Array Value} {t : Term} {a : Addr} {i k : Int32} {cl : Cell} (ht : t.eval args Z none [] Z = some (.ref a)) (hc : Z.heap[a]? = some cl) (h : (Cond.eq (.elem t (.int i)) (.int k)).value args Z none Z [] = some true) : cl.slots[i.toNatClampNeg]? = some (.int k) :=
  (elem_in (own_evI h) ht (Term.int_eval i) hc).2
theorem own_lenI {Z : State} {args : Array Value} {t : Term} {a : Addr} {n : Int32} {cl : Cell} {ty : FieldType} (ht : t.eval args Z none [] Z = some (.ref a)) (A : Arr Z Z.heap a cl ty) (h : (Cond.eq (.length t) (.int n)).value args Z none Z [] = some true) : cl.slots.size < 2 ^ 31 ∧ cl.slots.size.toInt32 = n := by
  have hh := A.fin (Vm.Alike.refl _)
  have q := own_evI h
  simp only [Term.eval, ht, hh, Option.bind_eq_bind, Option.bind_some] at q
  split at q
  · rename_i hlt
    exact ⟨hlt, Value.int.inj (Option.some.inj q)⟩
  · cases q
theorem own_fldN {Z : State} {args : Array Value} {t : Term} {C f d : String} {a : Addr} (ht : t.eval args Z none [] Z = some (.ref a)) (h : (Cond.eq (.field t C f d) .null).value args Z none Z [] = some true) : Fld Z Z.heap a C f d .null := by
  refine Fld.start ?_
  rw [← fld_at (C := C) (n := f) (dd := d) ht]
  exact null_v h
theorem own_selpriv {Z s : State} {a0 args : Array Value} {y : MethodName} {n : Nat} (hZ : Z.Warmed39 s.vm) (wp : (Cond.privateMethod y).before a0 Z = true) (wi : (Cond.instanceMethod y).before a0 Z = true) (wk : (Cond.instantiable y.cls n).before a0 Z = true) (hy : y.cls ≠ "java/lang/invoke/MethodHandle" ∧ y.cls ≠ "java/lang/invoke/VarHandle") : (Cond.selects y.cls y y).before args s = true := by
  obtain ⟨c, k, h1, h2, -, h3, -⟩ := Cond.instantiable_spec (mv (s := s) (args := args) hZ wk)
  exact selects_self_of_private h1 h2 (Bool.or_eq_false_iff.mp h3).1 (Cond.privateMethod_at (mvP hZ wp (args := args))) (mv hZ wi) hy
theorem own_ne_arv {Z : State} {h : Heap} {a b : Addr} {C : String} {a0 : Array Value} {i : Nat} {k : ClassId} {ty : FieldType} {n : Int32} {vs : List Value} {dv : Value} (F : Exa Z h a C) (wi : (Cond.instantiable C i).before a0 Z = true) (V : Arv Z h b k ty n vs dv) : a ≠ b := by
  obtain ⟨cl, A, -⟩ := V
  exact ne_arr F wi A
theorem own_arr_keep {Z : State} {h h' : Heap} {a : Addr} {cl : Cell} {ty : FieldType} {ws : List Addr} (F : Arr Z h a cl ty) (K : Keep h h' ws) (q : a ∉ ws) : Arr Z h' a cl ty := ⟨K.2.1 a cl F.1 q, F.2⟩
section Arrays
variable {Z : State} {h : Heap} {a : Addr} {k : ClassId} {n : Int32} {vs : List Value} {dv : Value} {g : JFrame} {rest : List Value} {j : Int32} {v : Value}
theorem own_len {ty : FieldType} (X : Stand p l e R s m args below meth c T locs cells slots) (hx : p.tables.exec = Jvm.exec) (hZ : Z.Warmed39 s.vm) (eT : T.heap = h) (V : Arv Z h a k ty n vs dv) (hg : g.method = m) (hs : g.stack = .ref a :: rest) (hd : decode c.code g.pc = .ok (.arraylength, 1)) (target : State)
    (hr : Steps p.tables e below (T.setTop { g with pc := g.pc + 1, stack := .int n :: rest }) target) : Steps p.tables e below (T.setTop g) target := by
  obtain ⟨cl, A, -, S, N, -, -⟩ := V
  refine X.arraylength hx (by rw [eT]; exact A.1) (State.isArrayOf_alike hZ.alike A.2.1) hg hs hd target ?_
  rw [len_of S N]; exact hr
theorem own_ldI (X : Stand p l e R s m args below meth c T locs cells slots) (hx : p.tables.exec = Jvm.exec) (hZ : Z.Warmed39 s.vm) (eT : T.heap = h) (V : Arv Z h a k .int n vs dv) (hj : ¬ j < 0 ∧ j < n) (hv : vs.getD j.toNatClampNeg dv = v) (hg : g.method = m) (hs : g.stack = .int j :: .ref a :: rest) (hd : decode c.code g.pc = .ok (.iaload, 1)) (target : State)
    (hr : Steps p.tables e below (T.setTop { g with pc := g.pc + 1, stack := v :: rest }) target) : Steps p.tables e below (T.setTop g) target := by
  obtain ⟨cl, A, -, S, N, H, -⟩ := V
  have hin := inb_of S hj
  exact X.iaload hx (by rw [eT]; exact A.1) (State.isArrayOf_alike hZ.alike A.2.1) A.2.2 hin (H.at hin hv) hg hs hd target hr
theorem own_ldJ (X : Stand p l e R s m args below meth c T locs cells slots) (hx : p.tables.exec = Jvm.exec) (hZ : Z.Warmed39 s.vm) (eT : T.heap = h) (V : Arv Z h a k .long n vs dv) (hj : ¬ j < 0 ∧ j < n) (hv : vs.getD j.toNatClampNeg dv = v) (hg : g.method = m) (hs : g.stack = .int j :: .ref a :: rest) (hd : decode c.code g.pc = .ok (.laload, 1)) (target : State)
    (hr : Steps p.tables e below (T.setTop { g with pc := g.pc + 1, stack := v :: rest }) target) : Steps p.tables e below (T.setTop g) target := by
  obtain ⟨cl, A, -, S, N, H, -⟩ := V
  have hin := inb_of S hj
  exact X.laload hx (by rw [eT]; exact A.1) (State.isArrayOf_alike hZ.alike A.2.1) A.2.2 hin (H.at hin hv) hg hs hd target hr
theorem own_ldC (X : Stand p l e R s m args below meth c T locs cells slots) (hx : p.tables.exec = Jvm.exec) (hZ : Z.Warmed39 s.vm) (eT : T.heap = h) (V : Arv Z h a k .char n vs dv) (hj : ¬ j < 0 ∧ j < n) (hv : vs.getD j.toNatClampNeg dv = v) (hg : g.method = m) (hs : g.stack = .int j :: .ref a :: rest) (hd : decode c.code g.pc = .ok (.caload, 1)) (target : State)
    (hr : Steps p.tables e below (T.setTop { g with pc := g.pc + 1, stack := v :: rest }) target) : Steps p.tables e below (T.setTop g) target := by
  obtain ⟨cl, A, -, S, N, H, -⟩ := V
  have hin := inb_of S hj
  exact X.caload hx (by rw [eT]; exact A.1) (State.isArrayOf_alike hZ.alike A.2.1) A.2.2 hin (H.at hin hv) hg hs hd target hr
theorem own_ldB (X : Stand p l e R s m args below meth c T locs cells slots) (hx : p.tables.exec = Jvm.exec) (hZ : Z.Warmed39 s.vm) (eT : T.heap = h) (V : Arv Z h a k .byte n vs dv) (hj : ¬ j < 0 ∧ j < n) (hv : vs.getD j.toNatClampNeg dv = v) (hg : g.method = m) (hs : g.stack = .int j :: .ref a :: rest) (hd : decode c.code g.pc = .ok (.baload, 1)) (target : State)
    (hr : Steps p.tables e below (T.setTop { g with pc := g.pc + 1, stack := v :: rest }) target) : Steps p.tables e below (T.setTop g) target := by
  obtain ⟨cl, A, -, S, N, H, -⟩ := V
  have hin := inb_of S hj
  exact X.baloadBytes hx (by rw [eT]; exact A.1) (State.isArrayOf_alike hZ.alike A.2.1) A.2.2 hin (H.at hin hv) hg hs hd target hr
theorem own_ldR {ty : FieldType} (X : Stand p l e R s m args below meth c T locs cells slots) (hx : p.tables.exec = Jvm.exec) (hZ : Z.Warmed39 s.vm) (eT : T.heap = h) (V : Arv Z h a k ty n vs dv) (hj : ¬ j < 0 ∧ j < n) (hv : vs.getD j.toNatClampNeg dv = v) (hty : ty.isReference = true) (hg : g.method = m) (hs : g.stack = .int j :: .ref a :: rest) (hd : decode c.code g.pc = .ok (.aaload, 1)) (target : State)
    (hr : Steps p.tables e below (T.setTop { g with pc := g.pc + 1, stack := v :: rest }) target) : Steps p.tables e below (T.setTop g) target := by
  obtain ⟨cl, A, -, S, N, H, -⟩ := V
  have hin := inb_of S hj
  exact X.aaload hx (by rw [eT]; exact A.1) (State.isArrayOf_alike hZ.alike A.2.1) hty A.2.2 hin (H.at hin hv) hg hs hd target hr
theorem own_stI {x : Int32} (X : Stand p l e R s m args below meth c T locs cells slots) (hx : p.tables.exec = Jvm.exec) (hZ : Z.Warmed39 s.vm) (eT : T.heap = h) (V : Arv Z h a k .int n vs dv) (hj : ¬ j < 0 ∧ j < n) {i : Nat} (hji : j.toNatClampNeg = i) (hi : i < vs.length) (hg : g.method = m) (hs : g.stack = .int x :: .int j :: .ref a :: rest) (hd : decode c.code g.pc = .ok (.iastore, 1)) :
    ∃ T' h', Stand p l e R s m args below meth c T' (locs ++ [⟨a, j.toNatClampNeg⟩]) cells slots ∧ T'.heap = h' ∧ Wr h h' a j.toNatClampNeg (.int x) ∧ Arv Z h' a k .int n (vs.set i (.int x)) dv ∧ ∀ target, Steps p.tables e below (T'.setTop { g with pc := g.pc + 1, stack := rest }) target → Steps p.tables e below (T.setTop g) target := by
  obtain ⟨cl, A, q, S, N, H, Gf⟩ := V
  obtain ⟨T', h', X', e', W', st⟩ := stI X hx hZ eT A (inb_of S hj) hg hs hd
  exact ⟨T', h', X', e', W', Arv.set A q S N H Gf rfl W' i hji hi, st⟩
theorem own_stJ {x : Int64} (X : Stand p l e R s m args below meth c T locs cells slots) (hx : p.tables.exec = Jvm.exec) (hZ : Z.Warmed39 s.vm) (eT : T.heap = h) (V : Arv Z h a k .long n vs dv) (hj : ¬ j < 0 ∧ j < n) {i : Nat} (hji : j.toNatClampNeg = i) (hi : i < vs.length) (hg : g.method = m) (hs : g.stack = .long x :: .int j :: .ref a :: rest) (hd : decode c.code g.pc = .ok (.lastore, 1)) :
    ∃ T' h', Stand p l e R s m args below meth c T' (locs ++ [⟨a, j.toNatClampNeg⟩]) cells slots ∧ T'.heap = h' ∧ Wr h h' a j.toNatClampNeg (.long x) ∧ Arv Z h' a k .long n (vs.set i (.long x)) dv ∧ ∀ target, Steps p.tables e below (T'.setTop { g with pc := g.pc + 1, stack := rest }) target → Steps p.tables e below (T.setTop g) target := by
  obtain ⟨cl, A, q, S, N, H, Gf⟩ := V
  obtain ⟨T', h', X', e', W', st⟩ := stJ X hx hZ eT A (inb_of S hj) hg hs hd
  exact ⟨T', h', X', e', W', Arv.set A q S N H Gf rfl W' i hji hi, st⟩
theorem own_stC {x : Int32} (X : Stand p l e R s m args below meth c T locs cells slots) (hx : p.tables.exec = Jvm.exec) (hZ : Z.Warmed39 s.vm) (eT : T.heap = h) (V : Arv Z h a k .char n vs dv) (hj : ¬ j < 0 ∧ j < n) {i : Nat} (hji : j.toNatClampNeg = i) (hi : i < vs.length) (hg : g.method = m) (hs : g.stack = .int x :: .int j :: .ref a :: rest) (hd : decode c.code g.pc = .ok (.castore, 1)) :
    ∃ T' h', Stand p l e R s m args below meth c T' (locs ++ [⟨a, j.toNatClampNeg⟩]) cells slots ∧ T'.heap = h' ∧ Wr h h' a j.toNatClampNeg (.int (nar .char x)) ∧ Arv Z h' a k .char n (vs.set i (.int (nar .char x))) dv ∧ ∀ target, Steps p.tables e below (T'.setTop { g with pc := g.pc + 1, stack := rest }) target → Steps p.tables e below (T.setTop g) target := by
  obtain ⟨cl, A, q, S, N, H, Gf⟩ := V
  obtain ⟨T', h', X', e', W', st⟩ := stC X hx hZ eT A (inb_of S hj) hg hs hd
  exact ⟨T', h', X', e', W', Arv.set A q S N H Gf (fits_nar_char _) W' i hji hi, st⟩
theorem own_stB {x : Int32} (X : Stand p l e R s m args below meth c T locs cells slots) (hx : p.tables.exec = Jvm.exec) (hZ : Z.Warmed39 s.vm) (eT : T.heap = h) (V : Arv Z h a k .byte n vs dv) (hj : ¬ j < 0 ∧ j < n) {i : Nat} (hji : j.toNatClampNeg = i) (hi : i < vs.length) (hg : g.method = m) (hs : g.stack = .int x :: .int j :: .ref a :: rest) (hd : decode c.code g.pc = .ok (.bastore, 1)) :
    ∃ T' h', Stand p l e R s m args below meth c T' (locs ++ [⟨a, j.toNatClampNeg⟩]) cells slots ∧ T'.heap = h' ∧ Wr h h' a j.toNatClampNeg (.int (nar .byte x)) ∧ Arv Z h' a k .byte n (vs.set i (.int (nar .byte x))) dv ∧ ∀ target, Steps p.tables e below (T'.setTop { g with pc := g.pc + 1, stack := rest }) target → Steps p.tables e below (T.setTop g) target := by
  obtain ⟨cl, A, q, S, N, H, Gf⟩ := V
  obtain ⟨T', h', X', e', W', st⟩ := stB X hx hZ eT A (inb_of S hj) hg hs hd
  exact ⟨T', h', X', e', W', Arv.set A q S N H Gf (fits_nar_byte _) W' i hji hi, st⟩
theorem own_stR {K : String} (X : Stand p l e R s m args below meth c T locs cells slots) (hx : p.tables.exec = Jvm.exec) (hZ : Z.Warmed39 s.vm) (eT : T.heap = h) (V : Arv Z h a k (.object K) n vs dv) (hj : ¬ j < 0 ∧ j < n) {i : Nat} (hji : j.toNatClampNeg = i) (hi : i < vs.length) (hS : ∀ {cl : Cell}, Arr Z h a cl (.object K) → cl.cls = k → Sto Z h a v) (hg : g.method = m) (hs : g.stack = v :: .int j :: .ref a :: rest) (hd : decode c.code g.pc = .ok (.aastore, 1)) (hf : fits (.object K) v = true := by rfl) :
    ∃ T' h', Stand p l e R s m args below meth c T' (locs ++ [⟨a, j.toNatClampNeg⟩]) cells slots ∧ T'.heap = h' ∧ Wr h h' a j.toNatClampNeg v ∧ Arv Z h' a k (.object K) n (vs.set i v) dv ∧ ∀ target, Steps p.tables e below (T'.setTop { g with pc := g.pc + 1, stack := rest }) target → Steps p.tables e below (T.setTop g) target := by
  obtain ⟨cl, A, q, S, N, H, Gf⟩ := V
  obtain ⟨T', h', X', e', W', st⟩ := stR X hx hZ eT A (inb_of S hj) rfl (hS A q) hg hs hd
  exact ⟨T', h', X', e', W', Arv.set A q S N H Gf hf W' i hji hi, st⟩
end Arrays
end New
end Jvm.RoadKit
/- laws to paste: Road.backV (cut by pick.py; bodies as the Statement names them) -/
namespace Jvm.Pilot.@@N@@
namespace StrChars
open Jvm Sem ClassFile Op Lib Jvm.Stand Jvm.Free.XT Jvm.Free.ALB Jvm.Free.JM Jvm.Free
open Jvm.Lib.Cold (StaticIs)
/-- a char array whose places are chars -/
def Ch (a : Addr) (A : Cell) (U : State) : Prop := Arr .char a A U ∧ Typed .char A
theorem Ch.mv {a : Addr} {A : Cell} {U U' : State} (h : Ch a A U) (hal : U.vm.Alike U'.vm) (hh : U'.heap = U.heap) : Ch a A U' := ⟨h.1.mv hal hh, h.2⟩
theorem Ch.keep {a : Addr} {A : Cell} {U U' : State} (h : Ch a A U) (hal : U.vm.Alike U'.vm) (hk : U'.heap[a]? = some A) : Ch a A U' := ⟨h.1.keep hal hk, h.2⟩
/-- what place i of a char[]'s cell holds -/
def cv (A : Cell) (i : Nat) : Int32 := match A.slots[i]? with | some (.int x) => x | _ => 0
theorem Ch.get {a : Addr} {A : Cell} {U : State} (h : Ch a A U) {i : Nat} (hi : i < A.slots.size) : A.slots[i]? = some (.int (cv A i)) := by
  have e := Array.getElem?_eq_getElem hi
  have f := h.2 i _ e
  unfold cv; rw [e]
  generalize A.slots[i] = v at f
  cases v <;> simp [fits] at f ⊢
/-- the byte that i2b leaves of a char -/
def lo8 (x : Int32) : Int32 := x.toInt8.toInt32
theorem fits_lo8 (y : Int32) : fits .byte (.int (lo8 y)) = true := by
  have h1 := y.toInt8.le_toInt
  have h2 := y.toInt8.toInt_lt
  simp only [lo8, fits, Bool.and_eq_true, decide_eq_true_eq, Int32.le_iff_toInt_le, Int8.toInt_toInt32, show (-128 : Int32).toInt = -128 from by decide, show (127 : Int32).toInt = 127 from by decide]
  omega
/-- A' is A but that each place j of lo .. hi - 1 holds f j -/
def Laid (A A' : Cell) (lo hi : Nat) (f : Nat → Value) : Prop := A'.cls = A.cls ∧ A'.vm = A.vm ∧ A'.slots.size = A.slots.size ∧ ∀ i, A'.slots[i]? = if lo ≤ i ∧ i < hi then some (f i) else A.slots[i]?
theorem Laid.zero (A : Cell) (lo : Nat) (f : Nat → Value) : Laid A A lo (lo + 0) f := ⟨rfl, rfl, rfl, fun i => by rw [if_neg (by omega)]⟩
theorem Laid.step {A Ak : Cell} {lo k : Nat} {f : Nat → Value} {v : Value} (h : Laid A Ak lo k f) (hlo : lo ≤ k) (hk : k < Ak.slots.size) (hv : v = f k) : Laid A (Ak.setSlot k v) lo (k + 1) f := by
  refine ⟨h.1, h.2.1, by simpa [Cell.setSlot] using h.2.2.1, fun i => ?_⟩
  by_cases e : k = i
  · subst e; rw [Cell.slots_setSlot_self v hk, if_pos (by omega), hv]
  · rw [Cell.slots_setSlot_ne v e, h.2.2.2 i]
    by_cases q : lo ≤ i ∧ i < k
    · rw [if_pos q, if_pos (by omega)]
    · rw [if_neg q, if_neg (by omega)]
def U16 : String := "java/lang/StringUTF16"
namespace Cmp5
def yN : MethodName := ⟨"java/lang/StringUTF16", "compress", "([CI[BII)I"⟩
abbrev yB : ByteArray := jdk_52_method_21_code
theorem d0 : decode yB 0 = .ok (.iconst 0, 1) := by decide +kernel
theorem d1 : decode yB 1 = .ok (.istore 5, 2) := by decide +kernel
theorem d3 : decode yB 3 = .ok (.iload 5, 2) := by decide +kernel
theorem d5 : decode yB 5 = .ok (.iload 4, 2) := by decide +kernel
theorem d7 : decode yB 7 = .ok (.if_icmp (.ge) 37, 3) := by decide +kernel
theorem d10 : decode yB 10 = .ok (.aload_n 0, 1) := by decide +kernel
theorem d11 : decode yB 11 = .ok (.iload_n 1, 1) := by decide +kernel
theorem d12 : decode yB 12 = .ok (.caload, 1) := by decide +kernel
theorem d13 : decode yB 13 = .ok (.istore 6, 2) := by decide +kernel
theorem d15 : decode yB 15 = .ok (.iload 6, 2) := by decide +kernel
theorem d17 : decode yB 17 = .ok (.sipush 255, 3) := by decide +kernel
theorem d20 : decode yB 20 = .ok (.if_icmp (.le) 6, 3) := by decide +kernel
theorem d26 : decode yB 26 = .ok (.aload_n 2, 1) := by decide +kernel
theorem d27 : decode yB 27 = .ok (.iload_n 3, 1) := by decide +kernel
theorem d28 : decode yB 28 = .ok (.iload 6, 2) := by decide +kernel
theorem d30 : decode yB 30 = .ok (.i2b, 1) := by decide +kernel
theorem d31 : decode yB 31 = .ok (.bastore, 1) := by decide +kernel
theorem d32 : decode yB 32 = .ok (.iinc 1 1, 3) := by decide +kernel
theorem d35 : decode yB 35 = .ok (.iinc 3 1, 3) := by decide +kernel
theorem d38 : decode yB 38 = .ok (.iinc 5 1, 3) := by decide +kernel
theorem d41 : decode yB 41 = .ok (.goto (-38), 3) := by decide +kernel
theorem d44 : decode yB 44 = .ok (.iload 4, 2) := by decide +kernel
theorem d46 : decode yB 46 = .ok (.ireturn, 1) := by decide +kernel
def site : List Cond := []
def tab : Cond := tabOf yN yB 7 (some .int) site
def P (b : Addr) (A : Cell) (d : Addr) (B : Cell) (o q len : Nat) (args : Array Value) (s : State) : Prop := args = #[.ref b, .int (Int32.ofNat o), .ref d, .int (Int32.ofNat q), .int (Int32.ofNat len)] ∧ Ch b A s ∧ Arr .byte d B s ∧ b ≠ d ∧ o + len ≤ A.slots.size ∧ q + len ≤ B.slots.size ∧ ∀ i, i < len → ¬ 255 < cv A (o + i)
def E (b : Addr) (A : Cell) (d : Addr) (B : Cell) (o q len : Nat) (r : Option Value) (s u : State) : Prop := r = some (.int (Int32.ofNat len)) ∧ ∃ B', Put d B' s u ∧ Laid B B' q (q + len) (fun j => Value.int (lo8 (cv A (o + (j - q)))))
/-- no char of the range above 255: len; the places written hold each char's low byte -/
theorem law (l : Launch) (b : Addr) (A : Cell) (d : Addr) (B : Cell) (o q len : Nat) : Law l yN 5 5 0 0 yB 7 (some .int) site (P b A d B o q len) (E b A d B o q len) (copyLocs d q len) 0 0 := by
  refine Law.of_walk (plainFor_of_name (by decide +kernel)) (by decide +kernel) (by decide +kernel) (by decide) (fun _ _ h => by rw [h.1]; rfl) (fun _ U U' hal hh h => ⟨h.1, h.2.1.mv hal hh, h.2.2.1.mv hal hh, h.2.2.2⟩) (fun r U U' V V' h1 hal h2 h => ⟨h.1, h.2.elim fun B' q => ⟨B', q.1.mv h1 h2, q.2⟩⟩) ?_
  intro p e s m args below meth c s₁ X0 hexec hbytes hml hret hlk hnm hown hh0 W hP
  obtain ⟨rfl, hA, hB, hne, l1, l2, hp⟩ := hP
  have c1 : Steps p.tables e below (s₁.setTop (entryFrame m #[.ref b, .int (Int32.ofNat o), .ref d, .int (Int32.ofNat q), .int (Int32.ofNat len)] 7)) (s₁.setTop (mkF m 0 #[.val (.ref b), .val (.int (Int32.ofNat o)), .val (.ref d), .val (.int (Int32.ofNat q)), .val (.int (Int32.ofNat len)), .unset, .unset] [])) := entry rfl
  have hA0 := hA.1.mv X0.warmed.alike hh0
  have hB0 := hB.mv X0.warmed.alike hh0
  have a31 := hA.1.2.2.2
  have c2 : Steps p.tables e below (s₁.setTop (entryFrame m #[.ref b, .int (Int32.ofNat o), .ref d, .int (Int32.ofNat q), .int (Int32.ofNat len)] 7)) (s₁.setTop (mkF m 3 #[.val (.ref b), .val (.int (Int32.ofNat o)), .val (.ref d), .val (.int (Int32.ofNat q)), .val (.int (Int32.ofNat len)), .val (.int 0), .unset] [])) := c1.trans (by
    refine iconstV X0.here hexec rfl 0 (hb hbytes d0) (by decide) ?_
    refine XS.istore X0.here hexec rfl (hb hbytes d1) rfl rfl ?_
    exact Steps.refl _)
  have loop : ∀ (r i : Nat), i + r = len → ∀ (z : Slot), (z = .unset ∨ ∃ w, z = .val w ∧ w.category = 1) → ∀ (Tl : State) (Bk : Cell), Stand p l e { frames := 0, locals := 0, cells := 0, slots := 0 } s m #[.ref b, .int (Int32.ofNat o), .ref d, .int (Int32.ofNat q), .int (Int32.ofNat len)] below meth c Tl ([] ++ copyLocs d q i) 0 0 → Put d Bk s₁ Tl → Laid B Bk q (q + i) (fun j => Value.int (lo8 (cv A (o + (j - q))))) →
      Steps p.tables e below (s₁.setTop (entryFrame m #[.ref b, .int (Int32.ofNat o), .ref d, .int (Int32.ofNat q), .int (Int32.ofNat len)] 7)) (Tl.setTop (mkF m 3 #[.val (.ref b), .val (.int (Int32.ofNat (o + i))), .val (.ref d), .val (.int (Int32.ofNat (q + i))), .val (.int (Int32.ofNat len)), .val (.int (Int32.ofNat i)), z] [])) → ∃ (T' : State) (B' : Cell) (z' : Slot), Stand p l e { frames := 0, locals := 0, cells := 0, slots := 0 } s m #[.ref b, .int (Int32.ofNat o), .ref d, .int (Int32.ofNat q), .int (Int32.ofNat len)] below meth c T' ([] ++ copyLocs d q len) 0 0 ∧ Put d B' s₁ T' ∧ Laid B B' q (q + len) (fun j => Value.int (lo8 (cv A (o + (j - q))))) ∧
      Steps p.tables e below (s₁.setTop (entryFrame m #[.ref b, .int (Int32.ofNat o), .ref d, .int (Int32.ofNat q), .int (Int32.ofNat len)] 7)) (T'.setTop (mkF m 3 #[.val (.ref b), .val (.int (Int32.ofNat (o + len))), .val (.ref d), .val (.int (Int32.ofNat (q + len))), .val (.int (Int32.ofNat len)), .val (.int (Int32.ofNat len)), z'] [])) := by
    intro r
    induction r with
    | zero =>
      intro i hi z hz Tl Bk Xl pl fl cl
      have hil : i = len := by omega
      rw [hil] at Xl fl cl
      exact ⟨Tl, Bk, z, Xl, pl, fl, cl⟩
    | succ r ih =>
      intro i hi z hz Tl Bk Xl pl fl cl
      have all := X0.warmed.alike.symm.trans Xl.warmed.alike
      have hAl := hA0.keep all (pl.other hne hA0.1)
      have hBk := hB0.like all pl.1 fl.1 fl.2.1 fl.2.2.1
      have hlt : q + i < Bk.slots.size := by rw [fl.2.2.1]; omega
      have c3 : Steps p.tables e below (s₁.setTop (entryFrame m #[.ref b, .int (Int32.ofNat o), .ref d, .int (Int32.ofNat q), .int (Int32.ofNat len)] 7)) (Tl.setTop (mkF m 12 #[.val (.ref b), .val (.int (Int32.ofNat (o + i))), .val (.ref d), .val (.int (Int32.ofNat (q + i))), .val (.int (Int32.ofNat len)), .val (.int (Int32.ofNat i)), z] [.int (Int32.ofNat (o + i)), .ref b])) := cl.trans (by
        refine XS.iload Xl.here hexec rfl (hb hbytes d3) rfl ?_
        refine XS.iload Xl.here hexec rfl (hb hbytes d5) rfl ?_
        refine XS.icmpNo Xl.here hexec rfl (hb hbytes d7) rfl (ii_ge_f (lt32 (by omega) (by omega))) ?_
        refine XS.aloadN Xl.here hexec rfl (hb hbytes d10) rfl rfl ?_
        refine XS.iloadN Xl.here hexec rfl (hb hbytes d11) rfl ?_
        exact Steps.refl _)
      have c4 : Steps p.tables e below (s₁.setTop (entryFrame m #[.ref b, .int (Int32.ofNat o), .ref d, .int (Int32.ofNat q), .int (Int32.ofNat len)] 7)) (Tl.setTop (mkF m 13 #[.val (.ref b), .val (.int (Int32.ofNat (o + i))), .val (.ref d), .val (.int (Int32.ofNat (q + i))), .val (.int (Int32.ofNat len)), .val (.int (Int32.ofNat i)), z] [.int (cv A (o + i))])) := c3.trans (by
        refine Xl.aget hexec hAl rfl (hA.get (i := o + i) (by omega)) rfl rfl (hb hbytes d12) ?_
        exact Steps.refl _)
      have c5 : Steps p.tables e below (s₁.setTop (entryFrame m #[.ref b, .int (Int32.ofNat o), .ref d, .int (Int32.ofNat q), .int (Int32.ofNat len)] 7)) (Tl.setTop (mkF m 15 #[.val (.ref b), .val (.int (Int32.ofNat (o + i))), .val (.ref d), .val (.int (Int32.ofNat (q + i))), .val (.int (Int32.ofNat len)), .val (.int (Int32.ofNat i)), .val (.int (cv A (o + i)))] [])) := c4.trans (by
        refine XS.istoreS Xl.here hexec rfl (hb hbytes d13) rfl rfl hz ?_
        exact Steps.refl _)
      have c6 : Steps p.tables e below (s₁.setTop (entryFrame m #[.ref b, .int (Int32.ofNat o), .ref d, .int (Int32.ofNat q), .int (Int32.ofNat len)] 7)) (Tl.setTop (mkF m 31 #[.val (.ref b), .val (.int (Int32.ofNat (o + i))), .val (.ref d), .val (.int (Int32.ofNat (q + i))), .val (.int (Int32.ofNat len)), .val (.int (Int32.ofNat i)), .val (.int (cv A (o + i)))] [.int (lo8 (cv A (o + i))), .int (Int32.ofNat (q + i)), .ref d])) := c5.trans (by
        refine XS.iload Xl.here hexec rfl (hb hbytes d15) rfl ?_
        refine sipushV Xl.here hexec rfl 255 (hb hbytes d17) (by decide) ?_
        refine XS.icmpYes Xl.here hexec rfl (pc0 := 20) rfl (hb hbytes d20) rfl (ii_le_t (hp i (by omega))) (by decide) rfl ?_
        refine XS.aloadN Xl.here hexec rfl (hb hbytes d26) rfl rfl ?_
        refine XS.iloadN Xl.here hexec rfl (hb hbytes d27) rfl ?_
        refine XS.iload Xl.here hexec rfl (hb hbytes d28) rfl ?_
        refine i2b Xl.here hexec rfl (hb hbytes d30) rfl ?_
        exact Steps.refl _)
      obtain ⟨T7, X7, p7, st7⟩ := Xl.aput hexec hBk rfl hlt rfl (fits_lo8 (cv A (o + i))) (g := (mkF m 31 #[.val (.ref b), .val (.int (Int32.ofNat (o + i))), .val (.ref d), .val (.int (Int32.ofNat (q + i))), .val (.int (Int32.ofNat len)), .val (.int (Int32.ofNat i)), .val (.int (cv A (o + i)))] [.int (lo8 (cv A (o + i))), .int (Int32.ofNat (q + i)), .ref d])) rfl (rest := []) rfl (hb hbytes d31)
      have c8 : Steps p.tables e below (s₁.setTop (entryFrame m #[.ref b, .int (Int32.ofNat o), .ref d, .int (Int32.ofNat q), .int (Int32.ofNat len)] 7)) (T7.setTop (mkF m 32 #[.val (.ref b), .val (.int (Int32.ofNat (o + i))), .val (.ref d), .val (.int (Int32.ofNat (q + i))), .val (.int (Int32.ofNat len)), .val (.int (Int32.ofNat i)), .val (.int (cv A (o + i)))] [])) := c6.trans (st7 _ (Steps.refl _))
      have c9 : Steps p.tables e below (s₁.setTop (entryFrame m #[.ref b, .int (Int32.ofNat o), .ref d, .int (Int32.ofNat q), .int (Int32.ofNat len)] 7)) (T7.setTop (mkF m 3 #[.val (.ref b), .val (.int (Int32.ofNat (o + i) + 1)), .val (.ref d), .val (.int (Int32.ofNat (q + i) + 1)), .val (.int (Int32.ofNat len)), .val (.int (Int32.ofNat i + 1)), .val (.int (cv A (o + i)))] [])) := c8.trans (by
        refine iincV X7.here hexec rfl 1 (hb hbytes d32) (by decide) rfl rfl ?_
        refine iincV X7.here hexec rfl 1 (hb hbytes d35) (by decide) rfl rfl ?_
        refine iincV X7.here hexec rfl 1 (hb hbytes d38) (by decide) rfl rfl ?_
        refine XS.goto X7.here hexec rfl (pc0 := 41) rfl (hb hbytes d41) (by decide) rfl ?_
        exact Steps.refl _)
      have c10 : Steps p.tables e below (s₁.setTop (entryFrame m #[.ref b, .int (Int32.ofNat o), .ref d, .int (Int32.ofNat q), .int (Int32.ofNat len)] 7)) (T7.setTop (mkF m 3 #[.val (.ref b), .val (.int (Int32.ofNat (o + (i + 1)))), .val (.ref d), .val (.int (Int32.ofNat (q + (i + 1)))), .val (.int (Int32.ofNat len)), .val (.int (Int32.ofNat (i + 1))), .val (.int (cv A (o + i)))] [])) := by
        have := c9
        rw [succ32, succ32, succ32] at this
        exact this
      exact ih (i + 1) (by omega) _ (Or.inr ⟨_, rfl, rfl⟩) T7 _ (by rw [copyLocs_step, ← List.append_assoc]; exact X7) (pl.trans p7) (fl.step (by omega) hlt (by simp)) c10
  obtain ⟨T9, B9, z9, X9, p9, f9, g9⟩ := loop len 0 (by omega) .unset (Or.inl rfl) s₁ B (by simpa [copyLocs] using X0) ⟨hB0.1, fun _ _ => rfl, rfl⟩ (Laid.zero _ _ _) c2
  have c11 : Steps p.tables e below (s₁.setTop (entryFrame m #[.ref b, .int (Int32.ofNat o), .ref d, .int (Int32.ofNat q), .int (Int32.ofNat len)] 7)) (T9.setTop (mkF m 46 #[.val (.ref b), .val (.int (Int32.ofNat (o + len))), .val (.ref d), .val (.int (Int32.ofNat (q + len))), .val (.int (Int32.ofNat len)), .val (.int (Int32.ofNat len)), z9] [.int (Int32.ofNat len)])) := g9.trans (by
    refine XS.iload X9.here hexec rfl (hb hbytes d3) rfl ?_
    refine XS.iload X9.here hexec rfl (hb hbytes d5) rfl ?_
    refine XS.icmpYes X9.here hexec rfl (pc0 := 7) rfl (hb hbytes d7) rfl (ii_ge_t (nlt32 (by omega) (Nat.le_refl _))) (by decide) rfl ?_
    refine XS.iload X9.here hexec rfl (hb hbytes d44) rfl ?_
    exact Steps.refl _)
  exact ⟨T9, some (.int (Int32.ofNat len)), _, _, _, X9, by simp, rfl, rfl, (fun h => by cases h), ⟨rfl, B9, p9.from hh0, f9⟩, fun fs hl => c11.trans (X9.ireturnOut hexec hret rfl (Or.inl rfl) (hb hbytes d46) hl)⟩
end Cmp5
namespace Cmp3
def yN : MethodName := ⟨"java/lang/StringUTF16", "compress", "([CII)[B"⟩
abbrev yB : ByteArray := jdk_52_method_16_code
theorem d0 : decode yB 0 = .ok (.iload_n 2, 1) := by decide +kernel
theorem d1 : decode yB 1 = .ok (.newarray .byte, 2) := by decide +kernel
theorem d3 : decode yB 3 = .ok (.astore_n 3, 1) := by decide +kernel
theorem d4 : decode yB 4 = .ok (.aload_n 0, 1) := by decide +kernel
theorem d5 : decode yB 5 = .ok (.iload_n 1, 1) := by decide +kernel
theorem d6 : decode yB 6 = .ok (.aload_n 3, 1) := by decide +kernel
theorem d7 : decode yB 7 = .ok (.iconst 0, 1) := by decide +kernel
theorem d8 : decode yB 8 = .ok (.iload_n 2, 1) := by decide +kernel
theorem d9 : decode yB 9 = .ok (.invokestatic 115, 3) := by decide +kernel
theorem d12 : decode yB 12 = .ok (.istore 4, 2) := by decide +kernel
theorem d14 : decode yB 14 = .ok (.iload 4, 2) := by decide +kernel
theorem d16 : decode yB 16 = .ok (.iload_n 2, 1) := by decide +kernel
theorem d17 : decode yB 17 = .ok (.if_icmp (.eq) 40, 3) := by decide +kernel
theorem d57 : decode yB 57 = .ok (.aload_n 3, 1) := by decide +kernel
theorem d58 : decode yB 58 = .ok (.areturn, 1) := by decide +kernel
def site : List Cond := [.arrayClass .byte, Cmp5.tab] ++ staticW U16 115 Cmp5.yN
def tab : Cond := tabOf yN yB 6 (some (.array .byte)) site
def P (b : Addr) (A : Cell) (o len : Nat) (args : Array Value) (s : State) : Prop := args = #[.ref b, .int (Int32.ofNat o), .int (Int32.ofNat len)] ∧ Ch b A s ∧ o + len ≤ A.slots.size ∧ len ≤ 536870912 ∧ ∀ i, i < len → ¬ 255 < cv A (o + i)
def E (b : Addr) (A : Cell) (o len : Nat) (r : Option Value) (s u : State) : Prop := NewArr .byte "[B" len (fun j => .int (lo8 (cv A (o + j)))) r s u ∧ u.heap.size = s.heap.size + 1
/-- no char of the range above 255: a new byte[] of their low bytes -/
theorem law (l : Launch) (b : Addr) (A : Cell) (o len : Nat) : Law l yN 3 3 1 18 yB 6 (some (.array .byte)) site (P b A o len) (E b A o len) [] 1 len := by
  refine Law.of_walk (plainFor_of_name (by decide +kernel)) (by decide +kernel) (by decide +kernel) (by decide) (fun _ _ h => by rw [h.1]; rfl) (fun _ U U' hal hh h => ⟨h.1, h.2.1.mv hal hh, h.2.2⟩) (fun r U U' V V' h1 hal h2 h => ⟨NewArr.mv r U U' V V' h1 hal h2 h.1, by rw [h1, h2]; exact h.2⟩) ?_
  intro p e s m args below meth c s₁ X0 hexec hbytes hml hret hlk hnm hown hh0 W hP
  obtain ⟨rfl, hA, l1, l2, hp⟩ := hP
  have a31 := hA.1.2.2.2
  have c1 : Steps p.tables e below (s₁.setTop (entryFrame m #[.ref b, .int (Int32.ofNat o), .int (Int32.ofNat len)] 6)) (s₁.setTop (mkF m 0 #[.val (.ref b), .val (.int (Int32.ofNat o)), .val (.int (Int32.ofNat len)), .unset, .unset, .unset] [])) := entry rfl
  have c2 : Steps p.tables e below (s₁.setTop (entryFrame m #[.ref b, .int (Int32.ofNat o), .int (Int32.ofNat len)] 6)) (s₁.setTop (mkF m 1 #[.val (.ref b), .val (.int (Int32.ofNat o)), .val (.int (Int32.ofNat len)), .unset, .unset, .unset] [.int (Int32.ofNat len)])) := c1.trans (by
    refine XS.iloadN X0.here hexec rfl (hb hbytes d0) rfl ?_
    exact Steps.refl _)
  obtain ⟨T3, B3, X3, ba3, bs3, bv3, bh3, bf3, st3⟩ := X0.anew hexec (atype := .byte) (wk W (.arrayClass .byte)) rfl (by show len * 1 ≤ _; omega) (by omega) (g := (mkF m 1 #[.val (.ref b), .val (.int (Int32.ofNat o)), .val (.int (Int32.ofNat len)), .unset, .unset, .unset] [.int (Int32.ofNat len)])) rfl (hb hbytes d1) (rest := []) rfl (Nat.le_refl _) (by show 0 + len ≤ len; omega)
  rw [hh0] at ba3 st3
  have kp3 : XT.Kept s T3 := (XT.Kept.of_eq hh0).push bh3
  have hA3 := hA.keep X3.warmed.alike (kp3 _ _ hA.1.1)
  have hne : b ≠ s.heap.size := hA.1.ne
  have c4 : Steps p.tables e below (s₁.setTop (entryFrame m #[.ref b, .int (Int32.ofNat o), .int (Int32.ofNat len)] 6)) (T3.setTop (mkF m 3 #[.val (.ref b), .val (.int (Int32.ofNat o)), .val (.int (Int32.ofNat len)), .unset, .unset, .unset] [.ref s.heap.size])) := c2.trans (st3 _ (Steps.refl _))
  have c5 : Steps p.tables e below (s₁.setTop (entryFrame m #[.ref b, .int (Int32.ofNat o), .int (Int32.ofNat len)] 6)) (T3.setTop (mkF m 9 #[.val (.ref b), .val (.int (Int32.ofNat o)), .val (.int (Int32.ofNat len)), .val (.ref s.heap.size), .unset, .unset] [.int (Int32.ofNat len), .int 0, .ref s.heap.size, .int (Int32.ofNat o), .ref b])) := c4.trans (by
    refine XS.astoreN X3.here hexec rfl (hb hbytes d3) rfl rfl rfl ?_
    refine XS.aloadN X3.here hexec rfl (hb hbytes d4) rfl rfl ?_
    refine XS.iloadN X3.here hexec rfl (hb hbytes d5) rfl ?_
    refine XS.aloadN X3.here hexec rfl (hb hbytes d6) rfl rfl ?_
    refine iconstV X3.here hexec rfl 0 (hb hbytes d7) (by decide) ?_
    refine XS.iloadN X3.here hexec rfl (hb hbytes d8) rfl ?_
    exact Steps.refl _)
  obtain ⟨v6, T6, X6, E6, g6⟩ := X3.callS hexec (Cmp5.law l b A s.heap.size B3 o 0 len) hown (wks W (staticW U16 115 Cmp5.yN)) (wk W Cmp5.tab) (W := 0) (Nat.le_of_ble_eq_true rfl) (Nat.le_of_ble_eq_true rfl) (Nat.le_refl _) (by show 0 + len + 0 ≤ len; omega) (g := (mkF m 9 #[.val (.ref b), .val (.int (Int32.ofNat o)), .val (.int (Int32.ofNat len)), .val (.ref s.heap.size), .unset, .unset] [.int (Int32.ofNat len), .int (Int32.ofNat 0), .ref s.heap.size, .int (Int32.ofNat o), .ref b])) rfl (by rw [hml]; rfl) c5 (argsL := [.ref b, .int (Int32.ofNat o), .ref s.heap.size, .int (Int32.ofNat 0), .int (Int32.ofNat len)]) (rest := []) rfl rfl (by show 2 * 0 + 0 ≤ _; decide) (hb hbytes d9) (⟨rfl, hA3, ba3, hne, l1, by rw [bs3]; simp, hp⟩)
  obtain ⟨rfl, B6, p6, f6⟩ := E6
  have c7 : Steps p.tables e below (s₁.setTop (entryFrame m #[.ref b, .int (Int32.ofNat o), .int (Int32.ofNat len)] 6)) (T6.setTop (mkF m 12 #[.val (.ref b), .val (.int (Int32.ofNat o)), .val (.int (Int32.ofNat len)), .val (.ref s.heap.size), .unset, .unset] [.int (Int32.ofNat len)])) := g6
  have c8 : Steps p.tables e below (s₁.setTop (entryFrame m #[.ref b, .int (Int32.ofNat o), .int (Int32.ofNat len)] 6)) (T6.setTop (mkF m 58 #[.val (.ref b), .val (.int (Int32.ofNat o)), .val (.int (Int32.ofNat len)), .val (.ref s.heap.size), .val (.int (Int32.ofNat len)), .unset] [.ref s.heap.size])) := c7.trans (by
    refine XS.istore X6.here hexec rfl (hb hbytes d12) rfl rfl ?_
    refine XS.iload X6.here hexec rfl (hb hbytes d14) rfl ?_
    refine XS.iloadN X6.here hexec rfl (hb hbytes d16) rfl ?_
    refine XS.icmpYes X6.here hexec rfl (pc0 := 17) rfl (hb hbytes d17) rfl (ii_eq_t rfl) (by decide) rfl ?_
    refine XS.aloadN X6.here hexec rfl (hb hbytes d57) rfl rfl ?_
    exact Steps.refl _)
  have X8 := X6.wide (L' := []) (cells' := 1) (slots' := len) (fun x hx hlt => by
    simp only [List.nil_append, copyLocs, List.mem_map, List.mem_range] at hx
    obtain ⟨i, -, rfl⟩ := hx
    exact absurd hlt (Nat.lt_irrefl _)) (Nat.le_refl _) (by omega)
  exact ⟨T6, some (.ref s.heap.size), _, _, _, X8, rfl, rfl, rfl, (fun h => by cases h), ⟨⟨rfl, B6, ba3.like (X3.warmed.alike.symm.trans X6.warmed.alike) p6.1 f6.1 f6.2.1 f6.2.2.1, f6.2.1.trans bv3, by rw [X6.warmed.alike.findClass, f6.1]; exact bf3, by rw [f6.2.2.1, bs3]; simp, fun j hj => by rw [f6.2.2.2 j, if_pos (by omega)]; rfl, kp3.put p6 (Nat.le_refl _)⟩, by rw [p6.2.2, bh3, hh0]; simp⟩, fun fs hl => c8.trans (X8.areturnOut hexec rfl hret rfl (hb hbytes d58) hl)⟩
end Cmp3
namespace CodL
def yN : MethodName := ⟨"java/lang/StringUTF16", "coderFromArrayLen", "([BI)B"⟩
abbrev yB : ByteArray := jdk_52_method_15_code
theorem d0 : decode yB 0 = .ok (.iload_n 1, 1) := by decide +kernel
theorem d1 : decode yB 1 = .ok (.aload_n 0, 1) := by decide +kernel
theorem d2 : decode yB 2 = .ok (.arraylength, 1) := by decide +kernel
theorem d3 : decode yB 3 = .ok (.isub, 1) := by decide +kernel
theorem d4 : decode yB 4 = .ok (.bipush 31, 2) := by decide +kernel
theorem d6 : decode yB 6 = .ok (.iushr, 1) := by decide +kernel
theorem d7 : decode yB 7 = .ok (.i2b, 1) := by decide +kernel
theorem d8 : decode yB 8 = .ok (.ireturn, 1) := by decide +kernel
def site : List Cond := []
def tab : Cond := tabOf yN yB 2 (some .byte) site
def P (d : Addr) (B : Cell) (args : Array Value) (s : State) : Prop := args = #[.ref d, .int (Int32.ofNat B.slots.size)] ∧ Arr .byte d B s
def E (r : Option Value) (s u : State) : Prop := XT.PureE (some (.int 0)) r s u
/-- an array as long as the number of chars: LATIN1 -/
theorem law (l : Launch) (d : Addr) (B : Cell) : Law l yN 2 2 0 0 yB 2 (some .byte) site (P d B) E [] 0 0 := by
  refine Law.of_walk (plainFor_of_name (by decide +kernel)) (by decide +kernel) (by decide +kernel) (by decide) (fun _ _ h => by rw [h.1]; rfl) (fun _ U U' hal hh h => ⟨h.1, h.2.mv hal hh⟩) (fun r U U' V V' h1 hal h2 h => XT.PureE.mv r U U' V V' h1 hal h2 h) ?_
  intro p e s m args below meth c s₁ X0 hexec hbytes hml hret hlk hnm hown hh0 W hP
  obtain ⟨rfl, hB⟩ := hP
  have hB0 := hB.mv X0.warmed.alike hh0
  have c1 : Steps p.tables e below (s₁.setTop (entryFrame m #[.ref d, .int (Int32.ofNat B.slots.size)] 2)) (s₁.setTop (mkF m 0 #[.val (.ref d), .val (.int (Int32.ofNat B.slots.size))] [])) := entry rfl
  have c2 : Steps p.tables e below (s₁.setTop (entryFrame m #[.ref d, .int (Int32.ofNat B.slots.size)] 2)) (s₁.setTop (mkF m 2 #[.val (.ref d), .val (.int (Int32.ofNat B.slots.size))] [.ref d, .int (Int32.ofNat B.slots.size)])) := c1.trans (by
    refine XS.iloadN X0.here hexec rfl (hb hbytes d0) rfl ?_
    refine XS.aloadN X0.here hexec rfl (hb hbytes d1) rfl rfl ?_
    exact Steps.refl _)
  have c3 : Steps p.tables e below (s₁.setTop (entryFrame m #[.ref d, .int (Int32.ofNat B.slots.size)] 2)) (s₁.setTop (mkF m 8 #[.val (.ref d), .val (.int (Int32.ofNat B.slots.size))] [.int (lo8 (ushr (Int32.ofNat B.slots.size - Int32.ofNat B.slots.size) 31))])) := c2.trans (by
    refine X0.alen hexec hB0 rfl rfl (hb hbytes d2) ?_
    refine XS.isub X0.here hexec rfl (hb hbytes d3) rfl ?_
    refine bipushV X0.here hexec rfl 31 (hb hbytes d4) (by decide) ?_
    refine iushr X0.here hexec rfl (hb hbytes d6) rfl ?_
    refine i2b X0.here hexec rfl (hb hbytes d7) rfl ?_
    exact Steps.refl _)
  have e0 : lo8 (ushr (Int32.ofNat B.slots.size - Int32.ofNat B.slots.size) 31) = 0 := by rw [Int32.sub_self]; decide
  rw [e0] at c3
  exact ⟨s₁, some (.int 0), _, _, _, X0, rfl, rfl, rfl, (fun h => by cases h), ⟨rfl, hh0⟩, fun fs hl => c3.trans (X0.ireturnOut hexec hret rfl (Or.inr (Or.inr (Or.inl rfl))) (hb hbytes d8) hl)⟩
end CodL
/-- the String at a is Latin-1 over a new byte[] (the heap's one new cell): the low bytes of the len chars of A from o on; every cell but a is kept -/
def Got (a : Addr) (D : Cell) (fV fC : Field) (A : Cell) (o len : Nat) (r : Option Value) (s u : State) : Prop := r = none ∧ ∃ D' V : Cell, Blank "java/lang/String" a D' u ∧ Same D D' [fV.slot, fC.slot] ∧ D'.slots[fV.slot]? = some (.ref s.heap.size) ∧ D'.slots[fC.slot]? = some (.int 0) ∧ Arr .byte s.heap.size V u ∧ V.vm = .none ∧ u.vm.findClass "[B" = some V.cls ∧ V.slots.size = len ∧ (∀ j, j < len → V.slots[j]? = some (.int (lo8 (cv A (o + j))))) ∧ (∀ (y : Addr) (c : Cell), y ≠ a → s.heap[y]? = some c → u.heap[y]? = some c) ∧ u.heap.size = s.heap.size + 1
theorem Got.mv {a : Addr} {D A : Cell} {fV fC : Field} {o len : Nat} : ∀ r (U U' V V' : State), U'.heap = U.heap → V.vm.Alike V'.vm → V'.heap = V.heap → Got a D fV fC A o len r U V → Got a D fV fC A o len r U' V' :=
  fun r U U' V V' h1 hal h2 ⟨e0, D', X, a1, a2, a3, a4, a5, a6, a7, a8, a9, a10, a11⟩ => ⟨e0, D', X, a1.mv hal h2, a2, by rw [h1]; exact a3, a4, by rw [h1]; exact a5.mv hal h2, a6, by rw [hal.findClass]; exact a7, a8, a9, by rw [h1, h2]; exact a10, by rw [h1, h2]; exact a11⟩
namespace New4
def yN : MethodName := ⟨"java/lang/String", "<init>", "([CIILjava/lang/Void;)V"⟩
abbrev yB : ByteArray := jdk_42_method_149_code
theorem d0 : decode yB 0 = .ok (.aload_n 0, 1) := by decide +kernel
theorem d1 : decode yB 1 = .ok (.invokespecial 1, 3) := by decide +kernel
theorem d4 : decode yB 4 = .ok (.iload_n 3, 1) := by decide +kernel
theorem d5 : decode yB 5 = .ok (.ifCond (.ne) 22, 3) := by decide +kernel
theorem d27 : decode yB 27 = .ok (.getstatic 38, 3) := by decide +kernel
theorem d30 : decode yB 30 = .ok (.ifCond (.eq) 28, 3) := by decide +kernel
theorem d33 : decode yB 33 = .ok (.aload_n 1, 1) := by decide +kernel
theorem d34 : decode yB 34 = .ok (.iload_n 2, 1) := by decide +kernel
theorem d35 : decode yB 35 = .ok (.iload_n 3, 1) := by decide +kernel
theorem d36 : decode yB 36 = .ok (.invokestatic 177, 3) := by decide +kernel
theorem d39 : decode yB 39 = .ok (.astore 5, 2) := by decide +kernel
theorem d41 : decode yB 41 = .ok (.aload_n 0, 1) := by decide +kernel
theorem d42 : decode yB 42 = .ok (.aload 5, 2) := by decide +kernel
theorem d44 : decode yB 44 = .ok (.iload_n 3, 1) := by decide +kernel
theorem d45 : decode yB 45 = .ok (.invokestatic 47, 3) := by decide +kernel
theorem d48 : decode yB 48 = .ok (.putfield 15, 3) := by decide +kernel
theorem d51 : decode yB 51 = .ok (.aload_n 0, 1) := by decide +kernel
theorem d52 : decode yB 52 = .ok (.aload 5, 2) := by decide +kernel
theorem d54 : decode yB 54 = .ok (.putfield 9, 3) := by decide +kernel
theorem d57 : decode yB 57 = .ok (.return_, 1) := by decide +kernel
def site : List Cond := [.fieldLink "java/lang/String" 38 "java/lang/String" "COMPACT_STRINGS" "Z", Cmp3.tab, CodL.tab, .laysFinal "java/lang/String" "java/lang/String" "value" "[B", .fieldLink "java/lang/String" 9 "java/lang/String" "value" "[B", .laysFinal "java/lang/String" "java/lang/String" "coder" "B", .fieldLink "java/lang/String" 15 "java/lang/String" "coder" "B"] ++ objW "java/lang/String" 1 ++ staticW "java/lang/String" 177 Cmp3.yN ++ staticW "java/lang/String" 47 CodL.yN
def tab : Cond := tabOf yN yB 6 none site
def P (a : Addr) (D : Cell) (fV fC : Field) (b : Addr) (A : Cell) (z : Int32) (o len : Nat) (args : Array Value) (s : State) : Prop := args = #[.ref a, .ref b, .int (Int32.ofNat o), .int (Int32.ofNat len), .null] ∧ Blank "java/lang/String" a D s ∧ Found "java/lang/String" "value" "[B" fV s ∧ Found "java/lang/String" "coder" "B" fC s ∧ Ch b A s ∧ StaticIs s "java/lang/String" "COMPACT_STRINGS" "Z" (.int z) ∧ ¬ z = 0 ∧ 0 < len ∧ o + len ≤ A.slots.size ∧ len ≤ 536870912 ∧ ∀ i, i < len → ¬ 255 < cv A (o + i)
def E (a : Addr) (D : Cell) (fV fC : Field) (A : Cell) (o len : Nat) (r : Option Value) (s u : State) : Prop := Got a D fV fC A o len r s u
/-- len > 0, no char of the range above 255: a Latin-1 String of their low bytes -/
theorem law (l : Launch) (a : Addr) (D : Cell) (fV fC : Field) (b : Addr) (A : Cell) (z : Int32) (o len : Nat) : Law l yN 5 4 2 35 yB 6 none site (P a D fV fC b A z o len) (E a D fV fC A o len) [⟨a, fC.slot⟩, ⟨a, fV.slot⟩] 1 len := by
  refine Law.of_walk (plainFor_of_name (by decide +kernel)) (by decide +kernel) (by decide +kernel) (by decide) (fun _ _ h => by rw [h.1]; rfl) (fun _ U U' hal hh h => ⟨h.1, h.2.1.mv hal hh, h.2.2.1.al hal, h.2.2.2.1.al hal, h.2.2.2.2.1.mv hal hh, h.2.2.2.2.2.1.there hal hh, h.2.2.2.2.2.2⟩) (fun r U U' V V' h1 hal h2 h => Got.mv r U U' V V' h1 hal h2 h) ?_
  intro p e s m args below meth c s₁ X0 hexec hbytes hml hret hlk hnm hown hh0 W hP
  obtain ⟨rfl, hB, f1, f2, hA, s1, hz, l0, l1, l2, hp⟩ := hP
  have a31 := hA.1.2.2.2
  have c1 : Steps p.tables e below (s₁.setTop (entryFrame m #[.ref a, .ref b, .int (Int32.ofNat o), .int (Int32.ofNat len), .null] 6)) (s₁.setTop (mkF m 0 #[.val (.ref a), .val (.ref b), .val (.int (Int32.ofNat o)), .val (.int (Int32.ofNat len)), .val .null, .unset] [])) := entry rfl
  have c2 : Steps p.tables e below (s₁.setTop (entryFrame m #[.ref a, .ref b, .int (Int32.ofNat o), .int (Int32.ofNat len), .null] 6)) (s₁.setTop (mkF m 1 #[.val (.ref a), .val (.ref b), .val (.int (Int32.ofNat o)), .val (.int (Int32.ofNat len)), .val .null, .unset] [.ref a])) := c1.trans (by
    refine XS.aloadN X0.here hexec rfl (hb hbytes d0) rfl rfl ?_
    exact Steps.refl _)
  obtain ⟨T3, X3, q3, st3⟩ := X0.oinit hexec hown (wks W (objW "java/lang/String" 1)) (g := (mkF m 1 #[.val (.ref a), .val (.ref b), .val (.int (Int32.ofNat o)), .val (.int (Int32.ofNat len)), .val .null, .unset] [.ref a])) rfl (by rw [hml]; rfl) (rest := []) rfl (hb hbytes d1) (W := 0) (by show 2 * 0 + 0 ≤ _; decide) (Nat.le_of_ble_eq_true rfl) (Nat.le_of_ble_eq_true rfl)
  have hh3 := q3.trans hh0
  have c4 : Steps p.tables e below (s₁.setTop (entryFrame m #[.ref a, .ref b, .int (Int32.ofNat o), .int (Int32.ofNat len), .null] 6)) (T3.setTop (mkF m 27 #[.val (.ref a), .val (.ref b), .val (.int (Int32.ofNat o)), .val (.int (Int32.ofNat len)), .val .null, .unset] [])) := (c2.trans (st3 _ (Steps.refl _))).trans (by
    refine XS.iloadN X3.here hexec rfl (hb hbytes d4) rfl ?_
    refine XS.ifYes X3.here hexec rfl (pc0 := 5) rfl (hb hbytes d5) rfl (i0_ne_t (nz32 (by omega) l0)) (by decide) rfl ?_
    exact Steps.refl _)
  obtain ⟨T5, X5, q5, st5⟩ := X3.sget hexec hown (wk W (.fieldLink "java/lang/String" 38 "java/lang/String" "COMPACT_STRINGS" "Z")) s1 (fun _ _ h => by rw [hh3]; exact h) (g := (mkF m 27 #[.val (.ref a), .val (.ref b), .val (.int (Int32.ofNat o)), .val (.int (Int32.ofNat len)), .val .null, .unset] [])) rfl (hb hbytes d27)
  have hh5 := q5.trans hh3
  have c6 : Steps p.tables e below (s₁.setTop (entryFrame m #[.ref a, .ref b, .int (Int32.ofNat o), .int (Int32.ofNat len), .null] 6)) (T5.setTop (mkF m 30 #[.val (.ref a), .val (.ref b), .val (.int (Int32.ofNat o)), .val (.int (Int32.ofNat len)), .val .null, .unset] [.int z])) := c4.trans (st5 _ (Steps.refl _))
  have c7 : Steps p.tables e below (s₁.setTop (entryFrame m #[.ref a, .ref b, .int (Int32.ofNat o), .int (Int32.ofNat len), .null] 6)) (T5.setTop (mkF m 36 #[.val (.ref a), .val (.ref b), .val (.int (Int32.ofNat o)), .val (.int (Int32.ofNat len)), .val .null, .unset] [.int (Int32.ofNat len), .int (Int32.ofNat o), .ref b])) := c6.trans (by
    refine XS.ifNo X5.here hexec rfl (hb hbytes d30) rfl (i0_eq_f hz) ?_
    refine XS.aloadN X5.here hexec rfl (hb hbytes d33) rfl rfl ?_
    refine XS.iloadN X5.here hexec rfl (hb hbytes d34) rfl ?_
    refine XS.iloadN X5.here hexec rfl (hb hbytes d35) rfl ?_
    exact Steps.refl _)
  obtain ⟨v8, T8, X8, E8, g8⟩ := X5.callS hexec (Cmp3.law l b A o len) hown (wks W (staticW "java/lang/String" 177 Cmp3.yN)) (wk W Cmp3.tab) (W := 0) (Nat.le_of_ble_eq_true rfl) (Nat.le_of_ble_eq_true rfl) (Nat.le_refl _) (by show 0 + len ≤ len; omega) (g := (mkF m 36 #[.val (.ref a), .val (.ref b), .val (.int (Int32.ofNat o)), .val (.int (Int32.ofNat len)), .val .null, .unset] [.int (Int32.ofNat len), .int (Int32.ofNat o), .ref b])) rfl (by rw [hml]; rfl) c7 (argsL := [.ref b, .int (Int32.ofNat o), .int (Int32.ofNat len)]) (rest := []) rfl rfl (by show 2 * 0 + 0 ≤ _; decide) (hb hbytes d36) (⟨rfl, hA.mv X5.warmed.alike hh5, l1, l2, hp⟩)
  obtain ⟨e8, z8⟩ := E8
  obtain ⟨rfl, N, n1, n2, n3, n4, n5, n6⟩ := NewArr.mv _ T5 s _ _ hh5.symm (Vm.Alike.refl _) rfl e8
  rw [hh5] at z8
  have hB1 := hB.keep X8.warmed.alike (n6 _ _ hB.1)
  have hne : s.heap.size ≠ a := (Nat.ne_of_lt (Array.getElem?_eq_some_iff.mp hB.1).1).symm
  have c9 : Steps p.tables e below (s₁.setTop (entryFrame m #[.ref a, .ref b, .int (Int32.ofNat o), .int (Int32.ofNat len), .null] 6)) (T8.setTop (mkF m 39 #[.val (.ref a), .val (.ref b), .val (.int (Int32.ofNat o)), .val (.int (Int32.ofNat len)), .val .null, .unset] [.ref s.heap.size])) := g8
  have c10 : Steps p.tables e below (s₁.setTop (entryFrame m #[.ref a, .ref b, .int (Int32.ofNat o), .int (Int32.ofNat len), .null] 6)) (T8.setTop (mkF m 45 #[.val (.ref a), .val (.ref b), .val (.int (Int32.ofNat o)), .val (.int (Int32.ofNat len)), .val .null, .val (.ref s.heap.size)] [.int (Int32.ofNat N.slots.size), .ref s.heap.size, .ref a])) := by
    have hc : Steps p.tables e below (s₁.setTop (entryFrame m #[.ref a, .ref b, .int (Int32.ofNat o), .int (Int32.ofNat len), .null] 6)) (T8.setTop (mkF m 45 #[.val (.ref a), .val (.ref b), .val (.int (Int32.ofNat o)), .val (.int (Int32.ofNat len)), .val .null, .val (.ref s.heap.size)] [.int (Int32.ofNat len), .ref s.heap.size, .ref a])) := c9.trans (by
      refine XS.astore X8.here hexec rfl (hb hbytes d39) rfl rfl rfl ?_
      refine XS.aloadN X8.here hexec rfl (hb hbytes d41) rfl rfl ?_
      refine XS.aload X8.here hexec rfl (hb hbytes d42) rfl rfl ?_
      refine XS.iloadN X8.here hexec rfl (hb hbytes d44) rfl ?_
      exact Steps.refl _)
    rw [n4]; exact hc
  obtain ⟨v11, T11, X11, E11, g11⟩ := X8.callS hexec (CodL.law l s.heap.size N) hown (wks W (staticW "java/lang/String" 47 CodL.yN)) (wk W CodL.tab) (W := 1) (Nat.le_of_ble_eq_true rfl) (Nat.le_of_ble_eq_true rfl) (Nat.le_refl _) (by show 0 + len + 0 ≤ len; omega) (g := (mkF m 45 #[.val (.ref a), .val (.ref b), .val (.int (Int32.ofNat o)), .val (.int (Int32.ofNat len)), .val .null, .val (.ref s.heap.size)] [.int (Int32.ofNat N.slots.size), .ref s.heap.size, .ref a])) rfl (by rw [hml]; rfl) c10 (argsL := [.ref s.heap.size, .int (Int32.ofNat N.slots.size)]) (rest := [.ref a]) rfl rfl (by show 2 * 0 + (1 + 0) ≤ _; decide) (hb hbytes d45) (⟨rfl, n1⟩)
  obtain ⟨rfl, q11⟩ := E11
  have hB11 := hB1.mv (X8.warmed.alike.symm.trans X11.warmed.alike) q11
  have c12 : Steps p.tables e below (s₁.setTop (entryFrame m #[.ref a, .ref b, .int (Int32.ofNat o), .int (Int32.ofNat len), .null] 6)) (T11.setTop (mkF m 48 #[.val (.ref a), .val (.ref b), .val (.int (Int32.ofNat o)), .val (.int (Int32.ofNat len)), .val .null, .val (.ref s.heap.size)] [.int 0, .ref a])) := g11
  obtain ⟨T13, X13, p13, bl13, sl13, st13⟩ := X11.finit hexec hown (wk W (.fieldLink "java/lang/String" 15 "java/lang/String" "coder" "B")) (Or.inr ⟨_, (wk W (.laysFinal "java/lang/String" "java/lang/String" "coder" "B"))⟩) (Or.inl ⟨rfl, hnm⟩) f2 (Or.inl rfl) hB11 (t := .byte) (by decide +kernel) rfl (g := (mkF m 48 #[.val (.ref a), .val (.ref b), .val (.int (Int32.ofNat o)), .val (.int (Int32.ofNat len)), .val .null, .val (.ref s.heap.size)] [.int 0, .ref a])) rfl (rest := []) rfl (hb hbytes d48)
  have c14 : Steps p.tables e below (s₁.setTop (entryFrame m #[.ref a, .ref b, .int (Int32.ofNat o), .int (Int32.ofNat len), .null] 6)) (T13.setTop (mkF m 54 #[.val (.ref a), .val (.ref b), .val (.int (Int32.ofNat o)), .val (.int (Int32.ofNat len)), .val .null, .val (.ref s.heap.size)] [.ref s.heap.size, .ref a])) := (c12.trans (st13 _ (Steps.refl _))).trans (by
    refine XS.aloadN X13.here hexec rfl (hb hbytes d51) rfl rfl ?_
    refine XS.aload X13.here hexec rfl (hb hbytes d52) rfl rfl ?_
    exact Steps.refl _)
  obtain ⟨T15, X15, p15, bl15, sl15, st15⟩ := X13.finit hexec hown (wk W (.fieldLink "java/lang/String" 9 "java/lang/String" "value" "[B")) (Or.inr ⟨_, (wk W (.laysFinal "java/lang/String" "java/lang/String" "value" "[B"))⟩) (Or.inl ⟨rfl, hnm⟩) f1 (Or.inl rfl) bl13 (t := (.array .byte)) (by decide +kernel) rfl (g := (mkF m 54 #[.val (.ref a), .val (.ref b), .val (.int (Int32.ofNat o)), .val (.int (Int32.ofNat len)), .val .null, .val (.ref s.heap.size)] [.ref s.heap.size, .ref a])) rfl (rest := []) rfl (hb hbytes d54)
  have c16 : Steps p.tables e below (s₁.setTop (entryFrame m #[.ref a, .ref b, .int (Int32.ofNat o), .int (Int32.ofNat len), .null] 6)) (T15.setTop (mkF m 57 #[.val (.ref a), .val (.ref b), .val (.int (Int32.ofNat o)), .val (.int (Int32.ofNat len)), .val .null, .val (.ref s.heap.size)] [])) := c14.trans (st15 _ (Steps.refl _))
  have ap := apart (Or.inr ⟨_, (wk W (.laysFinal "java/lang/String" "java/lang/String" "value" "[B"))⟩) (Or.inr ⟨_, (wk W (.laysFinal "java/lang/String" "java/lang/String" "coder" "B"))⟩) f1 f2 (t₁ := .array .byte) (t₂ := .byte) (by decide +kernel) (by decide +kernel) (by decide)
  have al := X8.warmed.alike.symm.trans X15.warmed.alike
  have n7 : T11.heap[s.heap.size]? = some N := by rw [q11]; exact n1.1
  exact ⟨T15, none, _, _, _, X15, by simp, rfl, by omega, (fun _ => rfl), ⟨rfl, _, N, bl15, ((Same.refl D _).set _ (by simp)).set _ (by simp), sl15, (Cell.slots_setSlot_ne _ ap).trans sl13, n1.keep al (p15.other hne (p13.other hne n7)), n2, by rw [al.findClass]; exact n3, n4, n5, fun y c h1 h2 => p15.other h1 (p13.other h1 (by rw [q11]; exact n6 y c h2)), by rw [p15.2.2, p13.2.2, q11]; exact z8⟩, fun fs hl => c16.trans (X15.returnOut hexec hret (hb hbytes d57) hl)⟩
end New4
namespace New1
def yN : MethodName := ⟨"java/lang/String", "<init>", "([C)V"⟩
abbrev yB : ByteArray := jdk_42_method_3_code
theorem d0 : decode yB 0 = .ok (.aload_n 0, 1) := by decide +kernel
theorem d1 : decode yB 1 = .ok (.aload_n 1, 1) := by decide +kernel
theorem d2 : decode yB 2 = .ok (.iconst 0, 1) := by decide +kernel
theorem d3 : decode yB 3 = .ok (.aload_n 1, 1) := by decide +kernel
theorem d4 : decode yB 4 = .ok (.arraylength, 1) := by decide +kernel
theorem d5 : decode yB 5 = .ok (.aconst_null, 1) := by decide +kernel
theorem d6 : decode yB 6 = .ok (.invokespecial 27, 3) := by decide +kernel
theorem d9 : decode yB 9 = .ok (.return_, 1) := by decide +kernel
def site : List Cond := [New4.tab] ++ initW "java/lang/String" 27 New4.yN
def tab : Cond := tabOf yN yB 2 none site
def P (a : Addr) (D : Cell) (fV fC : Field) (b : Addr) (A : Cell) (z : Int32) (args : Array Value) (s : State) : Prop := args = #[.ref a, .ref b] ∧ Blank "java/lang/String" a D s ∧ Found "java/lang/String" "value" "[B" fV s ∧ Found "java/lang/String" "coder" "B" fC s ∧ Ch b A s ∧ StaticIs s "java/lang/String" "COMPACT_STRINGS" "Z" (.int z) ∧ ¬ z = 0 ∧ 0 < A.slots.size ∧ A.slots.size ≤ 536870912 ∧ ∀ i, i < A.slots.size → ¬ 255 < cv A i
def E (a : Addr) (D : Cell) (fV fC : Field) (A : Cell) (r : Option Value) (s u : State) : Prop := Got a D fV fC A 0 A.slots.size r s u
/-- new String(chars), not empty, no char above 255: a Latin-1 String of their low bytes -/
theorem law (l : Launch) (a : Addr) (D : Cell) (fV fC : Field) (b : Addr) (A : Cell) (z : Int32) : Law l yN 2 1 3 52 yB 2 none site (P a D fV fC b A z) (E a D fV fC A) [⟨a, fC.slot⟩, ⟨a, fV.slot⟩] 1 A.slots.size := by
  refine Law.of_walk (plainFor_of_name (by decide +kernel)) (by decide +kernel) (by decide +kernel) (by decide) (fun _ _ h => by rw [h.1]; rfl) (fun _ U U' hal hh h => ⟨h.1, h.2.1.mv hal hh, h.2.2.1.al hal, h.2.2.2.1.al hal, h.2.2.2.2.1.mv hal hh, h.2.2.2.2.2.1.there hal hh, h.2.2.2.2.2.2⟩) (fun r U U' V V' h1 hal h2 h => Got.mv r U U' V V' h1 hal h2 h) ?_
  intro p e s m args below meth c s₁ X0 hexec hbytes hml hret hlk hnm hown hh0 W hP
  obtain ⟨rfl, hB, f1, f2, hA, s1, hz, l0, l2, hp⟩ := hP
  have c1 : Steps p.tables e below (s₁.setTop (entryFrame m #[.ref a, .ref b] 2)) (s₁.setTop (mkF m 0 #[.val (.ref a), .val (.ref b)] [])) := entry rfl
  have c2 : Steps p.tables e below (s₁.setTop (entryFrame m #[.ref a, .ref b] 2)) (s₁.setTop (mkF m 6 #[.val (.ref a), .val (.ref b)] [.null, .int (Int32.ofNat A.slots.size), .int 0, .ref b, .ref a])) := c1.trans (by
    refine XS.aloadN X0.here hexec rfl (hb hbytes d0) rfl rfl ?_
    refine XS.aloadN X0.here hexec rfl (hb hbytes d1) rfl rfl ?_
    refine iconstV X0.here hexec rfl 0 (hb hbytes d2) (by decide) ?_
    refine XS.aloadN X0.here hexec rfl (hb hbytes d3) rfl rfl ?_
    refine X0.alen hexec (hA.1.mv X0.warmed.alike hh0) rfl rfl (hb hbytes d4) ?_
    refine XS.aconstNull X0.here hexec rfl (hb hbytes d5) ?_
    exact Steps.refl _)
  obtain ⟨v3, T3, X3, E3, g3⟩ := X0.callN hexec (New4.law l a D fV fC b A z 0 A.slots.size) rfl hown (wks W (initW "java/lang/String" 27 New4.yN)) (W New4.tab (by simp only [site, List.mem_cons, List.mem_append, true_or, or_true])) (W := 0) (Nat.le_of_ble_eq_true rfl) (Nat.le_of_ble_eq_true rfl) (Nat.le_refl _) (by show 0 + A.slots.size ≤ A.slots.size; omega) (g := (mkF m 6 #[.val (.ref a), .val (.ref b)] [.null, .int (Int32.ofNat A.slots.size), .int (Int32.ofNat 0), .ref b, .ref a])) rfl (by rw [hml]; rfl) c2 (argsL := [.ref b, .int (Int32.ofNat 0), .int (Int32.ofNat A.slots.size), .null]) (rest := []) rfl rfl (by show 2 * 0 + 0 ≤ _; decide) (hb hbytes d6) (⟨rfl, hB.mv X0.warmed.alike hh0, f1.al X0.warmed.alike, f2.al X0.warmed.alike, hA.mv X0.warmed.alike hh0, s1.there X0.warmed.alike hh0, hz, l0, by omega, l2, fun i hi => by rw [Nat.zero_add]; exact hp i hi⟩)
  have e0 := Got.mv _ s₁ s _ _ hh0.symm (Vm.Alike.refl _) rfl E3
  obtain rfl := e0.1
  have c4 : Steps p.tables e below (s₁.setTop (entryFrame m #[.ref a, .ref b] 2)) (T3.setTop (mkF m 9 #[.val (.ref a), .val (.ref b)] [])) := g3
  exact ⟨T3, none, _, _, _, X3, by simp, rfl, by omega, (fun _ => rfl), e0, fun fs hl => c4.trans (X3.returnOut hexec hret (hb hbytes d9) hl)⟩
theorem pays {l : Launch} {R : Room} {p : Program} {e : Env} {below : List Frame} {s : State} {sargs : Array Value} {len W : Nat} (a : Addr) (D : Cell) (fV fC : Field) (b : Addr) (A : Cell) (z : Int32) (htab : tab.before sargs s = true) (hfr : 4 ≤ R.frames) (hlo : W + 65 ≤ R.locals) :
    Back l R p e below s sargs yN len W (fun A₁ a₁ => A₁.cells + 1 ≤ R.cells ∧ A₁.slots + A.slots.size ≤ R.slots ∧ P a D fV fC b A z a₁ A₁.U) (fun A₁ _ v₁ B₁ => E a D fV fC A v₁ A₁.U B₁.U ∧ B₁.locs = A₁.locs ++ [⟨a, fC.slot⟩, ⟨a, fV.slot⟩] ∧ B₁.cells = A₁.cells + 1 ∧ B₁.slots = A₁.slots + A.slots.size) :=
  (law l a D fV fC b A z).pays htab hfr (by omega)
end New1
end StrChars
namespace StrChars.Road
open Jvm Sem ClassFile Op Lib Jvm.Stand Jvm.Free Jvm.Free.XT
open Jvm.Lib.Cold (StaticIs)
abbrev ST : String := "java/lang/String"
/-- every table word that New1's law asks, flat -/
abbrev words : List Jvm.Cond := [.code New1.yN New1.yB 2 none, .initialized ST, .methodLink ST 27 New4.yN, .instanceMethod New4.yN,
  .code New4.yN New4.yB 6 none, .fieldLink ST 38 ST "COMPACT_STRINGS" "Z", .laysFinal ST ST "value" "[B", .fieldLink ST 9 ST "value" "[B", .laysFinal ST ST "coder" "B", .fieldLink ST 15 ST "coder" "B",
  .methodLink ST 1 Lib.objectInit, .instanceMethod Lib.objectInit, .code Lib.objectInit ⟨#[0xb1]⟩ 1 none, .methodLink ST 177 Cmp3.yN, .static Cmp3.yN, .methodLink ST 47 CodL.yN, .static CodL.yN,
  .code Cmp3.yN Cmp3.yB 6 (some (.array .byte)), .initialized U16, .arrayClass .byte, .methodLink U16 115 Cmp5.yN, .static Cmp5.yN, .code Cmp5.yN Cmp5.yB 7 (some .int), .code CodL.yN CodL.yB 2 (some .byte)]
theorem tab_of {a : Array Value} {s : State} (h : ∀ w ∈ words, w.before a s = true) : New1.tab.before a s = true := by
  have h5 : Cmp5.tab.before a s = true := unparts (wk h (.code Cmp5.yN Cmp5.yB 7 (some .int))) (wks h (.initialized Cmp5.yN.cls :: Cmp5.site))
  have hc : CodL.tab.before a s = true := unparts (wk h (.code CodL.yN CodL.yB 2 (some .byte))) (wks h (.initialized CodL.yN.cls :: CodL.site))
  have q5 : ∀ w ∈ Cmp5.tab :: words, w.before a s = true := fun w hw => (List.mem_cons.mp hw).elim (fun e => e ▸ h5) (h w)
  have h3 : Cmp3.tab.before a s = true := unparts (wk q5 (.code Cmp3.yN Cmp3.yB 6 (some (.array .byte)))) (wks q5 (.initialized Cmp3.yN.cls :: Cmp3.site))
  have q3 : ∀ w ∈ Cmp3.tab :: CodL.tab :: words, w.before a s = true := fun w hw => (List.mem_cons.mp hw).elim (fun e => e ▸ h3) fun hw => (List.mem_cons.mp hw).elim (fun e => e ▸ hc) (h w)
  have h4 : New4.tab.before a s = true := unparts (wk q3 (.code New4.yN New4.yB 6 none)) (wks q3 (.initialized New4.yN.cls :: New4.site))
  have q4 : ∀ w ∈ New4.tab :: words, w.before a s = true := fun w hw => (List.mem_cons.mp hw).elim (fun e => e ▸ h4) (h w)
  exact unparts (wk q4 (.code New1.yN New1.yB 2 none)) (wks q4 (.initialized New1.yN.cls :: New1.site))
/-- the words ride from the start Z to the walk's own state -/
theorem moved {Z s : State} {a0 args : Array Value} (hZ : Z.Warmed39 s.vm) (hw : ∀ d ∈ words, d.before a0 Z = true) : ∀ d ∈ words, d.before args s = true := fun d hd => by
  have q := hw d hd
  have t : ∀ d ∈ words, d = .arrayClass .byte ∨ (d.onTables && d.keepsFace) = true := by decide +kernel
  rcases t d hd with rfl | t
  · exact RoadKit.mvA hZ q
  · exact RoadKit.mv hZ q t
/-- WHAT COMES BACK, over the tables of the start Z: h the heap at the call, h' behind it -/
def Q (Z : State) (x : Addr) (A : Cell) (h : Heap) (v : Option Value) (h' : Heap) (L : List Loc) : Prop := v = none ∧ (∀ y ∈ L, y.base = x) ∧ RoadKit.Keep h h' [x] ∧ h'.size = h.size + 1 ∧ RoadKit.Exa Z h' x ST ∧ RoadKit.Fld Z h' x ST "value" "[B" (.ref h.size) ∧ RoadKit.Fld Z h' x ST "coder" "B" (.int 0) ∧
  (∃ V : Cell, RoadKit.Arr Z h' h.size V .byte ∧ V.vm = .none ∧ Z.vm.findClass "[B" = some V.cls ∧ V.slots.size = A.slots.size ∧ ∀ j, j < A.slots.size → V.slots[j]? = some (.int (lo8 (cv A j)))) ∧
  ∀ (O n d : String) (w : Value), RoadKit.Fld Z h x O n d w → RoadKit.slotOf Z O n d ≠ RoadKit.slotOf Z ST "value" "[B" → RoadKit.slotOf Z O n d ≠ RoadKit.slotOf Z ST "coder" "B" → RoadKit.Fld Z h' x O n d w
/-- **new String(chars) AT A CALL, IN THE ROAD'S FORM**: for specialBack behind newO: x the fresh String, b the char[] with the cell A -/
theorem back {p : Program} {l : Launch} {e : Env} {R : Room} {s : State} {args : Array Value} {below : List Frame} {len W : Nat} {Z : State} {a0 : Array Value} {h : Heap} (hZ : Z.Warmed39 s.vm) (hw : ∀ d ∈ words, d.before a0 Z = true) {kI : Nat} (wi : (Jvm.Cond.instantiable ST kI).before a0 Z = true)
    {x b : Addr} {A : Cell} {z : Int32} {v0 c0 : Value} (E : RoadKit.Exa Z h x ST) (V : RoadKit.Fld Z h x ST "value" "[B" v0) (C : RoadKit.Fld Z h x ST "coder" "B" c0) (K : RoadKit.Arr Z h b A .char) (hty : Typed .char A) (S : RoadKit.Sta Z h ST "COMPACT_STRINGS" "Z" (.int z)) (hz : ¬ z = 0)
    (l0 : 0 < A.slots.size) (l2 : A.slots.size ≤ 536870912) (hp : ∀ i, i < A.slots.size → ¬ 255 < cv A i) (hfr : 4 ≤ R.frames) (hlo : W + 65 ≤ R.locals) :
    Back l R p e below s args New1.yN len W (fun P a => a = #[.ref x, .ref b] ∧ P.U.heap = h ∧ P.cells + 1 ≤ R.cells ∧ P.slots + A.slots.size ≤ R.slots)
      (fun P _ v B => ∃ L, Q Z x A h v B.U.heap L ∧ B.locs = P.locs ++ L ∧ B.cells = P.cells + 1 ∧ B.slots = P.slots + A.slots.size) := by
  intro m meth c P g ig mk a X hg hsize hdg hW hn hp'
  obtain ⟨rfl, rfl, r1, r2⟩ := hp'
  have al : Z.vm.Alike P.U.vm := hZ.alike.trans X.warmed.alike
  obtain ⟨D, cfV, kV, iV, fV, hD, gV, stV, knV, obV, asV, slV⟩ := id V
  obtain ⟨D', cfC, kC, iC, fC, hD', gC, stC, -, -, asC, slC⟩ := id C
  cases hD.symm.trans hD'
  obtain ⟨D2, kD, e1, e2, e3, e4, e5⟩ := id E
  cases hD.symm.trans e1
  obtain ⟨c2, k2, i1, i2, i3, -⟩ := Cond.instantiable_spec wi
  cases e2.symm.trans i1
  cases e3.symm.trans i2
  obtain ⟨kU, u1, u2⟩ := al.2.2 _ _ e3
  have hB : Blank ST x D P.U := ⟨hD, ⟨knV, fun q hq => by rw [hq] at obV; cases obV⟩, by rw [al.findClass]; exact e2, kU, u1, by rw [u2]; exact i3, by rw [u2]; exact e5 i3⟩
  have F1 : Found ST "value" "[B" fV P.U := ⟨SBG.found_only al ⟨cfV, kV, iV, gV⟩, stV⟩
  have F2 : Found ST "coder" "B" fC P.U := ⟨SBG.found_only al ⟨cfC, kC, iC, gC⟩, stC⟩
  have hA : Ch b A P.U := ⟨⟨K.1, State.isArrayOf_alike al K.2.1, K.2.2, by omega⟩, hty⟩
  have hS : StaticIs P.U ST "COMPACT_STRINGS" "Z" (.int z) := by
    obtain ⟨cfS, iS, kS, fS, st, cS, t1, t2, t3, t4, t5, t6, t7⟩ := S
    exact StaticIs.there (s := { Z with heap := P.U.heap }) ⟨cfS, iS, kS, fS, st, cS, t1, t2, t3, t4, t5, (fun q => by rw [q] at t6; cases t6), t7⟩ al rfl
  obtain ⟨v, B, X', ⟨⟨hv, E', V', q1, q2, q3, q4, q5, q6, q7, q8, q9, q10, q11⟩, hl, hc, hs⟩, st⟩ := New1.pays x D fV fC b A z (tab_of (moved hZ hw)) hfr hlo m meth c P g ig mk _ X hg hsize hdg hW hn ⟨r1, r2, rfl, hB, F1, F2, hA, hS, hz, l0, l2, hp⟩
  have al' : Z.vm.Alike B.U.vm := hZ.alike.trans X'.warmed.alike
  have hsz : E'.slots.size = D.slots.size := by
    obtain ⟨-, -, -, kB, w1, w2, w3⟩ := q1
    obtain ⟨kB', y1, y2⟩ := al'.2.2 _ _ e3
    rw [q2.2.1] at w1
    cases w1.symm.trans y1
    rw [w3, e5 i3, y2]
  refine ⟨v, B, X', ⟨_, ⟨hv, ?_, ⟨by omega, fun y cy hy hn' => q10 y cy (by simpa using hn') hy, fun y cy hy => ?_⟩, q11, ⟨E', _, q1.1, by rw [q2.2.1]; exact e2, by rw [q2.2.1]; exact e3, by rw [q2.1]; exact obV, fun _ => by rw [hsz]; exact e5 i3⟩,
    ⟨E', cfV, kV, iV, fV, q1.1, gV, stV, by rw [q2.1]; exact knV, by rw [q2.1]; exact obV, by rw [q2.2.1]; exact asV, q3⟩, ⟨E', cfC, kC, iC, fC, q1.1, gC, stC, by rw [q2.1]; exact knV, by rw [q2.1]; exact obV, by rw [q2.2.1]; exact asC, q4⟩,
    ⟨V', ⟨q5.1, State.isArrayOf_alike al'.symm q5.2.1, q5.2.2.1⟩, q6, by rw [← al'.findClass]; exact q7, q8, fun j hj => by have := q9 j hj; rwa [Nat.zero_add] at this⟩, fun O n d w F n1 n2 => ?_⟩, hl, hc, hs⟩, st⟩
  · intro y hy
    simp only [List.mem_cons, List.not_mem_nil, or_false] at hy
    rcases hy with rfl | rfl <;> rfl
  · by_cases q : y = x
    · subst q
      cases hD.symm.trans hy
      exact ⟨E', q1.1, q2.2.1, q2.1, hsz⟩
    · exact ⟨cy, q10 y cy q hy, rfl, rfl, rfl⟩
  · obtain ⟨D3, cf, k, i, f, g1, g2, g3, g4, g5, g6, g7⟩ := F
    cases hD.symm.trans g1
    simp only [RoadKit.slotOf, g2, gV, gC, Option.map_some, Option.getD_some] at n1 n2
    exact ⟨E', cf, k, i, f, q1.1, g2, g3, by rw [q2.1]; exact g4, by rw [q2.1]; exact g5, by rw [q2.2.1]; exact g6, by rw [q2.2.2 f.slot (by simp [n1, n2])]; exact g7⟩
end StrChars.Road
namespace StrChars.Road
open Jvm Sem ClassFile Op Lib Jvm.Stand Jvm.Free Jvm.Free.XT
/-- WHAT COMES BACK, the byte[] as a list of values -/
def QA (Z : State) (x : Addr) (zn : Int32) (cs : List Int32) (h : Heap) (v : Option Value) (h' : Heap) (L : List Loc) : Prop := v = none ∧ (∀ y ∈ L, y.base = x) ∧ RoadKit.Keep h h' [x] ∧ h'.size = h.size + 1 ∧ RoadKit.Exa Z h' x ST ∧ RoadKit.Fld Z h' x ST "value" "[B" (.ref h.size) ∧ RoadKit.Fld Z h' x ST "coder" "B" (.int 0) ∧
  (∃ kb, Z.vm.findClass "[B" = some kb ∧ RoadKit.Arv Z h' h.size kb .byte zn (cs.map fun c => .int (lo8 c)) (.int 0)) ∧
  ∀ (O n d : String) (w : Value), RoadKit.Fld Z h x O n d w → RoadKit.slotOf Z O n d ≠ RoadKit.slotOf Z ST "value" "[B" → RoadKit.slotOf Z O n d ≠ RoadKit.slotOf Z ST "coder" "B" → RoadKit.Fld Z h' x O n d w
/-- **new String(chars) AT A CALL, THE ARRAYS AS LISTS**: the char[] at b holds cs, not empty, no char above 255 -/
theorem backArv {p : Program} {l : Launch} {e : Env} {R : Room} {s : State} {args : Array Value} {below : List Frame} {len W : Nat} {Z : State} {a0 : Array Value} {h : Heap} (hZ : Z.Warmed39 s.vm) (hw : ∀ d ∈ words, d.before a0 Z = true) {kI : Nat} (wi : (Jvm.Cond.instantiable ST kI).before a0 Z = true)
    {x b : Addr} {k : ClassId} {zn z : Int32} {cs : List Int32} {dv v0 c0 : Value} (E : RoadKit.Exa Z h x ST) (V : RoadKit.Fld Z h x ST "value" "[B" v0) (C : RoadKit.Fld Z h x ST "coder" "B" c0) (K : RoadKit.Arv Z h b k .char zn (cs.map Value.int) dv) (S : RoadKit.Sta Z h ST "COMPACT_STRINGS" "Z" (.int z)) (hz : ¬ z = 0)
    (hlen : zn.toNatClampNeg = cs.length) (h0 : 0 < cs.length) (hbig : cs.length ≤ 536870912) (hall : ∀ c ∈ cs, ¬ 255 < c) (hfr : 4 ≤ R.frames) (hlo : W + 65 ≤ R.locals) :
    Back l R p e below s args New1.yN len W (fun P a => a = #[.ref x, .ref b] ∧ P.U.heap = h ∧ P.cells + 1 ≤ R.cells ∧ P.slots + cs.length ≤ R.slots)
      (fun P _ v B => ∃ L, QA Z x zn cs h v B.U.heap L ∧ B.locs = P.locs ++ L ∧ B.cells = P.cells + 1 ∧ B.slots = P.slots + cs.length) := by
  obtain ⟨A, K1, K2, K3, K4, K5, K6⟩ := K
  have e : A.slots.size = cs.length := K3.trans hlen
  have hat : ∀ (i : Nat) (hi : i < cs.length), A.slots[i]? = some (.int cs[i]) := fun i hi => by rw [K5 i (by omega)]; simp [List.getD_eq_getElem?_getD, hi]
  have hcv : ∀ (i : Nat) (hi : i < cs.length), cv A i = cs[i] := fun i hi => by unfold cv; rw [hat i hi]
  have hty : Typed .char A := fun i v hv => by
    have hi : i < A.slots.size := (Array.getElem?_eq_some_iff.mp hv).1
    have q := K5 i hi
    rw [hv] at q
    rw [Option.some.inj q]
    exact K6 i hi
  refine Back.mono (back hZ hw wi E V C K1 hty S hz (by omega) (by omega) (fun i hi => by rw [hcv i (by omega)]; exact hall _ (List.getElem_mem _)) hfr hlo) (fun P a hp => ⟨hp.1, hp.2.1, hp.2.2.1, by rw [e]; exact hp.2.2.2⟩) (fun P a v B hp hq => ?_)
  obtain ⟨L, ⟨q1, q2, q3, q4, q5, q6, q7, ⟨V', v1, v2, v3, v4, v5⟩, q9⟩, hl, hc, hs⟩ := hq
  refine ⟨L, ⟨q1, q2, q3, q4, q5, q6, q7, ⟨V'.cls, v3, V', v1, rfl, by rw [v4, e, hlen], K4, fun i hi => ?_, fun i hi => ?_⟩, q9⟩, hl, hc, by rw [hs, e]⟩
  · have hi' : i < cs.length := by omega
    rw [v5 i (by omega), hcv i hi']; simp [List.getD_eq_getElem?_getD, hi']
  · have hi' : i < cs.length := by omega
    simp only [List.getD_eq_getElem?_getD, List.getElem?_map, List.getElem?_eq_getElem hi', Option.map_some, Option.getD_some]
    exact fits_lo8 _
end StrChars.Road
namespace StrChars.Road
open Jvm Sem ClassFile Op Lib Jvm.Stand Jvm.Free Jvm.Free.XT
/-- WHAT COMES BACK, in the writer's own shape -/
def QV (Z : State) (x : Addr) (N : Int32) (bs : List Int32) (h : Heap) (n0 : Nat) (v : Option Value) (h' : Heap) (L : List Loc) : Prop := v = none ∧ RoadKit.Fr n0 L ∧ RoadKit.Keep h h' [x] ∧ RoadKit.Exa Z h' x ST ∧ RoadKit.Fld Z h' x ST "coder" "B" (.int 0) ∧
  ∃ (t : Addr) (kb : ClassId), n0 ≤ t ∧ h.size ≤ t ∧ ¬ t = x ∧ RoadKit.Fld Z h' x ST "value" "[B" (.ref t) ∧ RoadKit.Arv Z h' t kb .byte N (bs.map Value.int) (.int 0)
/-- **new String(chars) AT A CALL, FOR THE WRITER**: a char[] of n known ints, each 0 to 255 -/
theorem backV {p : Program} {l : Launch} {e : Env} {R : Room} {s : State} {args : Array Value} {below : List Frame} {len W : Nat} {Z : State} {a0 : Array Value} {h : Heap} (hZ : Z.Warmed39 s.vm) (hw : ∀ d ∈ words, d.before a0 Z = true) {kI : Nat} (wi : (Jvm.Cond.instantiable ST kI).before a0 Z = true)
    {x b : Addr} {kC : ClassId} {cs bs : List Int32} {d v0 c0 : Value} {z N : Int32} {n n0 : Nat} (hx0 : n0 ≤ x) (hh0 : n0 ≤ h.size) (E : RoadKit.Exa Z h x ST) (V : RoadKit.Fld Z h x ST "value" "[B" v0) (C : RoadKit.Fld Z h x ST "coder" "B" c0) (K : RoadKit.Arv Z h b kC .char N (cs.map Value.int) d) (S : RoadKit.Sta Z h ST "COMPACT_STRINGS" "Z" (.int z)) (hz : ¬ z = 0)
    (hn : cs.length = n) (hN : N = Int32.ofNat n) (l0 : 0 < n) (l2 : n ≤ 4000) (hp : ∀ c ∈ cs, ¬ c < 0 ∧ ¬ (255 : Int32) < c) (hb : bs = cs.map (fun c => c.toInt8.toInt32)) (hfr : 4 ≤ R.frames) (hlo : W + 65 ≤ R.locals) :
    Back l R p e below s args (⟨"java/lang/String", "<init>", "([C)V"⟩ : MethodName) len W (fun P a => a = #[.ref x, .ref b] ∧ P.U.heap = h ∧ P.cells + 1 ≤ R.cells ∧ P.slots + n ≤ R.slots)
      (fun P _ v B => ∃ L, QV Z x N bs h n0 v B.U.heap L ∧ B.locs = P.locs ++ L ∧ B.cells = P.cells + 1 ∧ B.slots = P.slots + n) := by
  subst hn hN hb
  refine Back.mono (backArv hZ hw wi E V C K S hz (n32 (by omega)) l0 (by omega) (fun c hc => (hp c hc).2) hfr hlo) (fun P a hp => hp) (fun P a v B hp hq => ?_)
  obtain ⟨L, ⟨q1, q2, q3, q4, q5, q6, q7, ⟨kb, v1, v2⟩, q9⟩, hl, hc, hs⟩ := hq
  exact ⟨L, ⟨q1, fun y hy => by rw [q2 y hy]; exact hx0, q3, q5, q7, h.size, kb, hh0, Nat.le_refl _, Nat.ne_of_gt E.lt, q6, by rw [List.map_map]; exact v2⟩, hl, hc, hs⟩
end StrChars.Road
end Jvm.Pilot.@@N@@

namespace Jvm.Pilot.@@N@@
open Jvm Jvm.ClassFile Sem Op Lib Jvm.Free Jvm.Stand Jvm.LawKit Jvm.RoadKit Bundle Jvm.Pilot.@@N@@.Jvm.D
abbrev cn_0 : String := "java/lang/String"
abbrev cn_1 : String := "com/example/apportion/apportion/wire/WireWriterCarriesPinLaw"
abbrev cn_2 : String := "com/example/apportion/apportion/wire/WireWriter"
abbrev cn_3 : String := "java/lang/StringLatin1"
abbrev cn_4 : String := "(IILjava/lang/String;ZLjava/lang/String;)Z"
abbrev cn_5 : String := "(C)Ljava/lang/String;"
def own_St (Z : State) (w_COMPACT_STRINGS : Int32) (w_SIOOBE_FORMATTER : Value) : Prop := (Sta Z Z.heap cn_0 "COMPACT_STRINGS" "Z" (.int w_COMPACT_STRINGS)) ∧ (Sta Z Z.heap "jdk/internal/util/Preconditions" "SIOOBE_FORMATTER" "Ljava/util/function/BiFunction;" w_SIOOBE_FORMATTER) ∧ (w_SIOOBE_FORMATTER.isRef = true) ∧ (¬ w_COMPACT_STRINGS = (0 : Int32))
theorem own_St.k0 {Z : State} {w_COMPACT_STRINGS : Int32} {w_SIOOBE_FORMATTER : Value} (ST : own_St Z w_COMPACT_STRINGS w_SIOOBE_FORMATTER) : Sta Z Z.heap cn_0 "COMPACT_STRINGS" "Z" (.int w_COMPACT_STRINGS) := ST.1
theorem own_St.k1 {Z : State} {w_COMPACT_STRINGS : Int32} {w_SIOOBE_FORMATTER : Value} (ST : own_St Z w_COMPACT_STRINGS w_SIOOBE_FORMATTER) : Sta Z Z.heap "jdk/internal/util/Preconditions" "SIOOBE_FORMATTER" "Ljava/util/function/BiFunction;" w_SIOOBE_FORMATTER := ST.2.1
theorem own_St.k2 {Z : State} {w_COMPACT_STRINGS : Int32} {w_SIOOBE_FORMATTER : Value} (ST : own_St Z w_COMPACT_STRINGS w_SIOOBE_FORMATTER) : w_SIOOBE_FORMATTER.isRef = true := ST.2.2.1
theorem own_St.k3 {Z : State} {w_COMPACT_STRINGS : Int32} {w_SIOOBE_FORMATTER : Value} (ST : own_St Z w_COMPACT_STRINGS w_SIOOBE_FORMATTER) : ¬ w_COMPACT_STRINGS = (0 : Int32) := ST.2.2.2
theorem own_hwV {Z : State} {a0 : Array Value} (hw : ∀ d ∈ tables_1, d.before a0 Z = true) : ∀ d ∈ StrChars.Road.words, d.before a0 Z = true := fun d hd => hw d ((by decide +kernel : ∀ d ∈ StrChars.Road.words, d ∈ tables_1) d hd)
theorem d0_0 : decode jdk_43_method_3_code 0 = .ok (.iload_n 0, 1) := by decide +kernel
theorem d0_1 : decode jdk_43_method_3_code 1 = .ok (.sipush 255, 3) := by decide +kernel
theorem d0_4 : decode jdk_43_method_3_code 4 = .ok (.if_icmp .gt 7, 3) := by decide +kernel
theorem d0_7 : decode jdk_43_method_3_code 7 = .ok (.iconst 1, 1) := by decide +kernel
theorem d0_8 : decode jdk_43_method_3_code 8 = .ok (.goto 4, 3) := by decide +kernel
theorem d0_12 : decode jdk_43_method_3_code 12 = .ok (.ireturn, 1) := by decide +kernel
abbrev rr_can : Room := { frames := 0, cells := 0, slots := 0, locals := 0 }
abbrev y_0 : MethodName := ⟨cn_3, "canEncode", "(C)Z"⟩
theorem pn_0 : plainName cn_3 = true := by first | (simp [plainName, overriddenIn]; done) | decide +kernel
theorem ef_can (m : MethodId) (p0 : Int32) : entryFrame m #[(.int p0)] 1 = mkF m 0 #[.val (.int p0)] [] := by first | (simp [entryFrame, mkF, argsToLocals, Value.category]; done) | rfl
def f_can (w_COMPACT_STRINGS : Int32) (w_SIOOBE_FORMATTER : Value) (p0 : Int32) : Int32 := (1 : Int32)
def Q_can (Z : State) (w_COMPACT_STRINGS : Int32) (w_SIOOBE_FORMATTER : Value) (p0 : Int32) (h0 : Heap) (n0 : Nat) (v : Option Value) (h : Heap) (L : List Loc) : Prop := v = some (.int (f_can w_COMPACT_STRINGS w_SIOOBE_FORMATTER p0)) ∧ Fr n0 L ∧ h = h0
set_option maxRecDepth 65536 in
set_option maxHeartbeats 40000000 in
theorem rm_can (l : Launch) (Z : State) (a0 : Array Value) (hw : ∀ d ∈ tables_1, d.before a0 Z = true) (ws : List Jvm.Cond) (w_COMPACT_STRINGS : Int32) (w_SIOOBE_FORMATTER : Value) (p0 : Int32) (h0 : Heap) (n0 : Nat) (Z0 : n0 ≤ h0.size) (ST : own_St Z w_COMPACT_STRINGS w_SIOOBE_FORMATTER) (O0 : Old Z n0 h0) (hl : ¬ ((255 : Int32) < p0)) :
    MetFree l y_0 (head1 (Jvm.Cond.code y_0 jdk_43_method_3_code 1 (some .boolean) :: ws) rr_can) (fun a U => a = #[(.int p0)] ∧ Z.Warmed39 U.vm ∧ U.heap = h0) (fun _ _ _ _ _ => True) (fun _ U o U' => ∃ v L, o = .returned v ∧ Q_can Z w_COMPACT_STRINGS w_SIOOBE_FORMATTER p0 h0 n0 v U'.heap L ∧ FrameEnd U o U' L rr_can.cells rr_can.slots) := by
  refine MetFree.of_bodySF (plainFor_of_name pn_0) hisR ?_
  intro p e s m args below meth c s₁ Bd hml0 hP hK
  obtain ⟨rfl, hZ, hh⟩ := hP
  have hx := Bd.exec
  have hby := Bd.bytes
  have hml : c.maxLocals = 1 := hml0
  have hown : s.vm.findClass cn_3 = some m.cls := findClass_of_methodNamed Bd.named
  have hnm := (name_of_methodNamed Bd.named Bd.method).1
  have X0 : Stand p l e rr_can s m #[(.int p0)] below meth c s₁ [] 0 0 := Stand.of_body Bd
  have e0 : s₁.heap = h0 := by rw [← hh, Bd.state]; rfl
  have N0 := Fr.nil n0
  obtain ⟨G, step, ret, fin⟩ := own_open (p := p) (l := l) (e := e) (R := rr_can) (s := s) (m := m) (args := #[(.int p0)]) (below := below) (meth := meth) (c := c) (rr_can.cells) (rr_can.slots) (Q_can Z w_COMPACT_STRINGS w_SIOOBE_FORMATTER p0 h0 n0) Bd.notSynchronized
  refine fin (g := entryFrame m #[(.int p0)] 1) ?_
  rw [ef_can m p0]
  show G s₁ (mkF m 0 #[.val (.int p0)] [])
  refine step (fun t k => XS.iloadN X0.here hx rfl (hb hby d0_0) rfl k) ?_
  show G s₁ (mkF m 1 #[.val (.int p0)] [(.int p0)])
  refine step (fun t k => XS.sipush X0.here hx rfl (hb hby d0_1) k) ?_
  show G s₁ (mkF m 4 #[.val (.int p0)] [(.int 255), (.int p0)])
  refine step (fun t k => XS.icmpNo X0.here hx rfl (hb hby d0_4) rfl (flt hl).2.2.1 k) ?_
  show G s₁ (mkF m 7 #[.val (.int p0)] [])
  refine step (fun t k => XS.iconst X0.here hx rfl (hb hby d0_7) k) ?_
  show G s₁ (mkF m 8 #[.val (.int p0)] [(.int 1)])
  refine step (fun t k => XS.goto X0.here hx rfl (pc0 := 8) (pc' := 12) rfl (hb hby d0_8) (by decide) (by decide) k) ?_
  show G s₁ (mkF m 12 #[.val (.int p0)] [(.int 1)])
  exact ret (v := some (.int 1)) X0 (fun h => by rw [Bd.returns] at h; cases h) (fun fs hr => retN X0 hx (t := .boolean) Bd.returns (by simp) (hb hby d0_12) hr) e0 ⟨rfl, N0, rfl⟩ (by decide) (by decide)
theorem d1_0 : decode jdk_43_method_46_code 0 = .ok (.iconst 1, 1) := by decide +kernel
theorem d1_1 : decode jdk_43_method_46_code 1 = .ok (.newarray .byte, 2) := by decide +kernel
theorem ww19 {Z : State} {a0 : Array Value} (hw : ∀ d ∈ tables_1, d.before a0 Z = true) : Jvm.Cond.before (Jvm.Cond.arrayClass Jvm.ClassFile.FieldType.byte) a0 Z = true := hw _ (List.mem_of_getElem? (i := 19) rfl)
theorem d1_3 : decode jdk_43_method_46_code 3 = .ok (.dup, 1) := by decide +kernel
theorem d1_4 : decode jdk_43_method_46_code 4 = .ok (.iconst 0, 1) := by decide +kernel
theorem d1_5 : decode jdk_43_method_46_code 5 = .ok (.iload_n 0, 1) := by decide +kernel
theorem d1_6 : decode jdk_43_method_46_code 6 = .ok (.i2b, 1) := by decide +kernel
theorem d1_7 : decode jdk_43_method_46_code 7 = .ok (.bastore, 1) := by decide +kernel
theorem d1_8 : decode jdk_43_method_46_code 8 = .ok (.areturn, 1) := by decide +kernel
abbrev rr_tob : Room := { frames := 0, cells := 1, slots := 1, locals := 0 }
abbrev y_1 : MethodName := ⟨cn_3, "toBytes", "(C)[B"⟩
theorem ef_tob (m : MethodId) (p0 : Int32) : entryFrame m #[(.int p0)] 1 = mkF m 0 #[.val (.int p0)] [] := by first | (simp [entryFrame, mkF, argsToLocals, Value.category]; done) | rfl
def Q_tob (Z : State) (w_COMPACT_STRINGS : Int32) (w_SIOOBE_FORMATTER : Value) (p0 : Int32) (h0 : Heap) (n0 : Nat) (v : Option Value) (h : Heap) (L : List Loc) : Prop := ∃ b : Addr, v = some (.ref b) ∧ Fr n0 L ∧ Keep h0 h [] ∧ h0.size ≤ b
set_option maxRecDepth 65536 in
set_option maxHeartbeats 40000000 in
theorem rm_tob (l : Launch) (Z : State) (a0 : Array Value) (hw : ∀ d ∈ tables_1, d.before a0 Z = true) (ws : List Jvm.Cond) (w_COMPACT_STRINGS : Int32) (w_SIOOBE_FORMATTER : Value) (p0 : Int32) (h0 : Heap) (n0 : Nat) (Z0 : n0 ≤ h0.size) (ST : own_St Z w_COMPACT_STRINGS w_SIOOBE_FORMATTER) (O0 : Old Z n0 h0) :
    MetFree l y_1 (head1 (Jvm.Cond.code y_1 jdk_43_method_46_code 1 (some (.array .byte)) :: ws) rr_tob) (fun a U => a = #[(.int p0)] ∧ Z.Warmed39 U.vm ∧ U.heap = h0) (fun _ _ _ _ _ => True) (fun _ U o U' => ∃ v L, o = .returned v ∧ Q_tob Z w_COMPACT_STRINGS w_SIOOBE_FORMATTER p0 h0 n0 v U'.heap L ∧ FrameEnd U o U' L rr_tob.cells rr_tob.slots) := by
  refine MetFree.of_bodySF (plainFor_of_name pn_0) hisR ?_
  intro p e s m args below meth c s₁ Bd hml0 hP hK
  obtain ⟨rfl, hZ, hh⟩ := hP
  have hx := Bd.exec
  have hby := Bd.bytes
  have hml : c.maxLocals = 1 := hml0
  have hown : s.vm.findClass cn_3 = some m.cls := findClass_of_methodNamed Bd.named
  have hnm := (name_of_methodNamed Bd.named Bd.method).1
  have X0 : Stand p l e rr_tob s m #[(.int p0)] below meth c s₁ [] 0 0 := Stand.of_body Bd
  have e0 : s₁.heap = h0 := by rw [← hh, Bd.state]; rfl
  have N0 := Fr.nil n0
  have K0 : Keep h0 h0 [] := Keep.refl _ _
  obtain ⟨G, step, ret, fin⟩ := own_open (p := p) (l := l) (e := e) (R := rr_tob) (s := s) (m := m) (args := #[(.int p0)]) (below := below) (meth := meth) (c := c) (rr_tob.cells) (rr_tob.slots) (Q_tob Z w_COMPACT_STRINGS w_SIOOBE_FORMATTER p0 h0 n0) Bd.notSynchronized
  refine fin (g := entryFrame m #[(.int p0)] 1) ?_
  rw [ef_tob m p0]
  show G s₁ (mkF m 0 #[.val (.int p0)] [])
  refine step (fun t k => XS.iconst X0.here hx rfl (hb hby d1_0) k) ?_
  show G s₁ (mkF m 1 #[.val (.int p0)] [(.int 1)])
  obtain ⟨T1, h1, k1, X1, e1, E1, A1, B1, st1⟩ := newPE (aty := .byte) X0 hx hZ (ww19 hw) e0 (g := (mkF m 1 #[.val (.int p0)] [(.int 1)])) rfl (hb hby d1_1) rfl (by decide) (cap := 1) (by decide) (by decide) (by decide) (by decide) (ad := "[B") (by decide)
  obtain ⟨b1, g1⟩ : ∃ z, z = h0.size := ⟨_, rfl⟩
  rw [← g1] at A1 B1 st1
  have V1 : Arv Z h1 b1 k1 .byte (1 : Int32) [(.int 0)] (.int 0) := (Arv.new A1 (by decide)).pad (pad_rep [] (.int 0) 1)
  have ge_b1 : n0 ≤ b1 := Nat.le_trans (own_old_le O0) (Nat.le_of_eq g1.symm)
  have sz_b1 : h0.size ≤ b1 := Nat.le_trans K0.1 (Nat.le_of_eq g1.symm)
  have O1 := O0.ext E1
  have K1 : Keep h0 h1 [] := K0.ext E1
  refine step st1 ?_
  show G T1 (mkF m 3 #[.val (.int p0)] [(.ref b1)])
  refine step (fun t k => XS.dup X1.here hx rfl (hb hby d1_3) rfl rfl k) ?_
  show G T1 (mkF m 4 #[.val (.int p0)] [(.ref b1), (.ref b1)])
  refine step (fun t k => XS.iconst X1.here hx rfl (hb hby d1_4) k) ?_
  show G T1 (mkF m 5 #[.val (.int p0)] [(.int 0), (.ref b1), (.ref b1)])
  refine step (fun t k => XS.iloadN X1.here hx rfl (hb hby d1_5) rfl k) ?_
  show G T1 (mkF m 6 #[.val (.int p0)] [(.int p0), (.int 0), (.ref b1), (.ref b1)])
  refine step (fun t k => XS.i2b X1.here hx rfl (hb hby d1_6) rfl k) ?_
  show G T1 (mkF m 7 #[.val (.int p0)] [(.int (p0.toInt8.toInt32)), (.int 0), (.ref b1), (.ref b1)])
  obtain ⟨T2, h2, X2, e2, W2, V2, st2⟩ := own_stB X1 hx hZ e1 V1 (j := (0 : Int32)) (by decide) (i := 0) rfl (by show 0 < 1; decide) (g := (mkF m 7 #[.val (.int p0)] [(.int (p0.toInt8.toInt32)), (.int 0), (.ref b1), (.ref b1)])) rfl rfl (hb hby d1_7)
  replace V2 : Arv Z h2 b1 k1 .byte (1 : Int32) [(.int (nar .byte (p0.toInt8.toInt32)))] (.int 0) := V2
  have N2 := Fr.snoc X2 N0 ge_b1
  obtain ⟨lc2, X2, N2⟩ := own_gen X2 N2
  have O2 := O1.wr W2 ge_b1
  have K2 : Keep h0 h2 [] := K1.wr W2 (Or.inr sz_b1)
  refine step st2 ?_
  show G T2 (mkF m 8 #[.val (.int p0)] [(.ref b1)])
  exact ret (v := some (.ref b1)) X2 (fun h => by rw [Bd.returns] at h; cases h) (fun fs hr => retA X2 hx Bd.returns rfl rfl (hb hby d1_8) hr) e2 ⟨b1, rfl, N2, K2, sz_b1⟩ (by decide) (by decide)
theorem d2_0 : decode jdk_42_method_151_code 0 = .ok (.aload_n 0, 1) := by decide +kernel
theorem d2_1 : decode jdk_42_method_151_code 1 = .ok (.invokespecial 1, 3) := by decide +kernel
theorem ww11 {Z : State} {a0 : Array Value} (hw : ∀ d ∈ tables_1, d.before a0 Z = true) : Jvm.Cond.before (Jvm.Cond.methodLink cn_0 (1 : Nat) ({ cls := "java/lang/Object", name := "<init>", desc := "()V" } : Jvm.MethodName)) a0 Z = true := hw _ (List.mem_of_getElem? (i := 11) rfl)
theorem ww12 {Z : State} {a0 : Array Value} (hw : ∀ d ∈ tables_1, d.before a0 Z = true) : Jvm.Cond.before (Jvm.Cond.instanceMethod ({ cls := "java/lang/Object", name := "<init>", desc := "()V" } : Jvm.MethodName)) a0 Z = true := hw _ (List.mem_of_getElem? (i := 12) rfl)
theorem ww13 {Z : State} {a0 : Array Value} (hw : ∀ d ∈ tables_1, d.before a0 Z = true) : Jvm.Cond.before (Jvm.Cond.code ({ cls := "java/lang/Object", name := "<init>", desc := "()V" } : Jvm.MethodName) object_method_1_code (1 : Nat) (Option.none : Option Jvm.ClassFile.FieldType)) a0 Z = true := hw _ (List.mem_of_getElem? (i := 13) rfl)
theorem d2_4 : decode jdk_42_method_151_code 4 = .ok (.aload_n 0, 1) := by decide +kernel
theorem d2_5 : decode jdk_42_method_151_code 5 = .ok (.aload_n 1, 1) := by decide +kernel
theorem d2_6 : decode jdk_42_method_151_code 6 = .ok (.putfield 9, 3) := by decide +kernel
theorem ww28 {Z : State} {a0 : Array Value} (hw : ∀ d ∈ tables_1, d.before a0 Z = true) : Jvm.Cond.before (Jvm.Cond.fieldLink cn_0 (9 : Nat) cn_0 "value" "[B") a0 Z = true := hw _ (List.mem_of_getElem? (i := 28) rfl)
theorem ww29 {Z : State} {a0 : Array Value} (hw : ∀ d ∈ tables_1, d.before a0 Z = true) : Jvm.Cond.before (Jvm.Cond.laysFinal cn_0 cn_0 "value" "[B") a0 Z = true := hw _ (List.mem_of_getElem? (i := 29) rfl)
theorem ww2 {Z : State} {a0 : Array Value} (hw : ∀ d ∈ tables_1, d.before a0 Z = true) : Jvm.Cond.before (Jvm.Cond.instantiable cn_0 (4 : Nat)) a0 Z = true := hw _ (List.mem_of_getElem? (i := 2) rfl)
theorem d2_9 : decode jdk_42_method_151_code 9 = .ok (.aload_n 0, 1) := by decide +kernel
theorem d2_10 : decode jdk_42_method_151_code 10 = .ok (.iload_n 2, 1) := by decide +kernel
theorem d2_11 : decode jdk_42_method_151_code 11 = .ok (.putfield 15, 3) := by decide +kernel
theorem ww26 {Z : State} {a0 : Array Value} (hw : ∀ d ∈ tables_1, d.before a0 Z = true) : Jvm.Cond.before (Jvm.Cond.fieldLink cn_0 (15 : Nat) cn_0 "coder" "B") a0 Z = true := hw _ (List.mem_of_getElem? (i := 26) rfl)
theorem ww27 {Z : State} {a0 : Array Value} (hw : ∀ d ∈ tables_1, d.before a0 Z = true) : Jvm.Cond.before (Jvm.Cond.laysFinal cn_0 cn_0 "coder" "B") a0 Z = true := hw _ (List.mem_of_getElem? (i := 27) rfl)
theorem d2_14 : decode jdk_42_method_151_code 14 = .ok (.return_, 1) := by decide +kernel
abbrev rr_ini : Room := { frames := 1, cells := 0, slots := 0, locals := 12 }
abbrev y_2 : MethodName := ⟨cn_0, "<init>", "([BB)V"⟩
theorem pn_1 : plainName cn_0 = true := by first | (simp [plainName, overriddenIn]; done) | decide +kernel
theorem ef_ini (m : MethodId) (o0 : Addr) (o1 : Addr) : entryFrame m #[(.ref o0), (.ref o1), (.int 0)] 3 = mkF m 0 #[.val (.ref o0), .val (.ref o1), .val (.int 0)] [] := by first | (simp [entryFrame, mkF, argsToLocals, Value.category]; done) | rfl
def Q_ini (Z : State) (w_COMPACT_STRINGS : Int32) (w_SIOOBE_FORMATTER : Value) (o0 : Addr) (o1 : Addr) (h0 : Heap) (n0 : Nat) (v : Option Value) (h : Heap) (L : List Loc) : Prop := v = none ∧ Fr n0 L ∧ Keep h0 h [o0] ∧ Exa Z h o0 cn_0
set_option maxRecDepth 65536 in
set_option maxHeartbeats 40000000 in
theorem rm_ini (l : Launch) (Z : State) (a0 : Array Value) (hw : ∀ d ∈ tables_1, d.before a0 Z = true) (ws : List Jvm.Cond) (w_COMPACT_STRINGS : Int32) (w_SIOOBE_FORMATTER : Value) (o0 : Addr) (o1 : Addr) (h0 : Heap) (n0 : Nat) (Z0 : n0 ≤ h0.size) (ST : own_St Z w_COMPACT_STRINGS w_SIOOBE_FORMATTER) (O0 : Old Z n0 h0) (Ex : Exa Z h0 o0 cn_0) (geo : n0 ≤ o0) (Fv : Fld Z h0 o0 cn_0 "value" "[B" .null) (Fc : Fld Z h0 o0 cn_0 "coder" "B" (.int 0)) :
    MetFree l y_2 (head1 (Jvm.Cond.code y_2 jdk_42_method_151_code 3 none :: ws) rr_ini) (fun a U => a = #[(.ref o0), (.ref o1), (.int 0)] ∧ Z.Warmed39 U.vm ∧ U.heap = h0) (fun _ _ _ _ _ => True) (fun _ U o U' => ∃ v L, o = .returned v ∧ Q_ini Z w_COMPACT_STRINGS w_SIOOBE_FORMATTER o0 o1 h0 n0 v U'.heap L ∧ FrameEnd U o U' L rr_ini.cells rr_ini.slots) := by
  refine MetFree.of_bodySF (plainFor_of_name pn_1) hisR ?_
  intro p e s m args below meth c s₁ Bd hml0 hP hK
  obtain ⟨rfl, hZ, hh⟩ := hP
  have hx := Bd.exec
  have hby := Bd.bytes
  have hml : c.maxLocals = 3 := hml0
  have hown : s.vm.findClass cn_0 = some m.cls := findClass_of_methodNamed Bd.named
  have hnm := (name_of_methodNamed Bd.named Bd.method).1
  have X0 : Stand p l e rr_ini s m #[(.ref o0), (.ref o1), (.int 0)] below meth c s₁ [] 0 0 := Stand.of_body Bd
  have e0 : s₁.heap = h0 := by rw [← hh, Bd.state]; rfl
  have N0 := Fr.nil n0
  have K0 : Keep h0 h0 [o0] := Keep.refl _ _
  obtain ⟨G, step, ret, fin⟩ := own_open (p := p) (l := l) (e := e) (R := rr_ini) (s := s) (m := m) (args := #[(.ref o0), (.ref o1), (.int 0)]) (below := below) (meth := meth) (c := c) (rr_ini.cells) (rr_ini.slots) (Q_ini Z w_COMPACT_STRINGS w_SIOOBE_FORMATTER o0 o1 h0 n0) Bd.notSynchronized
  refine fin (g := entryFrame m #[(.ref o0), (.ref o1), (.int 0)] 3) ?_
  rw [ef_ini m o0 o1]
  show G s₁ (mkF m 0 #[.val (.ref o0), .val (.ref o1), .val (.int 0)] [])
  refine step (fun t k => XS.aloadN X0.here hx rfl (hb hby d2_0) rfl rfl k) ?_
  show G s₁ (mkF m 1 #[.val (.ref o0), .val (.ref o1), .val (.int 0)] [(.ref o0)])
  obtain ⟨T1, X1, e1, st1⟩ := initO X0 hx hZ hown (ww11 hw) (ww12 hw) (ww13 hw) e0 (g := (mkF m 1 #[.val (.ref o0), .val (.ref o1), .val (.int 0)] [(.ref o0)])) rfl (by rw [hml]; rfl) rfl (hb hby d2_1) (by decide) (W := 0) (by show 2 * 0 + _ ≤ _; exact Nat.le_of_eq rfl) (by decide)
  refine step st1 ?_
  show G T1 (mkF m 4 #[.val (.ref o0), .val (.ref o1), .val (.int 0)] [])
  refine step (fun t k => XS.aloadN X1.here hx rfl (hb hby d2_4) rfl rfl k) ?_
  show G T1 (mkF m 5 #[.val (.ref o0), .val (.ref o1), .val (.int 0)] [(.ref o0)])
  refine step (fun t k => XS.aloadN X1.here hx rfl (hb hby d2_5) rfl rfl k) ?_
  show G T1 (mkF m 6 #[.val (.ref o0), .val (.ref o1), .val (.int 0)] [(.ref o1), (.ref o0)])
  obtain ⟨T2, h2, X2, e2, W2, st2⟩ := putF X1 hx hZ hown (host := "") (Or.inl (ww28 hw)) Via.refl e1 Fv Ex (Or.inr ⟨(ww29 hw), rfl, hnm⟩) (ww2 hw) (ty := (.array .byte)) (by decide) rfl rfl (g := (mkF m 6 #[.val (.ref o0), .val (.ref o1), .val (.int 0)] [(.ref o1), (.ref o0)])) rfl rfl (hb hby d2_6)
  have F2 : Fld Z h2 o0 cn_0 "value" "[B" (.ref o1) := Fld.same W2 Fv
  have N2 := Fr.snoc X2 N0 geo
  obtain ⟨lc2, X2, N2⟩ := own_gen X2 N2
  have O2 := O0.wr W2 geo
  have K2 : Keep h0 h2 [o0] := K0.wr W2 (Or.inl (List.mem_of_getElem? (i := 0) rfl))
  refine step st2 ?_
  show G T2 (mkF m 9 #[.val (.ref o0), .val (.ref o1), .val (.int 0)] [])
  refine step (fun t k => XS.aloadN X2.here hx rfl (hb hby d2_9) rfl rfl k) ?_
  show G T2 (mkF m 10 #[.val (.ref o0), .val (.ref o1), .val (.int 0)] [(.ref o0)])
  refine step (fun t k => XS.iloadN X2.here hx rfl (hb hby d2_10) rfl k) ?_
  show G T2 (mkF m 11 #[.val (.ref o0), .val (.ref o1), .val (.int 0)] [(.int 0), (.ref o0)])
  have f4 := (Fld.other W2 Fc (Or.inr (slot_ne (Or.inr (ww27 hw)) (Or.inr (ww29 hw)) (by decide) (t := .byte) (t' := (.array .byte)) (by decide) (by decide))))
  have f5 := (Exa.wr W2 Ex)
  obtain ⟨T3, h3, X3, e3, W3, st3⟩ := putFN X2 hx hZ hown (ww26 hw) Via.refl e2 f4 f5 (Or.inr ⟨(ww27 hw), rfl, hnm⟩) (ww2 hw) (ty := .byte) (v' := (.int (nar .byte (0 : Int32)))) (by decide) rfl (fits_nar_byte _) (g := (mkF m 11 #[.val (.ref o0), .val (.ref o1), .val (.int 0)] [(.int 0), (.ref o0)])) rfl rfl (hb hby d2_11)
  have F3 : Fld Z h3 o0 cn_0 "coder" "B" (.int 0) := Fld.same W3 f4
  have N3 := Fr.snoc X3 N2 geo
  obtain ⟨lc3, X3, N3⟩ := own_gen X3 N3
  have O3 := O2.wr W3 geo
  have K3 : Keep h0 h3 [o0] := K2.wr W3 (Or.inl (List.mem_of_getElem? (i := 0) rfl))
  refine step st3 ?_
  show G T3 (mkF m 14 #[.val (.ref o0), .val (.ref o1), .val (.int 0)] [])
  have f6 := (Exa.wr W3 f5)
  exact ret (v := none) X3 (fun _ => rfl) (fun fs hr => X3.returnOut hx Bd.returns (hb hby d2_14) hr) e3 ⟨rfl, N3, K3, f6⟩ (by decide) (by decide)
theorem d3_0 : decode jdk_42_method_139_code 0 = .ok (.getstatic 38, 3) := by decide +kernel
theorem ww14 {Z : State} {a0 : Array Value} (hw : ∀ d ∈ tables_1, d.before a0 Z = true) : Jvm.Cond.before (Jvm.Cond.fieldLink cn_0 (38 : Nat) cn_0 "COMPACT_STRINGS" "Z") a0 Z = true := hw _ (List.mem_of_getElem? (i := 14) rfl)
theorem d3_3 : decode jdk_42_method_139_code 3 = .ok (.ifCond .eq 23, 3) := by decide +kernel
theorem d3_6 : decode jdk_42_method_139_code 6 = .ok (.iload_n 0, 1) := by decide +kernel
theorem d3_7 : decode jdk_42_method_139_code 7 = .ok (.invokestatic 1015, 3) := by decide +kernel
theorem ww33 {Z : State} {a0 : Array Value} (hw : ∀ d ∈ tables_1, d.before a0 Z = true) : Jvm.Cond.before (Jvm.Cond.methodLink cn_0 (1015 : Nat) ({ cls := cn_3, name := "canEncode", desc := "(C)Z" } : Jvm.MethodName)) a0 Z = true := hw _ (List.mem_of_getElem? (i := 33) rfl)
theorem ww36 {Z : State} {a0 : Array Value} (hw : ∀ d ∈ tables_1, d.before a0 Z = true) : Jvm.Cond.before (Jvm.Cond.code ({ cls := cn_3, name := "canEncode", desc := "(C)Z" } : Jvm.MethodName) jdk_43_method_3_code (1 : Nat) (Option.some Jvm.ClassFile.FieldType.boolean)) a0 Z = true := hw _ (List.mem_of_getElem? (i := 36) rfl)
theorem ww35 {Z : State} {a0 : Array Value} (hw : ∀ d ∈ tables_1, d.before a0 Z = true) : Jvm.Cond.before (Jvm.Cond.initialized cn_3) a0 Z = true := hw _ (List.mem_of_getElem? (i := 35) rfl)
theorem pd_0 : parseMethodDescriptor "(C)Z" = some ⟨[.char], some .boolean⟩ := by decide +kernel
theorem ww34 {Z : State} {a0 : Array Value} (hw : ∀ d ∈ tables_1, d.before a0 Z = true) : Jvm.Cond.before (Jvm.Cond.static ({ cls := cn_3, name := "canEncode", desc := "(C)Z" } : Jvm.MethodName)) a0 Z = true := hw _ (List.mem_of_getElem? (i := 34) rfl)
theorem d3_10 : decode jdk_42_method_139_code 10 = .ok (.ifCond .eq 16, 3) := by decide +kernel
theorem d3_13 : decode jdk_42_method_139_code 13 = .ok (.new 10, 3) := by decide +kernel
theorem ww37 {Z : State} {a0 : Array Value} (hw : ∀ d ∈ tables_1, d.before a0 Z = true) : Jvm.Cond.before (Jvm.Cond.classLink cn_0 (10 : Nat) cn_0) a0 Z = true := hw _ (List.mem_of_getElem? (i := 37) rfl)
theorem ww3 {Z : State} {a0 : Array Value} (hw : ∀ d ∈ tables_1, d.before a0 Z = true) : Jvm.Cond.before (Jvm.Cond.initialized cn_0) a0 Z = true := hw _ (List.mem_of_getElem? (i := 3) rfl)
theorem d3_16 : decode jdk_42_method_139_code 16 = .ok (.dup, 1) := by decide +kernel
theorem d3_17 : decode jdk_42_method_139_code 17 = .ok (.iload_n 0, 1) := by decide +kernel
theorem d3_18 : decode jdk_42_method_139_code 18 = .ok (.invokestatic 1018, 3) := by decide +kernel
theorem ww38 {Z : State} {a0 : Array Value} (hw : ∀ d ∈ tables_1, d.before a0 Z = true) : Jvm.Cond.before (Jvm.Cond.methodLink cn_0 (1018 : Nat) ({ cls := cn_3, name := "toBytes", desc := "(C)[B" } : Jvm.MethodName)) a0 Z = true := hw _ (List.mem_of_getElem? (i := 38) rfl)
theorem ww40 {Z : State} {a0 : Array Value} (hw : ∀ d ∈ tables_1, d.before a0 Z = true) : Jvm.Cond.before (Jvm.Cond.code ({ cls := cn_3, name := "toBytes", desc := "(C)[B" } : Jvm.MethodName) jdk_43_method_46_code (1 : Nat) (Option.some (Jvm.ClassFile.FieldType.array Jvm.ClassFile.FieldType.byte))) a0 Z = true := hw _ (List.mem_of_getElem? (i := 40) rfl)
theorem pd_1 : parseMethodDescriptor "(C)[B" = some ⟨[.char], some (.array .byte)⟩ := by decide +kernel
theorem ww39 {Z : State} {a0 : Array Value} (hw : ∀ d ∈ tables_1, d.before a0 Z = true) : Jvm.Cond.before (Jvm.Cond.static ({ cls := cn_3, name := "toBytes", desc := "(C)[B" } : Jvm.MethodName)) a0 Z = true := hw _ (List.mem_of_getElem? (i := 39) rfl)
theorem d3_21 : decode jdk_42_method_139_code 21 = .ok (.iconst 0, 1) := by decide +kernel
theorem d3_22 : decode jdk_42_method_139_code 22 = .ok (.invokespecial 209, 3) := by decide +kernel
theorem ww41 {Z : State} {a0 : Array Value} (hw : ∀ d ∈ tables_1, d.before a0 Z = true) : Jvm.Cond.before (Jvm.Cond.methodLink cn_0 (209 : Nat) ({ cls := cn_0, name := "<init>", desc := "([BB)V" } : Jvm.MethodName)) a0 Z = true := hw _ (List.mem_of_getElem? (i := 41) rfl)
theorem ww43 {Z : State} {a0 : Array Value} (hw : ∀ d ∈ tables_1, d.before a0 Z = true) : Jvm.Cond.before (Jvm.Cond.code ({ cls := cn_0, name := "<init>", desc := "([BB)V" } : Jvm.MethodName) jdk_42_method_151_code (3 : Nat) (Option.none : Option Jvm.ClassFile.FieldType)) a0 Z = true := hw _ (List.mem_of_getElem? (i := 43) rfl)
theorem pd_2 : parseMethodDescriptor "([BB)V" = some ⟨[(.array .byte), .byte], none⟩ := by decide +kernel
theorem ww42 {Z : State} {a0 : Array Value} (hw : ∀ d ∈ tables_1, d.before a0 Z = true) : Jvm.Cond.before (Jvm.Cond.instanceMethod ({ cls := cn_0, name := "<init>", desc := "([BB)V" } : Jvm.MethodName)) a0 Z = true := hw _ (List.mem_of_getElem? (i := 42) rfl)
theorem d3_25 : decode jdk_42_method_139_code 25 = .ok (.areturn, 1) := by decide +kernel
abbrev rr_val : Room := { frames := 2, cells := 2, slots := 5, locals := 27 }
abbrev y_3 : MethodName := ⟨cn_0, "valueOf", cn_5⟩
theorem ef_val (m : MethodId) (p0 : Int32) : entryFrame m #[(.int p0)] 1 = mkF m 0 #[.val (.int p0)] [] := by first | (simp [entryFrame, mkF, argsToLocals, Value.category]; done) | rfl
def Q_val (Z : State) (w_COMPACT_STRINGS : Int32) (w_SIOOBE_FORMATTER : Value) (p0 : Int32) (h0 : Heap) (n0 : Nat) (v : Option Value) (h : Heap) (L : List Loc) : Prop := ∃ b : Addr, v = some (.ref b) ∧ Fr n0 L ∧ Keep h0 h [] ∧ h0.size ≤ b ∧ Exa Z h b cn_0
set_option maxRecDepth 65536 in
set_option maxHeartbeats 40000000 in
theorem rm_val (l : Launch) (Z : State) (a0 : Array Value) (hw : ∀ d ∈ tables_1, d.before a0 Z = true) (ws : List Jvm.Cond) (w_COMPACT_STRINGS : Int32) (w_SIOOBE_FORMATTER : Value) (p0 : Int32) (h0 : Heap) (n0 : Nat) (Z0 : n0 ≤ h0.size) (ST : own_St Z w_COMPACT_STRINGS w_SIOOBE_FORMATTER) (O0 : Old Z n0 h0) (hl : ¬ ((255 : Int32) < p0)) :
    MetFree l y_3 (head1 (Jvm.Cond.code y_3 jdk_42_method_139_code 1 (some (.object cn_0)) :: ws) rr_val) (fun a U => a = #[(.int p0)] ∧ Z.Warmed39 U.vm ∧ U.heap = h0) (fun _ _ _ _ _ => True) (fun _ U o U' => ∃ v L, o = .returned v ∧ Q_val Z w_COMPACT_STRINGS w_SIOOBE_FORMATTER p0 h0 n0 v U'.heap L ∧ FrameEnd U o U' L rr_val.cells rr_val.slots) := by
  refine MetFree.of_bodySF (plainFor_of_name pn_1) hisR ?_
  intro p e s m args below meth c s₁ Bd hml0 hP hK
  obtain ⟨rfl, hZ, hh⟩ := hP
  have hx := Bd.exec
  have hby := Bd.bytes
  have hml : c.maxLocals = 1 := hml0
  have hown : s.vm.findClass cn_0 = some m.cls := findClass_of_methodNamed Bd.named
  have hnm := (name_of_methodNamed Bd.named Bd.method).1
  have X0 : Stand p l e rr_val s m #[(.int p0)] below meth c s₁ [] 0 0 := Stand.of_body Bd
  have e0 : s₁.heap = h0 := by rw [← hh, Bd.state]; rfl
  have N0 := Fr.nil n0
  have K0 : Keep h0 h0 [] := Keep.refl _ _
  obtain ⟨G, step, ret, fin⟩ := own_open (p := p) (l := l) (e := e) (R := rr_val) (s := s) (m := m) (args := #[(.int p0)]) (below := below) (meth := meth) (c := c) (rr_val.cells) (rr_val.slots) (Q_val Z w_COMPACT_STRINGS w_SIOOBE_FORMATTER p0 h0 n0) Bd.notSynchronized
  refine fin (g := entryFrame m #[(.int p0)] 1) ?_
  rw [ef_val m p0]
  show G s₁ (mkF m 0 #[.val (.int p0)] [])
  obtain ⟨T1, X1, e1, st1⟩ := getS2 X0 hx hZ hown (host := "") (Or.inl (ww14 hw)) Via.refl e0 (Sta.ext O0.2 ST.k0) (g := (mkF m 0 #[.val (.int p0)] [])) rfl (hb hby d3_0)
  refine step st1 ?_
  show G T1 (mkF m 3 #[.val (.int p0)] [(.int w_COMPACT_STRINGS)])
  refine step (fun t k => XS.ifNo X1.here hx rfl (hb hby d3_3) rfl ((if0 _ _).trans (feq ST.k3).1) k) ?_
  show G T1 (mkF m 6 #[.val (.int p0)] [])
  refine step (fun t k => XS.iloadN X1.here hx rfl (hb hby d3_6) rfl k) ?_
  show G T1 (mkF m 7 #[.val (.int p0)] [(.int p0)])
  have hK2 := (backOf (R := rr_val) (p := p) (e := e) (below := below) (s := s) (args := #[(.int p0)]) (len := 3) (W := 0) (rm_can l Z a0 hw [] w_COMPACT_STRINGS w_SIOOBE_FORMATTER p0 h0 n0 (own_old_le O0) ST O0 (hl : ¬ ((255 : Int32) < p0))) hZ (ww36 hw) (ww35 hw) (by decide) (by decide))
  obtain ⟨_, _, ⟨T2, L2, k2, n2⟩, -, X2, ⟨Lc2, hQ2, l2, y2, z2⟩, st2⟩ := Jvm.LawKit.callS X1 hx (y := y_0) hown (mvT hZ (ww33 hw)) (mvT hZ (ww34 hw)) (mvT hZ (ww35 hw)) (mvT hZ (ww36 hw)) (by decide) hK2 (g := (mkF m 7 #[.val (.int p0)] [(.int p0)])) rfl (by rw [hml]; rfl) (argsL := [(.int p0)]) (rest := []) (lenOf pd_0 rfl) rfl (by show 2 * 0 + _ ≤ _; exact Nat.le_of_eq rfl) (hb hby d3_7) (fun _ _ => ⟨rfl, e1, (by decide : 0 + 0 ≤ _), (by decide : 0 + 0 ≤ _)⟩)
  dsimp only [Pt.U, Pt.locs, Pt.cells, Pt.slots] at X2 l2 y2 z2 st2 hQ2
  subst l2 y2 z2
  obtain ⟨rfl, N2q, e2⟩ := hQ2
  have N2 := Fr.app N0 N2q
  obtain ⟨lc2, X2, N2⟩ := own_gen X2 N2
  refine step (fun t k => st2 t k) ?_
  show G T2 (mkF m 10 #[.val (.int p0)] [(.int (f_can w_COMPACT_STRINGS w_SIOOBE_FORMATTER p0))])
  have r3 : (f_can w_COMPACT_STRINGS w_SIOOBE_FORMATTER p0) = (1 : Int32) := rfl
  rw [r3]
  show G T2 (mkF m 10 #[.val (.int p0)] [(.int 1)])
  refine step (fun t k => XS.ifNo X2.here hx rfl (hb hby d3_10) rfl ((if0 _ _).trans (feq (by decide : ¬ ((1 : Int32) = (0 : Int32)))).1) k) ?_
  show G T2 (mkF m 13 #[.val (.int p0)] [])
  obtain ⟨T4, h4, X4, e4, E4, A4, D4, -, st4⟩ := newO X2 hx hZ hown (ww37 hw) (ww2 hw) (ww3 hw) e2 (g := (mkF m 13 #[.val (.int p0)] [])) rfl (hb hby d3_13) (by decide) (by decide)
  obtain ⟨b4, g4⟩ : ∃ z, z = h0.size := ⟨_, rfl⟩
  rw [← g4] at A4 D4 st4
  have ge_b4 : n0 ≤ b4 := Nat.le_trans (own_old_le O0) (Nat.le_of_eq g4.symm)
  have sz_b4 : h0.size ≤ b4 := Nat.le_trans K0.1 (Nat.le_of_eq g4.symm)
  have O4 := O0.ext E4
  have K4 : Keep h0 h4 [] := K0.ext E4
  have F4_coder : Fld Z h4 b4 cn_0 "coder" "B" (.int 0) := D4 (Or.inr (ww27 hw)) (ty := .byte) (by decide)
  have F4_value : Fld Z h4 b4 cn_0 "value" "[B" .null := D4 (Or.inr (ww29 hw)) (ty := (.array .byte)) (by decide)
  refine step st4 ?_
  show G T4 (mkF m 16 #[.val (.int p0)] [(.ref b4)])
  refine step (fun t k => XS.dup X4.here hx rfl (hb hby d3_16) rfl rfl k) ?_
  show G T4 (mkF m 17 #[.val (.int p0)] [(.ref b4), (.ref b4)])
  refine step (fun t k => XS.iloadN X4.here hx rfl (hb hby d3_17) rfl k) ?_
  show G T4 (mkF m 18 #[.val (.int p0)] [(.int p0), (.ref b4), (.ref b4)])
  have hK5 := (backOf (R := rr_val) (p := p) (e := e) (below := below) (s := s) (args := #[(.int p0)]) (len := 3) (W := 2) (rm_tob l Z a0 hw [] w_COMPACT_STRINGS w_SIOOBE_FORMATTER p0 h4 n0 (own_old_le O4) ST O4) hZ (ww40 hw) (ww35 hw) (by decide) (by decide))
  obtain ⟨_, _, ⟨T5, L5, k5, n5⟩, -, X5, ⟨Lc5, hQ5, l5, y5, z5⟩, st5⟩ := Jvm.LawKit.callS X4 hx (y := y_1) hown (mvT hZ (ww38 hw)) (mvT hZ (ww39 hw)) (mvT hZ (ww35 hw)) (mvT hZ (ww40 hw)) (by decide) hK5 (g := (mkF m 18 #[.val (.int p0)] [(.int p0), (.ref b4), (.ref b4)])) rfl (by rw [hml]; rfl) (argsL := [(.int p0)]) (rest := [(.ref b4), (.ref b4)]) (lenOf pd_1 rfl) rfl (by show 2 * 0 + _ ≤ _; exact Nat.le_of_eq rfl) (hb hby d3_18) (fun _ _ => ⟨rfl, e4, (by decide : 1 + 1 ≤ _), (by decide : 4 + 1 ≤ _)⟩)
  dsimp only [Pt.U, Pt.locs, Pt.cells, Pt.slots] at X5 l5 y5 z5 st5 hQ5
  subst l5 y5 z5
  obtain ⟨b5, rfl, N5q, K5q, Y5_0⟩ := hQ5
  have N5 := Fr.app N2 N5q
  obtain ⟨lc5, X5, N5⟩ := own_gen X5 N5
  have O5 := O4.keep K5q all0
  have K5 : Keep h0 T5.heap [] := K4.trans K5q all0
  have ge_b5 : n0 ≤ b5 := Nat.le_trans (own_old_le O4) Y5_0
  have sz_b5 : h0.size ≤ b5 := Nat.le_trans K4.1 Y5_0
  have lt_b4_b5 : b4 < b5 := Nat.lt_of_lt_of_le A4.lt Y5_0
  refine step (fun t k => st5 t k) ?_
  show G T5 (mkF m 21 #[.val (.int p0)] [(.ref b5), (.ref b4), (.ref b4)])
  refine step (fun t k => XS.iconst X5.here hx rfl (hb hby d3_21) k) ?_
  show G T5 (mkF m 22 #[.val (.int p0)] [(.int 0), (.ref b5), (.ref b4), (.ref b4)])
  have f7 := (Exa.keep A4 K5q)
  have f8 := (Fld.keep F4_value K5q nin0)
  have f9 := (Fld.keep F4_coder K5q nin0)
  have hK6 := (backOf (R := rr_val) (p := p) (e := e) (below := below) (s := s) (args := #[(.int p0)]) (len := 3) (W := 1) (rm_ini l Z a0 hw [] w_COMPACT_STRINGS w_SIOOBE_FORMATTER b4 b5 T5.heap n0 (own_old_le O5) ST O5 f7 ge_b4 f8 f9) hZ (ww43 hw) (ww3 hw) (by decide) (by decide))
  obtain ⟨_, _, ⟨T6, L6, k6, n6⟩, -, X6, ⟨Lc6, hQ6, l6, y6, z6⟩, st6⟩ := X5.specialBack hx (y := y_2) rfl hown (mvT hZ (ww41 hw)) (mvT hZ (ww42 hw)) (mvT hZ (ww43 hw)) (by decide) hK6 (g := (mkF m 22 #[.val (.int p0)] [(.int 0), (.ref b5), (.ref b4), (.ref b4)])) rfl (by rw [hml]; rfl) (Steps.refl _) (a := b4) (argsL := [(.ref b5), (.int 0)]) (rest := [(.ref b4)]) (lenOf pd_2 rfl) rfl (by show 2 * 0 + _ ≤ _; exact Nat.le_of_eq rfl) (hb hby d3_22) (fun _ _ => ⟨rfl, rfl, (by decide : 2 + 0 ≤ _), (by decide : 5 + 0 ≤ _)⟩)
  dsimp only [Pt.U, Pt.locs, Pt.cells, Pt.slots] at X6 l6 y6 z6 st6 hQ6
  subst l6 y6 z6
  obtain ⟨rfl, N6q, K6q, Y6_0⟩ := hQ6
  have N6 := Fr.app N5 N6q
  obtain ⟨lc6, X6, N6⟩ := own_gen X6 N6
  have O6 := O5.keep K6q (allS ge_b4 all0)
  have K6 : Keep h0 T6.heap [] := K5.trans K6q (allS (Or.inr sz_b4) all0)
  refine step (fun t k => st6.trans k) ?_
  show G T6 (mkF m 25 #[.val (.int p0)] [(.ref b4)])
  exact ret (v := some (.ref b4)) X6 (fun h => by rw [Bd.returns] at h; cases h) (fun fs hr => retA X6 hx Bd.returns rfl rfl (hb hby d3_25) hr) rfl ⟨b4, rfl, N6, K6, sz_b4, Y6_0⟩ (by decide) (by decide)
theorem d4_0 : decode prog_36_method_3_code 0 = .ok (.iload_n 0, 1) := by decide +kernel
theorem d4_1 : decode prog_36_method_3_code 1 = .ok (.iload_n 1, 1) := by decide +kernel
theorem d4_2 : decode prog_36_method_3_code 2 = .ok (.if_icmp .ge 25, 3) := by decide +kernel
theorem d4_27 : decode prog_36_method_3_code 27 = .ok (.iload_n 0, 1) := by decide +kernel
theorem d4_28 : decode prog_36_method_3_code 28 = .ok (.iload_n 1, 1) := by decide +kernel
theorem d4_29 : decode prog_36_method_3_code 29 = .ok (.if_icmp .lt 7, 3) := by decide +kernel
theorem d4_32 : decode prog_36_method_3_code 32 = .ok (.iconst 1, 1) := by decide +kernel
theorem d4_33 : decode prog_36_method_3_code 33 = .ok (.goto 4, 3) := by decide +kernel
theorem d4_37 : decode prog_36_method_3_code 37 = .ok (.ireturn, 1) := by decide +kernel
abbrev rr_car1 : Room := { frames := 0, cells := 0, slots := 0, locals := 0 }
abbrev y_4 : MethodName := ⟨cn_2, "carries", cn_4⟩
theorem pn_2 : plainName cn_2 = true := by first | (simp [plainName, overriddenIn]; done) | decide +kernel
theorem ef_car1 (m : MethodId) (p0 : Int32) (p1 : Int32) (o2 : Addr) (p3 : Int32) (o4 : Addr) : entryFrame m #[(.int p0), (.int p1), (.ref o2), (.int p3), (.ref o4)] 5 = mkF m 0 #[.val (.int p0), .val (.int p1), .val (.ref o2), .val (.int p3), .val (.ref o4)] [] := by first | (simp [entryFrame, mkF, argsToLocals, Value.category]; done) | rfl
def f_car1 (w_COMPACT_STRINGS : Int32) (w_SIOOBE_FORMATTER : Value) (p0 : Int32) (p1 : Int32) (o2 : Addr) (p3 : Int32) (o4 : Addr) : Int32 := (1 : Int32)
def Q_car1 (Z : State) (w_COMPACT_STRINGS : Int32) (w_SIOOBE_FORMATTER : Value) (p0 : Int32) (p1 : Int32) (o2 : Addr) (p3 : Int32) (o4 : Addr) (h0 : Heap) (n0 : Nat) (v : Option Value) (h : Heap) (L : List Loc) : Prop := v = some (.int (f_car1 w_COMPACT_STRINGS w_SIOOBE_FORMATTER p0 p1 o2 p3 o4)) ∧ Fr n0 L ∧ h = h0
set_option maxRecDepth 65536 in
set_option maxHeartbeats 40000000 in
theorem rm_car1 (l : Launch) (Z : State) (a0 : Array Value) (hw : ∀ d ∈ tables_1, d.before a0 Z = true) (ws : List Jvm.Cond) (w_COMPACT_STRINGS : Int32) (w_SIOOBE_FORMATTER : Value) (p0 : Int32) (p1 : Int32) (o2 : Addr) (p3 : Int32) (o4 : Addr) (h0 : Heap) (n0 : Nat) (Z0 : n0 ≤ h0.size) (ST : own_St Z w_COMPACT_STRINGS w_SIOOBE_FORMATTER) (O0 : Old Z n0 h0) (hge : ¬ (p0 < p1)) :
    MetFree l y_4 (head1 (Jvm.Cond.code y_4 prog_36_method_3_code 5 (some .boolean) :: ws) rr_car1) (fun a U => a = #[(.int p0), (.int p1), (.ref o2), (.int p3), (.ref o4)] ∧ Z.Warmed39 U.vm ∧ U.heap = h0) (fun _ _ _ _ _ => True) (fun _ U o U' => ∃ v L, o = .returned v ∧ Q_car1 Z w_COMPACT_STRINGS w_SIOOBE_FORMATTER p0 p1 o2 p3 o4 h0 n0 v U'.heap L ∧ FrameEnd U o U' L rr_car1.cells rr_car1.slots) := by
  refine MetFree.of_bodySF (plainFor_of_name pn_2) hisR ?_
  intro p e s m args below meth c s₁ Bd hml0 hP hK
  obtain ⟨rfl, hZ, hh⟩ := hP
  have hx := Bd.exec
  have hby := Bd.bytes
  have hml : c.maxLocals = 5 := hml0
  have hown : s.vm.findClass cn_2 = some m.cls := findClass_of_methodNamed Bd.named
  have hnm := (name_of_methodNamed Bd.named Bd.method).1
  have X0 : Stand p l e rr_car1 s m #[(.int p0), (.int p1), (.ref o2), (.int p3), (.ref o4)] below meth c s₁ [] 0 0 := Stand.of_body Bd
  have e0 : s₁.heap = h0 := by rw [← hh, Bd.state]; rfl
  have N0 := Fr.nil n0
  obtain ⟨G, step, ret, fin⟩ := own_open (p := p) (l := l) (e := e) (R := rr_car1) (s := s) (m := m) (args := #[(.int p0), (.int p1), (.ref o2), (.int p3), (.ref o4)]) (below := below) (meth := meth) (c := c) (rr_car1.cells) (rr_car1.slots) (Q_car1 Z w_COMPACT_STRINGS w_SIOOBE_FORMATTER p0 p1 o2 p3 o4 h0 n0) Bd.notSynchronized
  refine fin (g := entryFrame m #[(.int p0), (.int p1), (.ref o2), (.int p3), (.ref o4)] 5) ?_
  rw [ef_car1 m p0 p1 o2 p3 o4]
  show G s₁ (mkF m 0 #[.val (.int p0), .val (.int p1), .val (.ref o2), .val (.int p3), .val (.ref o4)] [])
  refine step (fun t k => XS.iloadN X0.here hx rfl (hb hby d4_0) rfl k) ?_
  show G s₁ (mkF m 1 #[.val (.int p0), .val (.int p1), .val (.ref o2), .val (.int p3), .val (.ref o4)] [(.int p0)])
  refine step (fun t k => XS.iloadN X0.here hx rfl (hb hby d4_1) rfl k) ?_
  show G s₁ (mkF m 2 #[.val (.int p0), .val (.int p1), .val (.ref o2), .val (.int p3), .val (.ref o4)] [(.int p1), (.int p0)])
  refine step (fun t k => XS.icmpYes X0.here hx rfl (pc0 := 2) (pc' := 27) rfl (hb hby d4_2) rfl (flt hge).2.1 (by decide) (by decide) k) ?_
  show G s₁ (mkF m 27 #[.val (.int p0), .val (.int p1), .val (.ref o2), .val (.int p3), .val (.ref o4)] [])
  refine step (fun t k => XS.iloadN X0.here hx rfl (hb hby d4_27) rfl k) ?_
  show G s₁ (mkF m 28 #[.val (.int p0), .val (.int p1), .val (.ref o2), .val (.int p3), .val (.ref o4)] [(.int p0)])
  refine step (fun t k => XS.iloadN X0.here hx rfl (hb hby d4_28) rfl k) ?_
  show G s₁ (mkF m 29 #[.val (.int p0), .val (.int p1), .val (.ref o2), .val (.int p3), .val (.ref o4)] [(.int p1), (.int p0)])
  refine step (fun t k => XS.icmpNo X0.here hx rfl (hb hby d4_29) rfl (flt hge).1 k) ?_
  show G s₁ (mkF m 32 #[.val (.int p0), .val (.int p1), .val (.ref o2), .val (.int p3), .val (.ref o4)] [])
  refine step (fun t k => XS.iconst X0.here hx rfl (hb hby d4_32) k) ?_
  show G s₁ (mkF m 33 #[.val (.int p0), .val (.int p1), .val (.ref o2), .val (.int p3), .val (.ref o4)] [(.int 1)])
  refine step (fun t k => XS.goto X0.here hx rfl (pc0 := 33) (pc' := 37) rfl (hb hby d4_33) (by decide) (by decide) k) ?_
  show G s₁ (mkF m 37 #[.val (.int p0), .val (.int p1), .val (.ref o2), .val (.int p3), .val (.ref o4)] [(.int 1)])
  exact ret (v := some (.int 1)) X0 (fun h => by rw [Bd.returns] at h; cases h) (fun fs hr => retN X0 hx (t := .boolean) Bd.returns (by simp) (hb hby d4_37) hr) e0 ⟨rfl, N0, rfl⟩ (by decide) (by decide)
theorem d4_5 : decode prog_36_method_3_code 5 = .ok (.iload_n 3, 1) := by decide +kernel
theorem d4_6 : decode prog_36_method_3_code 6 = .ok (.ifCond .ne 21, 3) := by decide +kernel
theorem d4_36 : decode prog_36_method_3_code 36 = .ok (.iconst 0, 1) := by decide +kernel
abbrev rr_car0 : Room := { frames := 0, cells := 0, slots := 0, locals := 0 }
theorem ef_car0 (m : MethodId) (p0 : Int32) (p1 : Int32) (o2 : Addr) (o4 : Addr) : entryFrame m #[(.int p0), (.int p1), (.ref o2), (.int 1), (.ref o4)] 5 = mkF m 0 #[.val (.int p0), .val (.int p1), .val (.ref o2), .val (.int 1), .val (.ref o4)] [] := by first | (simp [entryFrame, mkF, argsToLocals, Value.category]; done) | rfl
def f_car0 (w_COMPACT_STRINGS : Int32) (w_SIOOBE_FORMATTER : Value) (p0 : Int32) (p1 : Int32) (o2 : Addr) (o4 : Addr) : Int32 := (0 : Int32)
def Q_car0 (Z : State) (w_COMPACT_STRINGS : Int32) (w_SIOOBE_FORMATTER : Value) (p0 : Int32) (p1 : Int32) (o2 : Addr) (o4 : Addr) (h0 : Heap) (n0 : Nat) (v : Option Value) (h : Heap) (L : List Loc) : Prop := v = some (.int (f_car0 w_COMPACT_STRINGS w_SIOOBE_FORMATTER p0 p1 o2 o4)) ∧ Fr n0 L ∧ h = h0
set_option maxRecDepth 65536 in
set_option maxHeartbeats 40000000 in
theorem rm_car0 (l : Launch) (Z : State) (a0 : Array Value) (hw : ∀ d ∈ tables_1, d.before a0 Z = true) (ws : List Jvm.Cond) (w_COMPACT_STRINGS : Int32) (w_SIOOBE_FORMATTER : Value) (p0 : Int32) (p1 : Int32) (o2 : Addr) (o4 : Addr) (h0 : Heap) (n0 : Nat) (Z0 : n0 ≤ h0.size) (ST : own_St Z w_COMPACT_STRINGS w_SIOOBE_FORMATTER) (O0 : Old Z n0 h0) (hlt : p0 < p1) :
    MetFree l y_4 (head1 (Jvm.Cond.code y_4 prog_36_method_3_code 5 (some .boolean) :: ws) rr_car0) (fun a U => a = #[(.int p0), (.int p1), (.ref o2), (.int 1), (.ref o4)] ∧ Z.Warmed39 U.vm ∧ U.heap = h0) (fun _ _ _ _ _ => True) (fun _ U o U' => ∃ v L, o = .returned v ∧ Q_car0 Z w_COMPACT_STRINGS w_SIOOBE_FORMATTER p0 p1 o2 o4 h0 n0 v U'.heap L ∧ FrameEnd U o U' L rr_car0.cells rr_car0.slots) := by
  refine MetFree.of_bodySF (plainFor_of_name pn_2) hisR ?_
  intro p e s m args below meth c s₁ Bd hml0 hP hK
  obtain ⟨rfl, hZ, hh⟩ := hP
  have hx := Bd.exec
  have hby := Bd.bytes
  have hml : c.maxLocals = 5 := hml0
  have hown : s.vm.findClass cn_2 = some m.cls := findClass_of_methodNamed Bd.named
  have hnm := (name_of_methodNamed Bd.named Bd.method).1
  have X0 : Stand p l e rr_car0 s m #[(.int p0), (.int p1), (.ref o2), (.int 1), (.ref o4)] below meth c s₁ [] 0 0 := Stand.of_body Bd
  have e0 : s₁.heap = h0 := by rw [← hh, Bd.state]; rfl
  have N0 := Fr.nil n0
  obtain ⟨G, step, ret, fin⟩ := own_open (p := p) (l := l) (e := e) (R := rr_car0) (s := s) (m := m) (args := #[(.int p0), (.int p1), (.ref o2), (.int 1), (.ref o4)]) (below := below) (meth := meth) (c := c) (rr_car0.cells) (rr_car0.slots) (Q_car0 Z w_COMPACT_STRINGS w_SIOOBE_FORMATTER p0 p1 o2 o4 h0 n0) Bd.notSynchronized
  refine fin (g := entryFrame m #[(.int p0), (.int p1), (.ref o2), (.int 1), (.ref o4)] 5) ?_
  rw [ef_car0 m p0 p1 o2 o4]
  show G s₁ (mkF m 0 #[.val (.int p0), .val (.int p1), .val (.ref o2), .val (.int 1), .val (.ref o4)] [])
  refine step (fun t k => XS.iloadN X0.here hx rfl (hb hby d4_0) rfl k) ?_
  show G s₁ (mkF m 1 #[.val (.int p0), .val (.int p1), .val (.ref o2), .val (.int 1), .val (.ref o4)] [(.int p0)])
  refine step (fun t k => XS.iloadN X0.here hx rfl (hb hby d4_1) rfl k) ?_
  show G s₁ (mkF m 2 #[.val (.int p0), .val (.int p1), .val (.ref o2), .val (.int 1), .val (.ref o4)] [(.int p1), (.int p0)])
  refine step (fun t k => XS.icmpNo X0.here hx rfl (hb hby d4_2) rfl (tlt hlt).2.1 k) ?_
  show G s₁ (mkF m 5 #[.val (.int p0), .val (.int p1), .val (.ref o2), .val (.int 1), .val (.ref o4)] [])
  refine step (fun t k => XS.iloadN X0.here hx rfl (hb hby d4_5) rfl k) ?_
  show G s₁ (mkF m 6 #[.val (.int p0), .val (.int p1), .val (.ref o2), .val (.int 1), .val (.ref o4)] [(.int 1)])
  refine step (fun t k => XS.ifYes X0.here hx rfl (pc0 := 6) (pc' := 27) rfl (hb hby d4_6) rfl ((if0 _ _).trans (feq (by decide : ¬ ((1 : Int32) = (0 : Int32)))).2) (by decide) (by decide) k) ?_
  show G s₁ (mkF m 27 #[.val (.int p0), .val (.int p1), .val (.ref o2), .val (.int 1), .val (.ref o4)] [])
  refine step (fun t k => XS.iloadN X0.here hx rfl (hb hby d4_27) rfl k) ?_
  show G s₁ (mkF m 28 #[.val (.int p0), .val (.int p1), .val (.ref o2), .val (.int 1), .val (.ref o4)] [(.int p0)])
  refine step (fun t k => XS.iloadN X0.here hx rfl (hb hby d4_28) rfl k) ?_
  show G s₁ (mkF m 29 #[.val (.int p0), .val (.int p1), .val (.ref o2), .val (.int 1), .val (.ref o4)] [(.int p1), (.int p0)])
  refine step (fun t k => XS.icmpYes X0.here hx rfl (pc0 := 29) (pc' := 36) rfl (hb hby d4_29) rfl (tlt hlt).1 (by decide) (by decide) k) ?_
  show G s₁ (mkF m 36 #[.val (.int p0), .val (.int p1), .val (.ref o2), .val (.int 1), .val (.ref o4)] [])
  refine step (fun t k => XS.iconst X0.here hx rfl (hb hby d4_36) k) ?_
  show G s₁ (mkF m 37 #[.val (.int p0), .val (.int p1), .val (.ref o2), .val (.int 1), .val (.ref o4)] [(.int 0)])
  exact ret (v := some (.int 0)) X0 (fun h => by rw [Bd.returns] at h; cases h) (fun fs hr => retN X0 hx (t := .boolean) Bd.returns (by simp) (hb hby d4_37) hr) e0 ⟨rfl, N0, rfl⟩ (by decide) (by decide)
theorem own_df {p0 p1 : Int32} {df : Int64} (h : df = (p0.toInt64 - p1.toInt64)) : df < (0 : Int64) ↔ p0 < p1 := by
  have c1 := c_lsub p0.toInt64 p1.toInt64
  rw [← h, c_i2l, c_i2l] at c1
  have r0 := rng32 p0
  have r1 := rng32 p1
  have r2 := rng64 df
  have q : (0 : Int64).toInt = 0 := by decide
  rw [own_xltL, own_xlt]
  omega
abbrev y_5 : MethodName := ⟨cn_0, "<init>", "([C)V"⟩
theorem ww0 {Z : State} {a0 : Array Value} (hw : ∀ d ∈ tables_1, d.before a0 Z = true) : Jvm.Cond.before (Jvm.Cond.arrayClass Jvm.ClassFile.FieldType.char) a0 Z = true := hw _ (List.mem_of_getElem? (i := 0) rfl)
theorem ww1 {Z : State} {a0 : Array Value} (hw : ∀ d ∈ tables_1, d.before a0 Z = true) : Jvm.Cond.before (Jvm.Cond.classLink cn_1 (7 : Nat) cn_0) a0 Z = true := hw _ (List.mem_of_getElem? (i := 1) rfl)
theorem ww4 {Z : State} {a0 : Array Value} (hw : ∀ d ∈ tables_1, d.before a0 Z = true) : Jvm.Cond.before (Jvm.Cond.methodLink cn_1 (9 : Nat) ({ cls := cn_0, name := "<init>", desc := "([C)V" } : Jvm.MethodName)) a0 Z = true := hw _ (List.mem_of_getElem? (i := 4) rfl)
theorem ww6 {Z : State} {a0 : Array Value} (hw : ∀ d ∈ tables_1, d.before a0 Z = true) : Jvm.Cond.before (Jvm.Cond.code ({ cls := cn_0, name := "<init>", desc := "([C)V" } : Jvm.MethodName) jdk_42_method_3_code (2 : Nat) (Option.none : Option Jvm.ClassFile.FieldType)) a0 Z = true := hw _ (List.mem_of_getElem? (i := 6) rfl)
theorem pd_3 : parseMethodDescriptor "([C)V" = some ⟨[(.array .char)], none⟩ := by decide +kernel
theorem ww5 {Z : State} {a0 : Array Value} (hw : ∀ d ∈ tables_1, d.before a0 Z = true) : Jvm.Cond.before (Jvm.Cond.instanceMethod ({ cls := cn_0, name := "<init>", desc := "([C)V" } : Jvm.MethodName)) a0 Z = true := hw _ (List.mem_of_getElem? (i := 5) rfl)
theorem ww30 {Z : State} {a0 : Array Value} (hw : ∀ d ∈ tables_1, d.before a0 Z = true) : Jvm.Cond.before (Jvm.Cond.methodLink cn_1 (12 : Nat) ({ cls := cn_0, name := "valueOf", desc := cn_5 } : Jvm.MethodName)) a0 Z = true := hw _ (List.mem_of_getElem? (i := 30) rfl)
theorem ww32 {Z : State} {a0 : Array Value} (hw : ∀ d ∈ tables_1, d.before a0 Z = true) : Jvm.Cond.before (Jvm.Cond.code ({ cls := cn_0, name := "valueOf", desc := cn_5 } : Jvm.MethodName) jdk_42_method_139_code (1 : Nat) (Option.some (Jvm.ClassFile.FieldType.object cn_0))) a0 Z = true := hw _ (List.mem_of_getElem? (i := 32) rfl)
theorem pd_4 : parseMethodDescriptor cn_5 = some ⟨[.char], some (.object cn_0)⟩ := by decide +kernel
theorem ww31 {Z : State} {a0 : Array Value} (hw : ∀ d ∈ tables_1, d.before a0 Z = true) : Jvm.Cond.before (Jvm.Cond.static ({ cls := cn_0, name := "valueOf", desc := cn_5 } : Jvm.MethodName)) a0 Z = true := hw _ (List.mem_of_getElem? (i := 31) rfl)
theorem ww44 {Z : State} {a0 : Array Value} (hw : ∀ d ∈ tables_1, d.before a0 Z = true) : Jvm.Cond.before (Jvm.Cond.methodLink cn_1 (16 : Nat) ({ cls := cn_2, name := "carries", desc := cn_4 } : Jvm.MethodName)) a0 Z = true := hw _ (List.mem_of_getElem? (i := 44) rfl)
theorem ww47 {Z : State} {a0 : Array Value} (hw : ∀ d ∈ tables_1, d.before a0 Z = true) : Jvm.Cond.before (Jvm.Cond.code ({ cls := cn_2, name := "carries", desc := cn_4 } : Jvm.MethodName) prog_36_method_3_code (5 : Nat) (Option.some Jvm.ClassFile.FieldType.boolean)) a0 Z = true := hw _ (List.mem_of_getElem? (i := 47) rfl)
theorem ww46 {Z : State} {a0 : Array Value} (hw : ∀ d ∈ tables_1, d.before a0 Z = true) : Jvm.Cond.before (Jvm.Cond.initialized cn_2) a0 Z = true := hw _ (List.mem_of_getElem? (i := 46) rfl)
theorem pd_5 : parseMethodDescriptor cn_4 = some ⟨[.int, .int, (.object cn_0), .boolean, (.object cn_0)], some .boolean⟩ := by decide +kernel
theorem ww45 {Z : State} {a0 : Array Value} (hw : ∀ d ∈ tables_1, d.before a0 Z = true) : Jvm.Cond.before (Jvm.Cond.static ({ cls := cn_2, name := "carries", desc := cn_4 } : Jvm.MethodName)) a0 Z = true := hw _ (List.mem_of_getElem? (i := 45) rfl)
abbrev y_6 : MethodName := ⟨cn_1, "law", "(IIIII)Z"⟩
theorem pn_3 : plainName cn_1 = true := by first | (simp [plainName, overriddenIn]; done) | decide +kernel
theorem ef_law (m : MethodId) (p0 : Int32) (p1 : Int32) (p2 : Int32) (p3 : Int32) (p4 : Int32) : entryFrame m #[(.int p0), (.int p1), (.int p2), (.int p3), (.int p4)] maxLocals = mkF m 0 #[.val (.int p0), .val (.int p1), .val (.int p2), .val (.int p3), .val (.int p4), .unset, .unset, .unset, .unset, .unset, .unset, .unset, .unset] [] := by first | (simp [entryFrame, mkF, argsToLocals, Value.category, maxLocals]; done) | rfl
def Q_law (Z : State) (w_COMPACT_STRINGS : Int32) (w_SIOOBE_FORMATTER : Value) (p0 : Int32) (p1 : Int32) (p2 : Int32) (p3 : Int32) (p4 : Int32) (h0 : Heap) (n0 : Nat) (v : Option Value) (h : Heap) (L : List Loc) : Prop := v = some (.int 1) ∧ Fr n0 L
set_option maxRecDepth 65536 in
set_option maxHeartbeats 40000000 in
theorem rm_law (l : Launch) (Z : State) (a0 : Array Value) (hw : ∀ d ∈ tables_1, d.before a0 Z = true) (ws : List Jvm.Cond) (w_COMPACT_STRINGS : Int32) (w_SIOOBE_FORMATTER : Value) (p0 : Int32) (p1 : Int32) (p2 : Int32) (p3 : Int32) (p4 : Int32) (h0 : Heap) (n0 : Nat) (Z0 : n0 ≤ h0.size) (ST : own_St Z w_COMPACT_STRINGS w_SIOOBE_FORMATTER) (O0 : Old Z n0 h0) :
    MetFree l x (head1 (Jvm.Cond.code x code maxLocals ret :: ws) room_1) (fun a U => a = #[(.int p0), (.int p1), (.int p2), (.int p3), (.int p4)] ∧ Z.Warmed39 U.vm ∧ U.heap = h0) (fun _ _ _ _ _ => True) (fun _ U o U' => ∃ v L, o = .returned v ∧ Q_law Z w_COMPACT_STRINGS w_SIOOBE_FORMATTER p0 p1 p2 p3 p4 h0 n0 v U'.heap L ∧ FrameEnd U o U' L 5 13) := by
  refine MetFree.of_bodySF (plainFor_of_name pn_3) hisR ?_
  intro p e s m args below meth c s₁ Bd hml0 hP hK
  obtain ⟨rfl, hZ, hh⟩ := hP
  have hx := Bd.exec
  have hby := Bd.bytes
  have hml : c.maxLocals = 13 := hml0
  have hown : s.vm.findClass cn_1 = some m.cls := findClass_of_methodNamed Bd.named
  have hnm := (name_of_methodNamed Bd.named Bd.method).1
  have X0 : Stand p l e room_1 s m #[(.int p0), (.int p1), (.int p2), (.int p3), (.int p4)] below meth c s₁ [] 0 0 := Stand.of_body Bd
  have e0 : s₁.heap = h0 := by rw [← hh, Bd.state]; rfl
  have N0 := Fr.nil n0
  obtain ⟨G, step, ret, fin⟩ := own_open (p := p) (l := l) (e := e) (R := room_1) (s := s) (m := m) (args := #[(.int p0), (.int p1), (.int p2), (.int p3), (.int p4)]) (below := below) (meth := meth) (c := c) (5) (13) (Q_law Z w_COMPACT_STRINGS w_SIOOBE_FORMATTER p0 p1 p2 p3 p4 h0 n0) Bd.notSynchronized
  refine fin (g := entryFrame m #[(.int p0), (.int p1), (.int p2), (.int p3), (.int p4)] maxLocals) ?_
  rw [ef_law m p0 p1 p2 p3 p4]
  obtain ⟨ls0, hls0⟩  := own_sl #[.val (.int p0), .val (.int p1), .val (.int p2), .val (.int p3), .val (.int p4), .unset, .unset, .unset, .unset, .unset, .unset, .unset, .unset]
  suffices hG0 : G s₁ (mkF m 0 ls0 []) by rw [hls0] at hG0; exact hG0
  show G s₁ (mkF m 0 ls0 [])
  refine step (fun t k => XS.iloadN X0.here hx rfl (hb hby at_0) (by rw [hls0]; rfl) k) ?_
  show G s₁ (mkF m 1 ls0 [(.int p0)])
  refine step (fun t k => XS.i2l X0.here hx rfl (hb hby at_1) rfl k) ?_
  show G s₁ (mkF m 2 ls0 [(.long (p0.toInt64))])
  refine step (fun t k => XS.iloadN X0.here hx rfl (hb hby at_2) (by rw [hls0]; rfl) k) ?_
  show G s₁ (mkF m 3 ls0 [(.int p1), (.long (p0.toInt64))])
  refine step (fun t k => XS.i2l X0.here hx rfl (hb hby at_3) rfl k) ?_
  show G s₁ (mkF m 4 ls0 [(.long (p1.toInt64)), (.long (p0.toInt64))])
  refine step (fun t k => XS.lsub X0.here hx rfl (hb hby at_4) rfl k) ?_
  show G s₁ (mkF m 5 ls0 [(.long ((p0.toInt64) - (p1.toInt64)))])
  obtain ⟨ls1, hls1⟩  := own_sl #[.val (.int p0), .val (.int p1), .val (.int p2), .val (.int p3), .val (.int p4), .val (.long ((p0.toInt64) - (p1.toInt64))), .second, .unset, .unset, .unset, .unset, .unset, .unset]
  refine step (fun t k => XS.lstore X0.here hx rfl (hb hby at_5) rfl (l' := ls1) (by rw [hls0, hls1]; rfl) k) ?_
  show G s₁ (mkF m 7 ls1 [])
  obtain ⟨df, hdf⟩ : ∃ z : Int64, z = ((p0.toInt64) - (p1.toInt64)) := ⟨_, rfl⟩
  obtain ⟨ls2, hls2⟩  := own_sl #[.val (.int p0), .val (.int p1), .val (.int p2), .val (.int p3), .val (.int p4), .val (.long df), .second, .unset, .unset, .unset, .unset, .unset, .unset]
  rw [show ls1 = ls2 from by rw [hls1, hls2, hdf]]
  show G s₁ (mkF m 7 ls2 [])
  refine step (fun t k => XS.lload X0.here hx rfl (hb hby at_7) (by rw [hls2]; rfl) k) ?_
  show G s₁ (mkF m 9 ls2 [(.long df)])
  refine step (fun t k => XS.lconst X0.here hx rfl (hb hby at_9) k) ?_
  show G s₁ (mkF m 10 ls2 [(.long 0), (.long df)])
  refine step (fun t k => XS.lcmp X0.here hx rfl (hb hby at_10) rfl k) ?_
  show G s₁ (mkF m 11 ls2 [(.int (lcmpW df (0 : Int64)))])
  by_cases hc3 : df < (0 : Int64)
  · skip
    refine step (fun t k => XS.ifYes X0.here hx rfl (pc0 := 11) (pc' := 18) rfl (hb hby at_11) rfl ((if0 _ _).trans (tlt ((lw_lt _ _).mpr hc3)).1) (by decide) (by decide) k) ?_
    show G s₁ (mkF m 18 ls2 [])
    refine step (fun t k => XS.iconst X0.here hx rfl (hb hby at_18) k) ?_
    show G s₁ (mkF m 19 ls2 [(.int 0)])
    obtain ⟨ls4, hls4⟩  := own_sl #[.val (.int p0), .val (.int p1), .val (.int p2), .val (.int p3), .val (.int p4), .val (.long df), .second, .val (.int 0), .unset, .unset, .unset, .unset, .unset]
    refine step (fun t k => XS.istore X0.here hx rfl (hb hby at_19) rfl (l' := ls4) (by rw [hls2, hls4]; rfl) k) ?_
    show G s₁ (mkF m 21 ls4 [])
    refine step (fun t k => XS.iload X0.here hx rfl (hb hby at_21) (by rw [hls4]; rfl) k) ?_
    show G s₁ (mkF m 23 ls4 [(.int 0)])
    refine step (fun t k => XS.ifYes X0.here hx rfl (pc0 := 23) (pc' := 32) rfl (hb hby at_23) rfl ((if0 _ _).trans (teq (by decide : (0 : Int32) = (0 : Int32))).1) (by decide) (by decide) k) ?_
    show G s₁ (mkF m 32 ls4 [])
    refine step (fun t k => XS.iconst X0.here hx rfl (hb hby at_32) k) ?_
    show G s₁ (mkF m 33 ls4 [(.int 1)])
    refine step (fun t k => XS.goto X0.here hx rfl (pc0 := 33) (pc' := 37) rfl (hb hby at_33) (by decide) (by decide) k) ?_
    show G s₁ (mkF m 37 ls4 [(.int 1)])
    obtain ⟨ls5, hls5⟩  := own_sl #[.val (.int p0), .val (.int p1), .val (.int p2), .val (.int p3), .val (.int p4), .val (.long df), .second, .val (.int 0), .val (.int 1), .unset, .unset, .unset, .unset]
    refine step (fun t k => XS.istore X0.here hx rfl (hb hby at_37) rfl (l' := ls5) (by rw [hls4, hls5]; rfl) k) ?_
    show G s₁ (mkF m 39 ls5 [])
    refine step (fun t k => XS.iconst X0.here hx rfl (hb hby at_39) k) ?_
    show G s₁ (mkF m 40 ls5 [(.int 2)])
    obtain ⟨T6, h6, k6, X6, e6, E6, A6, B6, st6⟩ := newPE (aty := .char) X0 hx hZ (ww0 hw) e0 (g := (mkF m 40 ls5 [(.int 2)])) rfl (hb hby at_40) rfl (by decide) (cap := 2) (by decide) (by decide) (by decide) (by decide) (ad := "[C") (by decide)
    obtain ⟨b6, g6⟩ : ∃ z, z = h0.size := ⟨_, rfl⟩
    rw [← g6] at A6 B6 st6
    have V6 : Arv Z h6 b6 k6 .char (2 : Int32) [(.int 0), (.int 0)] (.int 0) := (Arv.new A6 (by decide)).pad (pad_rep [] (.int 0) 2)
    have ge_b6 : n0 ≤ b6 := Nat.le_trans (own_old_le O0) (Nat.le_of_eq g6.symm)
    have O6 := O0.ext E6
    refine step st6 ?_
    show G T6 (mkF m 42 ls5 [(.ref b6)])
    obtain ⟨ls7, hls7⟩  := own_sl #[.val (.int p0), .val (.int p1), .val (.int p2), .val (.int p3), .val (.int p4), .val (.long df), .second, .val (.int 0), .val (.int 1), .val (.ref b6), .unset, .unset, .unset]
    refine step (fun t k => XS.astore X6.here hx rfl (hb hby at_42) rfl rfl (l' := ls7) (by rw [hls5, hls7]; rfl) k) ?_
    show G T6 (mkF m 44 ls7 [])
    refine step (fun t k => XS.aload X6.here hx rfl (hb hby at_44) (by rw [hls7]; rfl) rfl k) ?_
    show G T6 (mkF m 46 ls7 [(.ref b6)])
    refine step (fun t k => XS.iconst X6.here hx rfl (hb hby at_46) k) ?_
    show G T6 (mkF m 47 ls7 [(.int 0), (.ref b6)])
    refine step (fun t k => XS.iloadN X6.here hx rfl (hb hby at_47) (by rw [hls7]; rfl) k) ?_
    show G T6 (mkF m 48 ls7 [(.int p3), (.int 0), (.ref b6)])
    refine step (fun t k => XS.sipush X6.here hx rfl (hb hby at_48) k) ?_
    show G T6 (mkF m 51 ls7 [(.int 255), (.int p3), (.int 0), (.ref b6)])
    refine step (fun t k => XS.iand X6.here hx rfl (hb hby at_51) rfl k) ?_
    show G T6 (mkF m 52 ls7 [(.int (p3 &&& (255 : Int32))), (.int 0), (.ref b6)])
    refine step (fun t k => XS.i2c X6.here hx rfl (hb hby at_52) rfl k) ?_
    show G T6 (mkF m 53 ls7 [(.int ((p3 &&& (255 : Int32)).toUInt32.toUInt16.toUInt32.toInt32)), (.int 0), (.ref b6)])
    rw [own_i2c (own_and255 p3)]
    show G T6 (mkF m 53 ls7 [(.int (p3 &&& (255 : Int32))), (.int 0), (.ref b6)])
    obtain ⟨T8, h8, X8, e8, W8, V8, st8⟩ := own_stC X6 hx hZ e6 V6 (j := (0 : Int32)) (by decide) (i := 0) rfl (by show 0 < 2; decide) (g := (mkF m 53 ls7 [(.int (p3 &&& (255 : Int32))), (.int 0), (.ref b6)])) rfl rfl (hb hby at_53)
    replace V8 : Arv Z h8 b6 k6 .char (2 : Int32) [(.int (p3 &&& (255 : Int32))), (.int 0)] (.int 0) := by rw [own_narc (own_and255 p3)] at V8; exact V8
    have N8 := Fr.snoc X8 N0 ge_b6
    obtain ⟨lc8, X8, N8⟩ := own_gen X8 N8
    have O8 := O6.wr W8 ge_b6
    refine step st8 ?_
    show G T8 (mkF m 54 ls7 [])
    refine step (fun t k => XS.aload X8.here hx rfl (hb hby at_54) (by rw [hls7]; rfl) rfl k) ?_
    show G T8 (mkF m 56 ls7 [(.ref b6)])
    refine step (fun t k => XS.iconst X8.here hx rfl (hb hby at_56) k) ?_
    show G T8 (mkF m 57 ls7 [(.int 1), (.ref b6)])
    refine step (fun t k => XS.iloadN X8.here hx rfl (hb hby at_57) (by rw [hls7]; rfl) k) ?_
    show G T8 (mkF m 58 ls7 [(.int p3), (.int 1), (.ref b6)])
    refine step (fun t k => XS.bipush X8.here hx rfl (hb hby at_58) k) ?_
    show G T8 (mkF m 60 ls7 [(.int 8), (.int p3), (.int 1), (.ref b6)])
    refine step (fun t k => XS.iushr X8.here hx rfl (hb hby at_60) rfl k) ?_
    show G T8 (mkF m 61 ls7 [(.int ((p3.toUInt32 >>> ((8 : Int32) &&& 31).toUInt32).toInt32)), (.int 1), (.ref b6)])
    refine step (fun t k => XS.sipush X8.here hx rfl (hb hby at_61) k) ?_
    show G T8 (mkF m 64 ls7 [(.int 255), (.int ((p3.toUInt32 >>> ((8 : Int32) &&& 31).toUInt32).toInt32)), (.int 1), (.ref b6)])
    refine step (fun t k => XS.iand X8.here hx rfl (hb hby at_64) rfl k) ?_
    show G T8 (mkF m 65 ls7 [(.int (((p3.toUInt32 >>> ((8 : Int32) &&& 31).toUInt32).toInt32) &&& (255 : Int32))), (.int 1), (.ref b6)])
    refine step (fun t k => XS.i2c X8.here hx rfl (hb hby at_65) rfl k) ?_
    show G T8 (mkF m 66 ls7 [(.int ((((p3.toUInt32 >>> ((8 : Int32) &&& 31).toUInt32).toInt32) &&& (255 : Int32)).toUInt32.toUInt16.toUInt32.toInt32)), (.int 1), (.ref b6)])
    rw [own_i2c (own_and255 ((p3.toUInt32 >>> ((8 : Int32) &&& 31).toUInt32).toInt32))]
    show G T8 (mkF m 66 ls7 [(.int (((p3.toUInt32 >>> ((8 : Int32) &&& 31).toUInt32).toInt32) &&& (255 : Int32))), (.int 1), (.ref b6)])
    obtain ⟨T9, h9, X9, e9, W9, V9, st9⟩ := own_stC X8 hx hZ e8 V8 (j := (1 : Int32)) (by decide) (i := 1) rfl (by show 1 < 2; decide) (g := (mkF m 66 ls7 [(.int (((p3.toUInt32 >>> ((8 : Int32) &&& 31).toUInt32).toInt32) &&& (255 : Int32))), (.int 1), (.ref b6)])) rfl rfl (hb hby at_66)
    replace V9 : Arv Z h9 b6 k6 .char (2 : Int32) [(.int (p3 &&& (255 : Int32))), (.int (((p3.toUInt32 >>> ((8 : Int32) &&& 31).toUInt32).toInt32) &&& (255 : Int32)))] (.int 0) := by rw [own_narc (own_and255 ((p3.toUInt32 >>> ((8 : Int32) &&& 31).toUInt32).toInt32))] at V9; exact V9
    have N9 := Fr.snoc X9 N8 ge_b6
    obtain ⟨lc9, X9, N9⟩ := own_gen X9 N9
    have O9 := O8.wr W9 ge_b6
    refine step st9 ?_
    show G T9 (mkF m 67 ls7 [])
    have f11 := (Exa.wr W9 (Exa.wr W8 B6))
    obtain ⟨T10, h10, X10, e10, E10, A10, D10, -, st10⟩ := newO X9 hx hZ hown (ww1 hw) (ww2 hw) (ww3 hw) e9 (g := (mkF m 67 ls7 [])) rfl (hb hby at_67) (by decide) (by decide)
    obtain ⟨b10, g10⟩ : ∃ z, z = h9.size := ⟨_, rfl⟩
    rw [← g10] at A10 D10 st10
    have ge_b10 : n0 ≤ b10 := Nat.le_trans (own_old_le O9) (Nat.le_of_eq g10.symm)
    have lt_b6_b10 : b6 < b10 := Nat.lt_of_lt_of_le f11.lt (Nat.le_of_eq g10.symm)
    have O10 := O9.ext E10
    have F10_coder : Fld Z h10 b10 cn_0 "coder" "B" (.int 0) := D10 (Or.inr (ww27 hw)) (ty := .byte) (by decide)
    have F10_value : Fld Z h10 b10 cn_0 "value" "[B" .null := D10 (Or.inr (ww29 hw)) (ty := (.array .byte)) (by decide)
    refine step st10 ?_
    show G T10 (mkF m 70 ls7 [(.ref b10)])
    refine step (fun t k => XS.dup X10.here hx rfl (hb hby at_70) rfl rfl k) ?_
    show G T10 (mkF m 71 ls7 [(.ref b10), (.ref b10)])
    refine step (fun t k => XS.aload X10.here hx rfl (hb hby at_71) (by rw [hls7]; rfl) rfl k) ?_
    show G T10 (mkF m 73 ls7 [(.ref b6), (.ref b10), (.ref b10)])
    have f13 := (V9.ext E10)
    have f14 := (Exa.ext E10 f11)
    have hK12 := (StrChars.Road.backV (l := l) (R := room_1) (p := p) (e := e) (below := below) (s := s) (args := #[(.int p0), (.int p1), (.int p2), (.int p3), (.int p4)]) (len := 3) (W := 1) hZ (own_hwV hw) (kI := 4) (ww2 hw) (cs := [(p3 &&& (255 : Int32)), (((p3.toUInt32 >>> ((8 : Int32) &&& 31).toUInt32).toInt32) &&& (255 : Int32))]) (bs := [((p3 &&& (255 : Int32)).toInt8.toInt32), ((((p3.toUInt32 >>> ((8 : Int32) &&& 31).toUInt32).toInt32) &&& (255 : Int32)).toInt8.toInt32)]) (n := 2) ge_b10 (own_old_le O10) A10 F10_value F10_coder f13 (Sta.ext O10.2 ST.k0) ST.k3 rfl rfl (by decide) (by decide) (List.forall_mem_cons.mpr ⟨(own_and255 p3), (List.forall_mem_cons.mpr ⟨(own_and255 ((p3.toUInt32 >>> ((8 : Int32) &&& 31).toUInt32).toInt32)), (fun _ h => nomatch h)⟩)⟩) rfl (by decide) (by decide))
    obtain ⟨_, _, ⟨T12, L12, k12, n12⟩, -, X12, ⟨Lc12, hQ12, l12, y12, z12⟩, st12⟩ := X10.specialBack hx (y := y_5) rfl hown (mvT hZ (ww4 hw)) (mvT hZ (ww5 hw)) (mvT hZ (ww6 hw)) (by decide) hK12 (g := (mkF m 73 ls7 [(.ref b6), (.ref b10), (.ref b10)])) rfl (by rw [hml, hls7]; rfl) (Steps.refl _) (a := b10) (argsL := [(.ref b6)]) (rest := [(.ref b10)]) (lenOf pd_3 rfl) rfl (by show 2 * 0 + _ ≤ _; exact Nat.le_of_eq rfl) (hb hby at_73) (fun _ _ => ⟨rfl, e10, (by decide : 2 + 1 ≤ _), (by decide : 6 + 2 ≤ _)⟩)
    dsimp only [Pt.U, Pt.locs, Pt.cells, Pt.slots] at X12 l12 y12 z12 st12 hQ12
    subst l12 y12 z12
    obtain ⟨rfl, N12q, K12q, Es12, Cs12, b12, kb12, gt12, gh12, -, Fv12, Vb12⟩ := hQ12
    have N12 := Fr.app N9 N12q
    obtain ⟨lc12, X12, N12⟩ := own_gen X12 N12
    replace Vb12 : Arv Z T12.heap b12 kb12 .byte (2 : Int32) [(.int ((p3 &&& (255 : Int32)).toInt8.toInt32)), (.int ((((p3.toUInt32 >>> ((8 : Int32) &&& 31).toUInt32).toInt32) &&& (255 : Int32)).toInt8.toInt32))] (.int 0) := Vb12
    have lt_b10_b12 : b10 < b12 := Nat.lt_of_lt_of_le A10.lt gh12
    have lt_b6_b12 : b6 < b12 := Nat.lt_of_lt_of_le f14.lt gh12
    have O12 := O10.keep K12q (allS ge_b10 all0)
    refine step (fun t k => st12.trans k) ?_
    show G T12 (mkF m 76 ls7 [(.ref b10)])
    obtain ⟨ls15, hls15⟩  := own_sl #[.val (.int p0), .val (.int p1), .val (.int p2), .val (.int p3), .val (.int p4), .val (.long df), .second, .val (.int 0), .val (.int 1), .val (.ref b6), .val (.ref b10), .unset, .unset]
    refine step (fun t k => XS.astore X12.here hx rfl (hb hby at_76) rfl rfl (l' := ls15) (by rw [hls7, hls15]; rfl) k) ?_
    show G T12 (mkF m 78 ls15 [])
    refine step (fun t k => XS.iload X12.here hx rfl (hb hby at_78) (by rw [hls15]; rfl) k) ?_
    show G T12 (mkF m 80 ls15 [(.int p4)])
    refine step (fun t k => XS.sipush X12.here hx rfl (hb hby at_80) k) ?_
    show G T12 (mkF m 83 ls15 [(.int 255), (.int p4)])
    refine step (fun t k => XS.iand X12.here hx rfl (hb hby at_83) rfl k) ?_
    show G T12 (mkF m 84 ls15 [(.int (p4 &&& (255 : Int32)))])
    refine step (fun t k => XS.i2c X12.here hx rfl (hb hby at_84) rfl k) ?_
    show G T12 (mkF m 85 ls15 [(.int ((p4 &&& (255 : Int32)).toUInt32.toUInt16.toUInt32.toInt32))])
    rw [own_i2c (own_and255 p4)]
    show G T12 (mkF m 85 ls15 [(.int (p4 &&& (255 : Int32)))])
    have hK16 := (backOf (R := room_1) (p := p) (e := e) (below := below) (s := s) (args := #[(.int p0), (.int p1), (.int p2), (.int p3), (.int p4)]) (len := 3) (W := 0) (rm_val l Z a0 hw [] w_COMPACT_STRINGS w_SIOOBE_FORMATTER (p4 &&& (255 : Int32)) T12.heap n0 (own_old_le O12) ST O12 ((own_and255 p4).2 : ¬ ((255 : Int32) < (p4 &&& (255 : Int32))))) hZ (ww32 hw) (ww3 hw) (by decide) (by decide))
    obtain ⟨_, _, ⟨T16, L16, k16, n16⟩, -, X16, ⟨Lc16, hQ16, l16, y16, z16⟩, st16⟩ := Jvm.LawKit.callS X12 hx (y := y_3) hown (mvT hZ (ww30 hw)) (mvT hZ (ww31 hw)) (mvT hZ (ww3 hw)) (mvT hZ (ww32 hw)) (by decide) hK16 (g := (mkF m 85 ls15 [(.int (p4 &&& (255 : Int32)))])) rfl (by rw [hml, hls15]; rfl) (argsL := [(.int (p4 &&& (255 : Int32)))]) (rest := []) (lenOf pd_4 rfl) rfl (by show 2 * 0 + _ ≤ _; exact Nat.le_of_eq rfl) (hb hby at_85) (fun _ _ => ⟨rfl, rfl, (by decide : 3 + 2 ≤ _), (by decide : 8 + 5 ≤ _)⟩)
    dsimp only [Pt.U, Pt.locs, Pt.cells, Pt.slots] at X16 l16 y16 z16 st16 hQ16
    subst l16 y16 z16
    have f17 := (Exa.keep f14 K12q)
    obtain ⟨b16, rfl, N16q, K16q, Y16_0, Y16_1⟩ := hQ16
    have N16 := Fr.app N12 N16q
    obtain ⟨lc16, X16, N16⟩ := own_gen X16 N16
    have O16 := O12.keep K16q all0
    have ge_b16 : n0 ≤ b16 := Nat.le_trans (own_old_le O12) Y16_0
    have lt_b10_b16 : b10 < b16 := Nat.lt_of_lt_of_le Es12.lt Y16_0
    have lt_b12_b16 : b12 < b16 := Nat.lt_of_lt_of_le Vb12.lt Y16_0
    have lt_b6_b16 : b6 < b16 := Nat.lt_of_lt_of_le f17.lt Y16_0
    refine step (fun t k => st16 t k) ?_
    show G T16 (mkF m 88 ls15 [(.ref b16)])
    obtain ⟨ls18, hls18⟩  := own_sl #[.val (.int p0), .val (.int p1), .val (.int p2), .val (.int p3), .val (.int p4), .val (.long df), .second, .val (.int 0), .val (.int 1), .val (.ref b6), .val (.ref b10), .val (.ref b16), .unset]
    refine step (fun t k => XS.astore X16.here hx rfl (hb hby at_88) rfl rfl (l' := ls18) (by rw [hls15, hls18]; rfl) k) ?_
    show G T16 (mkF m 90 ls18 [])
    refine step (fun t k => XS.iloadN X16.here hx rfl (hb hby at_90) (by rw [hls18]; rfl) k) ?_
    show G T16 (mkF m 91 ls18 [(.int p0)])
    refine step (fun t k => XS.iloadN X16.here hx rfl (hb hby at_91) (by rw [hls18]; rfl) k) ?_
    show G T16 (mkF m 92 ls18 [(.int p1), (.int p0)])
    refine step (fun t k => XS.aload X16.here hx rfl (hb hby at_92) (by rw [hls18]; rfl) rfl k) ?_
    show G T16 (mkF m 94 ls18 [(.ref b10), (.int p1), (.int p0)])
    refine step (fun t k => XS.iload X16.here hx rfl (hb hby at_94) (by rw [hls18]; rfl) k) ?_
    show G T16 (mkF m 96 ls18 [(.int 1), (.ref b10), (.int p1), (.int p0)])
    refine step (fun t k => XS.aload X16.here hx rfl (hb hby at_96) (by rw [hls18]; rfl) rfl k) ?_
    show G T16 (mkF m 98 ls18 [(.ref b16), (.int 1), (.ref b10), (.int p1), (.int p0)])
    have hK19 := (backOf (R := room_1) (p := p) (e := e) (below := below) (s := s) (args := #[(.int p0), (.int p1), (.int p2), (.int p3), (.int p4)]) (len := 3) (W := 0) (rm_car0 l Z a0 hw [] w_COMPACT_STRINGS w_SIOOBE_FORMATTER p0 p1 b10 b16 T16.heap n0 (own_old_le O16) ST O16 (((own_df hdf).mp hc3) : p0 < p1)) hZ (ww47 hw) (ww46 hw) (by decide) (by decide))
    obtain ⟨_, _, ⟨T19, L19, k19, n19⟩, -, X19, ⟨Lc19, hQ19, l19, y19, z19⟩, st19⟩ := Jvm.LawKit.callS X16 hx (y := y_4) hown (mvT hZ (ww44 hw)) (mvT hZ (ww45 hw)) (mvT hZ (ww46 hw)) (mvT hZ (ww47 hw)) (by decide) hK19 (g := (mkF m 98 ls18 [(.ref b16), (.int 1), (.ref b10), (.int p1), (.int p0)])) rfl (by rw [hml, hls18]; rfl) (argsL := [(.int p0), (.int p1), (.ref b10), (.int 1), (.ref b16)]) (rest := []) (lenOf pd_5 rfl) rfl (by show 2 * 0 + _ ≤ _; exact Nat.le_of_eq rfl) (hb hby at_98) (fun _ _ => ⟨rfl, rfl, (by decide : 5 + 0 ≤ _), (by decide : 13 + 0 ≤ _)⟩)
    dsimp only [Pt.U, Pt.locs, Pt.cells, Pt.slots] at X19 l19 y19 z19 st19 hQ19
    subst l19 y19 z19
    obtain ⟨rfl, N19q, e19⟩ := hQ19
    have N19 := Fr.app N16 N19q
    obtain ⟨lc19, X19, N19⟩ := own_gen X19 N19
    refine step (fun t k => st19 t k) ?_
    show G T19 (mkF m 101 ls18 [(.int (f_car0 w_COMPACT_STRINGS w_SIOOBE_FORMATTER p0 p1 b10 b16))])
    have r20 : (f_car0 w_COMPACT_STRINGS w_SIOOBE_FORMATTER p0 p1 b10 b16) = (0 : Int32) := rfl
    rw [r20]
    show G T19 (mkF m 101 ls18 [(.int 0)])
    obtain ⟨ls21, hls21⟩  := own_sl #[.val (.int p0), .val (.int p1), .val (.int p2), .val (.int p3), .val (.int p4), .val (.long df), .second, .val (.int 0), .val (.int 1), .val (.ref b6), .val (.ref b10), .val (.ref b16), .val (.int 0)]
    refine step (fun t k => XS.istore X19.here hx rfl (hb hby at_101) rfl (l' := ls21) (by rw [hls18, hls21]; rfl) k) ?_
    show G T19 (mkF m 103 ls21 [])
    refine step (fun t k => XS.iload X19.here hx rfl (hb hby at_103) (by rw [hls21]; rfl) k) ?_
    show G T19 (mkF m 105 ls21 [(.int 0)])
    refine step (fun t k => XS.iload X19.here hx rfl (hb hby at_105) (by rw [hls21]; rfl) k) ?_
    show G T19 (mkF m 107 ls21 [(.int 0), (.int 0)])
    refine step (fun t k => XS.icmpNo X19.here hx rfl (hb hby at_107) rfl (teq (by decide : (0 : Int32) = (0 : Int32))).2 k) ?_
    show G T19 (mkF m 110 ls21 [])
    refine step (fun t k => XS.iconst X19.here hx rfl (hb hby at_110) k) ?_
    show G T19 (mkF m 111 ls21 [(.int 1)])
    refine step (fun t k => XS.goto X19.here hx rfl (pc0 := 111) (pc' := 115) rfl (hb hby at_111) (by decide) (by decide) k) ?_
    show G T19 (mkF m 115 ls21 [(.int 1)])
    exact ret (v := some (.int 1)) X19 (fun h => by rw [Bd.returns] at h; cases h) (fun fs hr => retN X19 hx (t := .boolean) Bd.returns (by simp) (hb hby at_115) hr) e19 ⟨rfl, N19⟩ (by decide) (by decide)
  · skip
    refine step (fun t k => XS.ifNo X0.here hx rfl (hb hby at_11) rfl ((if0 _ _).trans (flt (fun q => hc3 ((lw_lt _ _).mp q))).1) k) ?_
    show G s₁ (mkF m 14 ls2 [])
    refine step (fun t k => XS.iconst X0.here hx rfl (hb hby at_14) k) ?_
    show G s₁ (mkF m 15 ls2 [(.int 1)])
    refine step (fun t k => XS.goto X0.here hx rfl (pc0 := 15) (pc' := 19) rfl (hb hby at_15) (by decide) (by decide) k) ?_
    show G s₁ (mkF m 19 ls2 [(.int 1)])
    obtain ⟨ls22, hls22⟩  := own_sl #[.val (.int p0), .val (.int p1), .val (.int p2), .val (.int p3), .val (.int p4), .val (.long df), .second, .val (.int 1), .unset, .unset, .unset, .unset, .unset]
    refine step (fun t k => XS.istore X0.here hx rfl (hb hby at_19) rfl (l' := ls22) (by rw [hls2, hls22]; rfl) k) ?_
    show G s₁ (mkF m 21 ls22 [])
    refine step (fun t k => XS.iload X0.here hx rfl (hb hby at_21) (by rw [hls22]; rfl) k) ?_
    show G s₁ (mkF m 23 ls22 [(.int 1)])
    refine step (fun t k => XS.ifNo X0.here hx rfl (hb hby at_23) rfl ((if0 _ _).trans (feq (by decide : ¬ ((1 : Int32) = (0 : Int32)))).1) k) ?_
    show G s₁ (mkF m 26 ls22 [])
    refine step (fun t k => XS.iloadN X0.here hx rfl (hb hby at_26) (by rw [hls22]; rfl) k) ?_
    show G s₁ (mkF m 27 ls22 [(.int p2)])
    refine step (fun t k => XS.iconst X0.here hx rfl (hb hby at_27) k) ?_
    show G s₁ (mkF m 28 ls22 [(.int 1), (.int p2)])
    refine step (fun t k => XS.iand X0.here hx rfl (hb hby at_28) rfl k) ?_
    show G s₁ (mkF m 29 ls22 [(.int (p2 &&& (1 : Int32)))])
    by_cases hc23 : (p2 &&& (1 : Int32)) = (0 : Int32)
    · skip
      refine step (fun t k => XS.ifYes X0.here hx rfl (pc0 := 29) (pc' := 36) rfl (hb hby at_29) rfl ((if0 _ _).trans (teq hc23).1) (by decide) (by decide) k) ?_
      show G s₁ (mkF m 36 ls22 [])
      refine step (fun t k => XS.iconst X0.here hx rfl (hb hby at_36) k) ?_
      show G s₁ (mkF m 37 ls22 [(.int 0)])
      obtain ⟨ls24, hls24⟩  := own_sl #[.val (.int p0), .val (.int p1), .val (.int p2), .val (.int p3), .val (.int p4), .val (.long df), .second, .val (.int 1), .val (.int 0), .unset, .unset, .unset, .unset]
      refine step (fun t k => XS.istore X0.here hx rfl (hb hby at_37) rfl (l' := ls24) (by rw [hls22, hls24]; rfl) k) ?_
      show G s₁ (mkF m 39 ls24 [])
      refine step (fun t k => XS.iconst X0.here hx rfl (hb hby at_39) k) ?_
      show G s₁ (mkF m 40 ls24 [(.int 2)])
      obtain ⟨T25, h25, k25, X25, e25, E25, A25, B25, st25⟩ := newPE (aty := .char) X0 hx hZ (ww0 hw) e0 (g := (mkF m 40 ls24 [(.int 2)])) rfl (hb hby at_40) rfl (by decide) (cap := 2) (by decide) (by decide) (by decide) (by decide) (ad := "[C") (by decide)
      obtain ⟨b25, g25⟩ : ∃ z, z = h0.size := ⟨_, rfl⟩
      rw [← g25] at A25 B25 st25
      have V25 : Arv Z h25 b25 k25 .char (2 : Int32) [(.int 0), (.int 0)] (.int 0) := (Arv.new A25 (by decide)).pad (pad_rep [] (.int 0) 2)
      have ge_b25 : n0 ≤ b25 := Nat.le_trans (own_old_le O0) (Nat.le_of_eq g25.symm)
      have O25 := O0.ext E25
      refine step st25 ?_
      show G T25 (mkF m 42 ls24 [(.ref b25)])
      obtain ⟨ls26, hls26⟩  := own_sl #[.val (.int p0), .val (.int p1), .val (.int p2), .val (.int p3), .val (.int p4), .val (.long df), .second, .val (.int 1), .val (.int 0), .val (.ref b25), .unset, .unset, .unset]
      refine step (fun t k => XS.astore X25.here hx rfl (hb hby at_42) rfl rfl (l' := ls26) (by rw [hls24, hls26]; rfl) k) ?_
      show G T25 (mkF m 44 ls26 [])
      refine step (fun t k => XS.aload X25.here hx rfl (hb hby at_44) (by rw [hls26]; rfl) rfl k) ?_
      show G T25 (mkF m 46 ls26 [(.ref b25)])
      refine step (fun t k => XS.iconst X25.here hx rfl (hb hby at_46) k) ?_
      show G T25 (mkF m 47 ls26 [(.int 0), (.ref b25)])
      refine step (fun t k => XS.iloadN X25.here hx rfl (hb hby at_47) (by rw [hls26]; rfl) k) ?_
      show G T25 (mkF m 48 ls26 [(.int p3), (.int 0), (.ref b25)])
      refine step (fun t k => XS.sipush X25.here hx rfl (hb hby at_48) k) ?_
      show G T25 (mkF m 51 ls26 [(.int 255), (.int p3), (.int 0), (.ref b25)])
      refine step (fun t k => XS.iand X25.here hx rfl (hb hby at_51) rfl k) ?_
      show G T25 (mkF m 52 ls26 [(.int (p3 &&& (255 : Int32))), (.int 0), (.ref b25)])
      refine step (fun t k => XS.i2c X25.here hx rfl (hb hby at_52) rfl k) ?_
      show G T25 (mkF m 53 ls26 [(.int ((p3 &&& (255 : Int32)).toUInt32.toUInt16.toUInt32.toInt32)), (.int 0), (.ref b25)])
      rw [own_i2c (own_and255 p3)]
      show G T25 (mkF m 53 ls26 [(.int (p3 &&& (255 : Int32))), (.int 0), (.ref b25)])
      obtain ⟨T27, h27, X27, e27, W27, V27, st27⟩ := own_stC X25 hx hZ e25 V25 (j := (0 : Int32)) (by decide) (i := 0) rfl (by show 0 < 2; decide) (g := (mkF m 53 ls26 [(.int (p3 &&& (255 : Int32))), (.int 0), (.ref b25)])) rfl rfl (hb hby at_53)
      replace V27 : Arv Z h27 b25 k25 .char (2 : Int32) [(.int (p3 &&& (255 : Int32))), (.int 0)] (.int 0) := by rw [own_narc (own_and255 p3)] at V27; exact V27
      have N27 := Fr.snoc X27 N0 ge_b25
      obtain ⟨lc27, X27, N27⟩ := own_gen X27 N27
      have O27 := O25.wr W27 ge_b25
      refine step st27 ?_
      show G T27 (mkF m 54 ls26 [])
      refine step (fun t k => XS.aload X27.here hx rfl (hb hby at_54) (by rw [hls26]; rfl) rfl k) ?_
      show G T27 (mkF m 56 ls26 [(.ref b25)])
      refine step (fun t k => XS.iconst X27.here hx rfl (hb hby at_56) k) ?_
      show G T27 (mkF m 57 ls26 [(.int 1), (.ref b25)])
      refine step (fun t k => XS.iloadN X27.here hx rfl (hb hby at_57) (by rw [hls26]; rfl) k) ?_
      show G T27 (mkF m 58 ls26 [(.int p3), (.int 1), (.ref b25)])
      refine step (fun t k => XS.bipush X27.here hx rfl (hb hby at_58) k) ?_
      show G T27 (mkF m 60 ls26 [(.int 8), (.int p3), (.int 1), (.ref b25)])
      refine step (fun t k => XS.iushr X27.here hx rfl (hb hby at_60) rfl k) ?_
      show G T27 (mkF m 61 ls26 [(.int ((p3.toUInt32 >>> ((8 : Int32) &&& 31).toUInt32).toInt32)), (.int 1), (.ref b25)])
      refine step (fun t k => XS.sipush X27.here hx rfl (hb hby at_61) k) ?_
      show G T27 (mkF m 64 ls26 [(.int 255), (.int ((p3.toUInt32 >>> ((8 : Int32) &&& 31).toUInt32).toInt32)), (.int 1), (.ref b25)])
      refine step (fun t k => XS.iand X27.here hx rfl (hb hby at_64) rfl k) ?_
      show G T27 (mkF m 65 ls26 [(.int (((p3.toUInt32 >>> ((8 : Int32) &&& 31).toUInt32).toInt32) &&& (255 : Int32))), (.int 1), (.ref b25)])
      refine step (fun t k => XS.i2c X27.here hx rfl (hb hby at_65) rfl k) ?_
      show G T27 (mkF m 66 ls26 [(.int ((((p3.toUInt32 >>> ((8 : Int32) &&& 31).toUInt32).toInt32) &&& (255 : Int32)).toUInt32.toUInt16.toUInt32.toInt32)), (.int 1), (.ref b25)])
      rw [own_i2c (own_and255 ((p3.toUInt32 >>> ((8 : Int32) &&& 31).toUInt32).toInt32))]
      show G T27 (mkF m 66 ls26 [(.int (((p3.toUInt32 >>> ((8 : Int32) &&& 31).toUInt32).toInt32) &&& (255 : Int32))), (.int 1), (.ref b25)])
      obtain ⟨T28, h28, X28, e28, W28, V28, st28⟩ := own_stC X27 hx hZ e27 V27 (j := (1 : Int32)) (by decide) (i := 1) rfl (by show 1 < 2; decide) (g := (mkF m 66 ls26 [(.int (((p3.toUInt32 >>> ((8 : Int32) &&& 31).toUInt32).toInt32) &&& (255 : Int32))), (.int 1), (.ref b25)])) rfl rfl (hb hby at_66)
      replace V28 : Arv Z h28 b25 k25 .char (2 : Int32) [(.int (p3 &&& (255 : Int32))), (.int (((p3.toUInt32 >>> ((8 : Int32) &&& 31).toUInt32).toInt32) &&& (255 : Int32)))] (.int 0) := by rw [own_narc (own_and255 ((p3.toUInt32 >>> ((8 : Int32) &&& 31).toUInt32).toInt32))] at V28; exact V28
      have N28 := Fr.snoc X28 N27 ge_b25
      obtain ⟨lc28, X28, N28⟩ := own_gen X28 N28
      have O28 := O27.wr W28 ge_b25
      refine step st28 ?_
      show G T28 (mkF m 67 ls26 [])
      have f30 := (Exa.wr W28 (Exa.wr W27 B25))
      obtain ⟨T29, h29, X29, e29, E29, A29, D29, -, st29⟩ := newO X28 hx hZ hown (ww1 hw) (ww2 hw) (ww3 hw) e28 (g := (mkF m 67 ls26 [])) rfl (hb hby at_67) (by decide) (by decide)
      obtain ⟨b29, g29⟩ : ∃ z, z = h28.size := ⟨_, rfl⟩
      rw [← g29] at A29 D29 st29
      have ge_b29 : n0 ≤ b29 := Nat.le_trans (own_old_le O28) (Nat.le_of_eq g29.symm)
      have lt_b25_b29 : b25 < b29 := Nat.lt_of_lt_of_le f30.lt (Nat.le_of_eq g29.symm)
      have O29 := O28.ext E29
      have F29_coder : Fld Z h29 b29 cn_0 "coder" "B" (.int 0) := D29 (Or.inr (ww27 hw)) (ty := .byte) (by decide)
      have F29_value : Fld Z h29 b29 cn_0 "value" "[B" .null := D29 (Or.inr (ww29 hw)) (ty := (.array .byte)) (by decide)
      refine step st29 ?_
      show G T29 (mkF m 70 ls26 [(.ref b29)])
      refine step (fun t k => XS.dup X29.here hx rfl (hb hby at_70) rfl rfl k) ?_
      show G T29 (mkF m 71 ls26 [(.ref b29), (.ref b29)])
      refine step (fun t k => XS.aload X29.here hx rfl (hb hby at_71) (by rw [hls26]; rfl) rfl k) ?_
      show G T29 (mkF m 73 ls26 [(.ref b25), (.ref b29), (.ref b29)])
      have f32 := (V28.ext E29)
      have f33 := (Exa.ext E29 f30)
      have hK31 := (StrChars.Road.backV (l := l) (R := room_1) (p := p) (e := e) (below := below) (s := s) (args := #[(.int p0), (.int p1), (.int p2), (.int p3), (.int p4)]) (len := 3) (W := 1) hZ (own_hwV hw) (kI := 4) (ww2 hw) (cs := [(p3 &&& (255 : Int32)), (((p3.toUInt32 >>> ((8 : Int32) &&& 31).toUInt32).toInt32) &&& (255 : Int32))]) (bs := [((p3 &&& (255 : Int32)).toInt8.toInt32), ((((p3.toUInt32 >>> ((8 : Int32) &&& 31).toUInt32).toInt32) &&& (255 : Int32)).toInt8.toInt32)]) (n := 2) ge_b29 (own_old_le O29) A29 F29_value F29_coder f32 (Sta.ext O29.2 ST.k0) ST.k3 rfl rfl (by decide) (by decide) (List.forall_mem_cons.mpr ⟨(own_and255 p3), (List.forall_mem_cons.mpr ⟨(own_and255 ((p3.toUInt32 >>> ((8 : Int32) &&& 31).toUInt32).toInt32)), (fun _ h => nomatch h)⟩)⟩) rfl (by decide) (by decide))
      obtain ⟨_, _, ⟨T31, L31, k31, n31⟩, -, X31, ⟨Lc31, hQ31, l31, y31, z31⟩, st31⟩ := X29.specialBack hx (y := y_5) rfl hown (mvT hZ (ww4 hw)) (mvT hZ (ww5 hw)) (mvT hZ (ww6 hw)) (by decide) hK31 (g := (mkF m 73 ls26 [(.ref b25), (.ref b29), (.ref b29)])) rfl (by rw [hml, hls26]; rfl) (Steps.refl _) (a := b29) (argsL := [(.ref b25)]) (rest := [(.ref b29)]) (lenOf pd_3 rfl) rfl (by show 2 * 0 + _ ≤ _; exact Nat.le_of_eq rfl) (hb hby at_73) (fun _ _ => ⟨rfl, e29, (by decide : 2 + 1 ≤ _), (by decide : 6 + 2 ≤ _)⟩)
      dsimp only [Pt.U, Pt.locs, Pt.cells, Pt.slots] at X31 l31 y31 z31 st31 hQ31
      subst l31 y31 z31
      obtain ⟨rfl, N31q, K31q, Es31, Cs31, b31, kb31, gt31, gh31, -, Fv31, Vb31⟩ := hQ31
      have N31 := Fr.app N28 N31q
      obtain ⟨lc31, X31, N31⟩ := own_gen X31 N31
      replace Vb31 : Arv Z T31.heap b31 kb31 .byte (2 : Int32) [(.int ((p3 &&& (255 : Int32)).toInt8.toInt32)), (.int ((((p3.toUInt32 >>> ((8 : Int32) &&& 31).toUInt32).toInt32) &&& (255 : Int32)).toInt8.toInt32))] (.int 0) := Vb31
      have lt_b25_b31 : b25 < b31 := Nat.lt_of_lt_of_le f33.lt gh31
      have lt_b29_b31 : b29 < b31 := Nat.lt_of_lt_of_le A29.lt gh31
      have O31 := O29.keep K31q (allS ge_b29 all0)
      refine step (fun t k => st31.trans k) ?_
      show G T31 (mkF m 76 ls26 [(.ref b29)])
      obtain ⟨ls34, hls34⟩  := own_sl #[.val (.int p0), .val (.int p1), .val (.int p2), .val (.int p3), .val (.int p4), .val (.long df), .second, .val (.int 1), .val (.int 0), .val (.ref b25), .val (.ref b29), .unset, .unset]
      refine step (fun t k => XS.astore X31.here hx rfl (hb hby at_76) rfl rfl (l' := ls34) (by rw [hls26, hls34]; rfl) k) ?_
      show G T31 (mkF m 78 ls34 [])
      refine step (fun t k => XS.iload X31.here hx rfl (hb hby at_78) (by rw [hls34]; rfl) k) ?_
      show G T31 (mkF m 80 ls34 [(.int p4)])
      refine step (fun t k => XS.sipush X31.here hx rfl (hb hby at_80) k) ?_
      show G T31 (mkF m 83 ls34 [(.int 255), (.int p4)])
      refine step (fun t k => XS.iand X31.here hx rfl (hb hby at_83) rfl k) ?_
      show G T31 (mkF m 84 ls34 [(.int (p4 &&& (255 : Int32)))])
      refine step (fun t k => XS.i2c X31.here hx rfl (hb hby at_84) rfl k) ?_
      show G T31 (mkF m 85 ls34 [(.int ((p4 &&& (255 : Int32)).toUInt32.toUInt16.toUInt32.toInt32))])
      rw [own_i2c (own_and255 p4)]
      show G T31 (mkF m 85 ls34 [(.int (p4 &&& (255 : Int32)))])
      have hK35 := (backOf (R := room_1) (p := p) (e := e) (below := below) (s := s) (args := #[(.int p0), (.int p1), (.int p2), (.int p3), (.int p4)]) (len := 3) (W := 0) (rm_val l Z a0 hw [] w_COMPACT_STRINGS w_SIOOBE_FORMATTER (p4 &&& (255 : Int32)) T31.heap n0 (own_old_le O31) ST O31 ((own_and255 p4).2 : ¬ ((255 : Int32) < (p4 &&& (255 : Int32))))) hZ (ww32 hw) (ww3 hw) (by decide) (by decide))
      obtain ⟨_, _, ⟨T35, L35, k35, n35⟩, -, X35, ⟨Lc35, hQ35, l35, y35, z35⟩, st35⟩ := Jvm.LawKit.callS X31 hx (y := y_3) hown (mvT hZ (ww30 hw)) (mvT hZ (ww31 hw)) (mvT hZ (ww3 hw)) (mvT hZ (ww32 hw)) (by decide) hK35 (g := (mkF m 85 ls34 [(.int (p4 &&& (255 : Int32)))])) rfl (by rw [hml, hls34]; rfl) (argsL := [(.int (p4 &&& (255 : Int32)))]) (rest := []) (lenOf pd_4 rfl) rfl (by show 2 * 0 + _ ≤ _; exact Nat.le_of_eq rfl) (hb hby at_85) (fun _ _ => ⟨rfl, rfl, (by decide : 3 + 2 ≤ _), (by decide : 8 + 5 ≤ _)⟩)
      dsimp only [Pt.U, Pt.locs, Pt.cells, Pt.slots] at X35 l35 y35 z35 st35 hQ35
      subst l35 y35 z35
      have f36 := (Exa.keep f33 K31q)
      obtain ⟨b35, rfl, N35q, K35q, Y35_0, Y35_1⟩ := hQ35
      have N35 := Fr.app N31 N35q
      obtain ⟨lc35, X35, N35⟩ := own_gen X35 N35
      have O35 := O31.keep K35q all0
      have ge_b35 : n0 ≤ b35 := Nat.le_trans (own_old_le O31) Y35_0
      have lt_b25_b35 : b25 < b35 := Nat.lt_of_lt_of_le f36.lt Y35_0
      have lt_b29_b35 : b29 < b35 := Nat.lt_of_lt_of_le Es31.lt Y35_0
      have lt_b31_b35 : b31 < b35 := Nat.lt_of_lt_of_le Vb31.lt Y35_0
      refine step (fun t k => st35 t k) ?_
      show G T35 (mkF m 88 ls34 [(.ref b35)])
      obtain ⟨ls37, hls37⟩  := own_sl #[.val (.int p0), .val (.int p1), .val (.int p2), .val (.int p3), .val (.int p4), .val (.long df), .second, .val (.int 1), .val (.int 0), .val (.ref b25), .val (.ref b29), .val (.ref b35), .unset]
      refine step (fun t k => XS.astore X35.here hx rfl (hb hby at_88) rfl rfl (l' := ls37) (by rw [hls34, hls37]; rfl) k) ?_
      show G T35 (mkF m 90 ls37 [])
      refine step (fun t k => XS.iloadN X35.here hx rfl (hb hby at_90) (by rw [hls37]; rfl) k) ?_
      show G T35 (mkF m 91 ls37 [(.int p0)])
      refine step (fun t k => XS.iloadN X35.here hx rfl (hb hby at_91) (by rw [hls37]; rfl) k) ?_
      show G T35 (mkF m 92 ls37 [(.int p1), (.int p0)])
      refine step (fun t k => XS.aload X35.here hx rfl (hb hby at_92) (by rw [hls37]; rfl) rfl k) ?_
      show G T35 (mkF m 94 ls37 [(.ref b29), (.int p1), (.int p0)])
      refine step (fun t k => XS.iload X35.here hx rfl (hb hby at_94) (by rw [hls37]; rfl) k) ?_
      show G T35 (mkF m 96 ls37 [(.int 0), (.ref b29), (.int p1), (.int p0)])
      refine step (fun t k => XS.aload X35.here hx rfl (hb hby at_96) (by rw [hls37]; rfl) rfl k) ?_
      show G T35 (mkF m 98 ls37 [(.ref b35), (.int 0), (.ref b29), (.int p1), (.int p0)])
      have hK38 := (backOf (R := room_1) (p := p) (e := e) (below := below) (s := s) (args := #[(.int p0), (.int p1), (.int p2), (.int p3), (.int p4)]) (len := 3) (W := 0) (rm_car1 l Z a0 hw [] w_COMPACT_STRINGS w_SIOOBE_FORMATTER p0 p1 b29 (0 : Int32) b35 T35.heap n0 (own_old_le O35) ST O35 ((fun q => hc3 ((own_df hdf).mpr q)) : ¬ (p0 < p1))) hZ (ww47 hw) (ww46 hw) (by decide) (by decide))
      obtain ⟨_, _, ⟨T38, L38, k38, n38⟩, -, X38, ⟨Lc38, hQ38, l38, y38, z38⟩, st38⟩ := Jvm.LawKit.callS X35 hx (y := y_4) hown (mvT hZ (ww44 hw)) (mvT hZ (ww45 hw)) (mvT hZ (ww46 hw)) (mvT hZ (ww47 hw)) (by decide) hK38 (g := (mkF m 98 ls37 [(.ref b35), (.int 0), (.ref b29), (.int p1), (.int p0)])) rfl (by rw [hml, hls37]; rfl) (argsL := [(.int p0), (.int p1), (.ref b29), (.int 0), (.ref b35)]) (rest := []) (lenOf pd_5 rfl) rfl (by show 2 * 0 + _ ≤ _; exact Nat.le_of_eq rfl) (hb hby at_98) (fun _ _ => ⟨rfl, rfl, (by decide : 5 + 0 ≤ _), (by decide : 13 + 0 ≤ _)⟩)
      dsimp only [Pt.U, Pt.locs, Pt.cells, Pt.slots] at X38 l38 y38 z38 st38 hQ38
      subst l38 y38 z38
      obtain ⟨rfl, N38q, e38⟩ := hQ38
      have N38 := Fr.app N35 N38q
      obtain ⟨lc38, X38, N38⟩ := own_gen X38 N38
      refine step (fun t k => st38 t k) ?_
      show G T38 (mkF m 101 ls37 [(.int (f_car1 w_COMPACT_STRINGS w_SIOOBE_FORMATTER p0 p1 b29 (0 : Int32) b35))])
      have r39 : (f_car1 w_COMPACT_STRINGS w_SIOOBE_FORMATTER p0 p1 b29 (0 : Int32) b35) = (1 : Int32) := rfl
      rw [r39]
      show G T38 (mkF m 101 ls37 [(.int 1)])
      obtain ⟨ls40, hls40⟩  := own_sl #[.val (.int p0), .val (.int p1), .val (.int p2), .val (.int p3), .val (.int p4), .val (.long df), .second, .val (.int 1), .val (.int 0), .val (.ref b25), .val (.ref b29), .val (.ref b35), .val (.int 1)]
      refine step (fun t k => XS.istore X38.here hx rfl (hb hby at_101) rfl (l' := ls40) (by rw [hls37, hls40]; rfl) k) ?_
      show G T38 (mkF m 103 ls40 [])
      refine step (fun t k => XS.iload X38.here hx rfl (hb hby at_103) (by rw [hls40]; rfl) k) ?_
      show G T38 (mkF m 105 ls40 [(.int 1)])
      refine step (fun t k => XS.iload X38.here hx rfl (hb hby at_105) (by rw [hls40]; rfl) k) ?_
      show G T38 (mkF m 107 ls40 [(.int 1), (.int 1)])
      refine step (fun t k => XS.icmpNo X38.here hx rfl (hb hby at_107) rfl (teq (by decide : (1 : Int32) = (1 : Int32))).2 k) ?_
      show G T38 (mkF m 110 ls40 [])
      refine step (fun t k => XS.iconst X38.here hx rfl (hb hby at_110) k) ?_
      show G T38 (mkF m 111 ls40 [(.int 1)])
      refine step (fun t k => XS.goto X38.here hx rfl (pc0 := 111) (pc' := 115) rfl (hb hby at_111) (by decide) (by decide) k) ?_
      show G T38 (mkF m 115 ls40 [(.int 1)])
      exact ret (v := some (.int 1)) X38 (fun h => by rw [Bd.returns] at h; cases h) (fun fs hr => retN X38 hx (t := .boolean) Bd.returns (by simp) (hb hby at_115) hr) e38 ⟨rfl, N38⟩ (by decide) (by decide)
    · skip
      refine step (fun t k => XS.ifNo X0.here hx rfl (hb hby at_29) rfl ((if0 _ _).trans (feq hc23).1) k) ?_
      show G s₁ (mkF m 32 ls22 [])
      refine step (fun t k => XS.iconst X0.here hx rfl (hb hby at_32) k) ?_
      show G s₁ (mkF m 33 ls22 [(.int 1)])
      refine step (fun t k => XS.goto X0.here hx rfl (pc0 := 33) (pc' := 37) rfl (hb hby at_33) (by decide) (by decide) k) ?_
      show G s₁ (mkF m 37 ls22 [(.int 1)])
      obtain ⟨ls41, hls41⟩  := own_sl #[.val (.int p0), .val (.int p1), .val (.int p2), .val (.int p3), .val (.int p4), .val (.long df), .second, .val (.int 1), .val (.int 1), .unset, .unset, .unset, .unset]
      refine step (fun t k => XS.istore X0.here hx rfl (hb hby at_37) rfl (l' := ls41) (by rw [hls22, hls41]; rfl) k) ?_
      show G s₁ (mkF m 39 ls41 [])
      refine step (fun t k => XS.iconst X0.here hx rfl (hb hby at_39) k) ?_
      show G s₁ (mkF m 40 ls41 [(.int 2)])
      obtain ⟨T42, h42, k42, X42, e42, E42, A42, B42, st42⟩ := newPE (aty := .char) X0 hx hZ (ww0 hw) e0 (g := (mkF m 40 ls41 [(.int 2)])) rfl (hb hby at_40) rfl (by decide) (cap := 2) (by decide) (by decide) (by decide) (by decide) (ad := "[C") (by decide)
      obtain ⟨b42, g42⟩ : ∃ z, z = h0.size := ⟨_, rfl⟩
      rw [← g42] at A42 B42 st42
      have V42 : Arv Z h42 b42 k42 .char (2 : Int32) [(.int 0), (.int 0)] (.int 0) := (Arv.new A42 (by decide)).pad (pad_rep [] (.int 0) 2)
      have ge_b42 : n0 ≤ b42 := Nat.le_trans (own_old_le O0) (Nat.le_of_eq g42.symm)
      have O42 := O0.ext E42
      refine step st42 ?_
      show G T42 (mkF m 42 ls41 [(.ref b42)])
      obtain ⟨ls43, hls43⟩  := own_sl #[.val (.int p0), .val (.int p1), .val (.int p2), .val (.int p3), .val (.int p4), .val (.long df), .second, .val (.int 1), .val (.int 1), .val (.ref b42), .unset, .unset, .unset]
      refine step (fun t k => XS.astore X42.here hx rfl (hb hby at_42) rfl rfl (l' := ls43) (by rw [hls41, hls43]; rfl) k) ?_
      show G T42 (mkF m 44 ls43 [])
      refine step (fun t k => XS.aload X42.here hx rfl (hb hby at_44) (by rw [hls43]; rfl) rfl k) ?_
      show G T42 (mkF m 46 ls43 [(.ref b42)])
      refine step (fun t k => XS.iconst X42.here hx rfl (hb hby at_46) k) ?_
      show G T42 (mkF m 47 ls43 [(.int 0), (.ref b42)])
      refine step (fun t k => XS.iloadN X42.here hx rfl (hb hby at_47) (by rw [hls43]; rfl) k) ?_
      show G T42 (mkF m 48 ls43 [(.int p3), (.int 0), (.ref b42)])
      refine step (fun t k => XS.sipush X42.here hx rfl (hb hby at_48) k) ?_
      show G T42 (mkF m 51 ls43 [(.int 255), (.int p3), (.int 0), (.ref b42)])
      refine step (fun t k => XS.iand X42.here hx rfl (hb hby at_51) rfl k) ?_
      show G T42 (mkF m 52 ls43 [(.int (p3 &&& (255 : Int32))), (.int 0), (.ref b42)])
      refine step (fun t k => XS.i2c X42.here hx rfl (hb hby at_52) rfl k) ?_
      show G T42 (mkF m 53 ls43 [(.int ((p3 &&& (255 : Int32)).toUInt32.toUInt16.toUInt32.toInt32)), (.int 0), (.ref b42)])
      rw [own_i2c (own_and255 p3)]
      show G T42 (mkF m 53 ls43 [(.int (p3 &&& (255 : Int32))), (.int 0), (.ref b42)])
      obtain ⟨T44, h44, X44, e44, W44, V44, st44⟩ := own_stC X42 hx hZ e42 V42 (j := (0 : Int32)) (by decide) (i := 0) rfl (by show 0 < 2; decide) (g := (mkF m 53 ls43 [(.int (p3 &&& (255 : Int32))), (.int 0), (.ref b42)])) rfl rfl (hb hby at_53)
      replace V44 : Arv Z h44 b42 k42 .char (2 : Int32) [(.int (p3 &&& (255 : Int32))), (.int 0)] (.int 0) := by rw [own_narc (own_and255 p3)] at V44; exact V44
      have N44 := Fr.snoc X44 N0 ge_b42
      obtain ⟨lc44, X44, N44⟩ := own_gen X44 N44
      have O44 := O42.wr W44 ge_b42
      refine step st44 ?_
      show G T44 (mkF m 54 ls43 [])
      refine step (fun t k => XS.aload X44.here hx rfl (hb hby at_54) (by rw [hls43]; rfl) rfl k) ?_
      show G T44 (mkF m 56 ls43 [(.ref b42)])
      refine step (fun t k => XS.iconst X44.here hx rfl (hb hby at_56) k) ?_
      show G T44 (mkF m 57 ls43 [(.int 1), (.ref b42)])
      refine step (fun t k => XS.iloadN X44.here hx rfl (hb hby at_57) (by rw [hls43]; rfl) k) ?_
      show G T44 (mkF m 58 ls43 [(.int p3), (.int 1), (.ref b42)])
      refine step (fun t k => XS.bipush X44.here hx rfl (hb hby at_58) k) ?_
      show G T44 (mkF m 60 ls43 [(.int 8), (.int p3), (.int 1), (.ref b42)])
      refine step (fun t k => XS.iushr X44.here hx rfl (hb hby at_60) rfl k) ?_
      show G T44 (mkF m 61 ls43 [(.int ((p3.toUInt32 >>> ((8 : Int32) &&& 31).toUInt32).toInt32)), (.int 1), (.ref b42)])
      refine step (fun t k => XS.sipush X44.here hx rfl (hb hby at_61) k) ?_
      show G T44 (mkF m 64 ls43 [(.int 255), (.int ((p3.toUInt32 >>> ((8 : Int32) &&& 31).toUInt32).toInt32)), (.int 1), (.ref b42)])
      refine step (fun t k => XS.iand X44.here hx rfl (hb hby at_64) rfl k) ?_
      show G T44 (mkF m 65 ls43 [(.int (((p3.toUInt32 >>> ((8 : Int32) &&& 31).toUInt32).toInt32) &&& (255 : Int32))), (.int 1), (.ref b42)])
      refine step (fun t k => XS.i2c X44.here hx rfl (hb hby at_65) rfl k) ?_
      show G T44 (mkF m 66 ls43 [(.int ((((p3.toUInt32 >>> ((8 : Int32) &&& 31).toUInt32).toInt32) &&& (255 : Int32)).toUInt32.toUInt16.toUInt32.toInt32)), (.int 1), (.ref b42)])
      rw [own_i2c (own_and255 ((p3.toUInt32 >>> ((8 : Int32) &&& 31).toUInt32).toInt32))]
      show G T44 (mkF m 66 ls43 [(.int (((p3.toUInt32 >>> ((8 : Int32) &&& 31).toUInt32).toInt32) &&& (255 : Int32))), (.int 1), (.ref b42)])
      obtain ⟨T45, h45, X45, e45, W45, V45, st45⟩ := own_stC X44 hx hZ e44 V44 (j := (1 : Int32)) (by decide) (i := 1) rfl (by show 1 < 2; decide) (g := (mkF m 66 ls43 [(.int (((p3.toUInt32 >>> ((8 : Int32) &&& 31).toUInt32).toInt32) &&& (255 : Int32))), (.int 1), (.ref b42)])) rfl rfl (hb hby at_66)
      replace V45 : Arv Z h45 b42 k42 .char (2 : Int32) [(.int (p3 &&& (255 : Int32))), (.int (((p3.toUInt32 >>> ((8 : Int32) &&& 31).toUInt32).toInt32) &&& (255 : Int32)))] (.int 0) := by rw [own_narc (own_and255 ((p3.toUInt32 >>> ((8 : Int32) &&& 31).toUInt32).toInt32))] at V45; exact V45
      have N45 := Fr.snoc X45 N44 ge_b42
      obtain ⟨lc45, X45, N45⟩ := own_gen X45 N45
      have O45 := O44.wr W45 ge_b42
      refine step st45 ?_
      show G T45 (mkF m 67 ls43 [])
      have f47 := (Exa.wr W45 (Exa.wr W44 B42))
      obtain ⟨T46, h46, X46, e46, E46, A46, D46, -, st46⟩ := newO X45 hx hZ hown (ww1 hw) (ww2 hw) (ww3 hw) e45 (g := (mkF m 67 ls43 [])) rfl (hb hby at_67) (by decide) (by decide)
      obtain ⟨b46, g46⟩ : ∃ z, z = h45.size := ⟨_, rfl⟩
      rw [← g46] at A46 D46 st46
      have ge_b46 : n0 ≤ b46 := Nat.le_trans (own_old_le O45) (Nat.le_of_eq g46.symm)
      have lt_b42_b46 : b42 < b46 := Nat.lt_of_lt_of_le f47.lt (Nat.le_of_eq g46.symm)
      have O46 := O45.ext E46
      have F46_coder : Fld Z h46 b46 cn_0 "coder" "B" (.int 0) := D46 (Or.inr (ww27 hw)) (ty := .byte) (by decide)
      have F46_value : Fld Z h46 b46 cn_0 "value" "[B" .null := D46 (Or.inr (ww29 hw)) (ty := (.array .byte)) (by decide)
      refine step st46 ?_
      show G T46 (mkF m 70 ls43 [(.ref b46)])
      refine step (fun t k => XS.dup X46.here hx rfl (hb hby at_70) rfl rfl k) ?_
      show G T46 (mkF m 71 ls43 [(.ref b46), (.ref b46)])
      refine step (fun t k => XS.aload X46.here hx rfl (hb hby at_71) (by rw [hls43]; rfl) rfl k) ?_
      show G T46 (mkF m 73 ls43 [(.ref b42), (.ref b46), (.ref b46)])
      have f49 := (V45.ext E46)
      have f50 := (Exa.ext E46 f47)
      have hK48 := (StrChars.Road.backV (l := l) (R := room_1) (p := p) (e := e) (below := below) (s := s) (args := #[(.int p0), (.int p1), (.int p2), (.int p3), (.int p4)]) (len := 3) (W := 1) hZ (own_hwV hw) (kI := 4) (ww2 hw) (cs := [(p3 &&& (255 : Int32)), (((p3.toUInt32 >>> ((8 : Int32) &&& 31).toUInt32).toInt32) &&& (255 : Int32))]) (bs := [((p3 &&& (255 : Int32)).toInt8.toInt32), ((((p3.toUInt32 >>> ((8 : Int32) &&& 31).toUInt32).toInt32) &&& (255 : Int32)).toInt8.toInt32)]) (n := 2) ge_b46 (own_old_le O46) A46 F46_value F46_coder f49 (Sta.ext O46.2 ST.k0) ST.k3 rfl rfl (by decide) (by decide) (List.forall_mem_cons.mpr ⟨(own_and255 p3), (List.forall_mem_cons.mpr ⟨(own_and255 ((p3.toUInt32 >>> ((8 : Int32) &&& 31).toUInt32).toInt32)), (fun _ h => nomatch h)⟩)⟩) rfl (by decide) (by decide))
      obtain ⟨_, _, ⟨T48, L48, k48, n48⟩, -, X48, ⟨Lc48, hQ48, l48, y48, z48⟩, st48⟩ := X46.specialBack hx (y := y_5) rfl hown (mvT hZ (ww4 hw)) (mvT hZ (ww5 hw)) (mvT hZ (ww6 hw)) (by decide) hK48 (g := (mkF m 73 ls43 [(.ref b42), (.ref b46), (.ref b46)])) rfl (by rw [hml, hls43]; rfl) (Steps.refl _) (a := b46) (argsL := [(.ref b42)]) (rest := [(.ref b46)]) (lenOf pd_3 rfl) rfl (by show 2 * 0 + _ ≤ _; exact Nat.le_of_eq rfl) (hb hby at_73) (fun _ _ => ⟨rfl, e46, (by decide : 2 + 1 ≤ _), (by decide : 6 + 2 ≤ _)⟩)
      dsimp only [Pt.U, Pt.locs, Pt.cells, Pt.slots] at X48 l48 y48 z48 st48 hQ48
      subst l48 y48 z48
      obtain ⟨rfl, N48q, K48q, Es48, Cs48, b48, kb48, gt48, gh48, -, Fv48, Vb48⟩ := hQ48
      have N48 := Fr.app N45 N48q
      obtain ⟨lc48, X48, N48⟩ := own_gen X48 N48
      replace Vb48 : Arv Z T48.heap b48 kb48 .byte (2 : Int32) [(.int ((p3 &&& (255 : Int32)).toInt8.toInt32)), (.int ((((p3.toUInt32 >>> ((8 : Int32) &&& 31).toUInt32).toInt32) &&& (255 : Int32)).toInt8.toInt32))] (.int 0) := Vb48
      have lt_b42_b48 : b42 < b48 := Nat.lt_of_lt_of_le f50.lt gh48
      have lt_b46_b48 : b46 < b48 := Nat.lt_of_lt_of_le A46.lt gh48
      have O48 := O46.keep K48q (allS ge_b46 all0)
      refine step (fun t k => st48.trans k) ?_
      show G T48 (mkF m 76 ls43 [(.ref b46)])
      obtain ⟨ls51, hls51⟩  := own_sl #[.val (.int p0), .val (.int p1), .val (.int p2), .val (.int p3), .val (.int p4), .val (.long df), .second, .val (.int 1), .val (.int 1), .val (.ref b42), .val (.ref b46), .unset, .unset]
      refine step (fun t k => XS.astore X48.here hx rfl (hb hby at_76) rfl rfl (l' := ls51) (by rw [hls43, hls51]; rfl) k) ?_
      show G T48 (mkF m 78 ls51 [])
      refine step (fun t k => XS.iload X48.here hx rfl (hb hby at_78) (by rw [hls51]; rfl) k) ?_
      show G T48 (mkF m 80 ls51 [(.int p4)])
      refine step (fun t k => XS.sipush X48.here hx rfl (hb hby at_80) k) ?_
      show G T48 (mkF m 83 ls51 [(.int 255), (.int p4)])
      refine step (fun t k => XS.iand X48.here hx rfl (hb hby at_83) rfl k) ?_
      show G T48 (mkF m 84 ls51 [(.int (p4 &&& (255 : Int32)))])
      refine step (fun t k => XS.i2c X48.here hx rfl (hb hby at_84) rfl k) ?_
      show G T48 (mkF m 85 ls51 [(.int ((p4 &&& (255 : Int32)).toUInt32.toUInt16.toUInt32.toInt32))])
      rw [own_i2c (own_and255 p4)]
      show G T48 (mkF m 85 ls51 [(.int (p4 &&& (255 : Int32)))])
      have hK52 := (backOf (R := room_1) (p := p) (e := e) (below := below) (s := s) (args := #[(.int p0), (.int p1), (.int p2), (.int p3), (.int p4)]) (len := 3) (W := 0) (rm_val l Z a0 hw [] w_COMPACT_STRINGS w_SIOOBE_FORMATTER (p4 &&& (255 : Int32)) T48.heap n0 (own_old_le O48) ST O48 ((own_and255 p4).2 : ¬ ((255 : Int32) < (p4 &&& (255 : Int32))))) hZ (ww32 hw) (ww3 hw) (by decide) (by decide))
      obtain ⟨_, _, ⟨T52, L52, k52, n52⟩, -, X52, ⟨Lc52, hQ52, l52, y52, z52⟩, st52⟩ := Jvm.LawKit.callS X48 hx (y := y_3) hown (mvT hZ (ww30 hw)) (mvT hZ (ww31 hw)) (mvT hZ (ww3 hw)) (mvT hZ (ww32 hw)) (by decide) hK52 (g := (mkF m 85 ls51 [(.int (p4 &&& (255 : Int32)))])) rfl (by rw [hml, hls51]; rfl) (argsL := [(.int (p4 &&& (255 : Int32)))]) (rest := []) (lenOf pd_4 rfl) rfl (by show 2 * 0 + _ ≤ _; exact Nat.le_of_eq rfl) (hb hby at_85) (fun _ _ => ⟨rfl, rfl, (by decide : 3 + 2 ≤ _), (by decide : 8 + 5 ≤ _)⟩)
      dsimp only [Pt.U, Pt.locs, Pt.cells, Pt.slots] at X52 l52 y52 z52 st52 hQ52
      subst l52 y52 z52
      have f53 := (Exa.keep f50 K48q)
      obtain ⟨b52, rfl, N52q, K52q, Y52_0, Y52_1⟩ := hQ52
      have N52 := Fr.app N48 N52q
      obtain ⟨lc52, X52, N52⟩ := own_gen X52 N52
      have O52 := O48.keep K52q all0
      have ge_b52 : n0 ≤ b52 := Nat.le_trans (own_old_le O48) Y52_0
      have lt_b42_b52 : b42 < b52 := Nat.lt_of_lt_of_le f53.lt Y52_0
      have lt_b46_b52 : b46 < b52 := Nat.lt_of_lt_of_le Es48.lt Y52_0
      have lt_b48_b52 : b48 < b52 := Nat.lt_of_lt_of_le Vb48.lt Y52_0
      refine step (fun t k => st52 t k) ?_
      show G T52 (mkF m 88 ls51 [(.ref b52)])
      obtain ⟨ls54, hls54⟩  := own_sl #[.val (.int p0), .val (.int p1), .val (.int p2), .val (.int p3), .val (.int p4), .val (.long df), .second, .val (.int 1), .val (.int 1), .val (.ref b42), .val (.ref b46), .val (.ref b52), .unset]
      refine step (fun t k => XS.astore X52.here hx rfl (hb hby at_88) rfl rfl (l' := ls54) (by rw [hls51, hls54]; rfl) k) ?_
      show G T52 (mkF m 90 ls54 [])
      refine step (fun t k => XS.iloadN X52.here hx rfl (hb hby at_90) (by rw [hls54]; rfl) k) ?_
      show G T52 (mkF m 91 ls54 [(.int p0)])
      refine step (fun t k => XS.iloadN X52.here hx rfl (hb hby at_91) (by rw [hls54]; rfl) k) ?_
      show G T52 (mkF m 92 ls54 [(.int p1), (.int p0)])
      refine step (fun t k => XS.aload X52.here hx rfl (hb hby at_92) (by rw [hls54]; rfl) rfl k) ?_
      show G T52 (mkF m 94 ls54 [(.ref b46), (.int p1), (.int p0)])
      refine step (fun t k => XS.iload X52.here hx rfl (hb hby at_94) (by rw [hls54]; rfl) k) ?_
      show G T52 (mkF m 96 ls54 [(.int 1), (.ref b46), (.int p1), (.int p0)])
      refine step (fun t k => XS.aload X52.here hx rfl (hb hby at_96) (by rw [hls54]; rfl) rfl k) ?_
      show G T52 (mkF m 98 ls54 [(.ref b52), (.int 1), (.ref b46), (.int p1), (.int p0)])
      have hK55 := (backOf (R := room_1) (p := p) (e := e) (below := below) (s := s) (args := #[(.int p0), (.int p1), (.int p2), (.int p3), (.int p4)]) (len := 3) (W := 0) (rm_car1 l Z a0 hw [] w_COMPACT_STRINGS w_SIOOBE_FORMATTER p0 p1 b46 (1 : Int32) b52 T52.heap n0 (own_old_le O52) ST O52 ((fun q => hc3 ((own_df hdf).mpr q)) : ¬ (p0 < p1))) hZ (ww47 hw) (ww46 hw) (by decide) (by decide))
      obtain ⟨_, _, ⟨T55, L55, k55, n55⟩, -, X55, ⟨Lc55, hQ55, l55, y55, z55⟩, st55⟩ := Jvm.LawKit.callS X52 hx (y := y_4) hown (mvT hZ (ww44 hw)) (mvT hZ (ww45 hw)) (mvT hZ (ww46 hw)) (mvT hZ (ww47 hw)) (by decide) hK55 (g := (mkF m 98 ls54 [(.ref b52), (.int 1), (.ref b46), (.int p1), (.int p0)])) rfl (by rw [hml, hls54]; rfl) (argsL := [(.int p0), (.int p1), (.ref b46), (.int 1), (.ref b52)]) (rest := []) (lenOf pd_5 rfl) rfl (by show 2 * 0 + _ ≤ _; exact Nat.le_of_eq rfl) (hb hby at_98) (fun _ _ => ⟨rfl, rfl, (by decide : 5 + 0 ≤ _), (by decide : 13 + 0 ≤ _)⟩)
      dsimp only [Pt.U, Pt.locs, Pt.cells, Pt.slots] at X55 l55 y55 z55 st55 hQ55
      subst l55 y55 z55
      obtain ⟨rfl, N55q, e55⟩ := hQ55
      have N55 := Fr.app N52 N55q
      obtain ⟨lc55, X55, N55⟩ := own_gen X55 N55
      refine step (fun t k => st55 t k) ?_
      show G T55 (mkF m 101 ls54 [(.int (f_car1 w_COMPACT_STRINGS w_SIOOBE_FORMATTER p0 p1 b46 (1 : Int32) b52))])
      have r56 : (f_car1 w_COMPACT_STRINGS w_SIOOBE_FORMATTER p0 p1 b46 (1 : Int32) b52) = (1 : Int32) := rfl
      rw [r56]
      show G T55 (mkF m 101 ls54 [(.int 1)])
      obtain ⟨ls57, hls57⟩  := own_sl #[.val (.int p0), .val (.int p1), .val (.int p2), .val (.int p3), .val (.int p4), .val (.long df), .second, .val (.int 1), .val (.int 1), .val (.ref b42), .val (.ref b46), .val (.ref b52), .val (.int 1)]
      refine step (fun t k => XS.istore X55.here hx rfl (hb hby at_101) rfl (l' := ls57) (by rw [hls54, hls57]; rfl) k) ?_
      show G T55 (mkF m 103 ls57 [])
      refine step (fun t k => XS.iload X55.here hx rfl (hb hby at_103) (by rw [hls57]; rfl) k) ?_
      show G T55 (mkF m 105 ls57 [(.int 1)])
      refine step (fun t k => XS.iload X55.here hx rfl (hb hby at_105) (by rw [hls57]; rfl) k) ?_
      show G T55 (mkF m 107 ls57 [(.int 1), (.int 1)])
      refine step (fun t k => XS.icmpNo X55.here hx rfl (hb hby at_107) rfl (teq (by decide : (1 : Int32) = (1 : Int32))).2 k) ?_
      show G T55 (mkF m 110 ls57 [])
      refine step (fun t k => XS.iconst X55.here hx rfl (hb hby at_110) k) ?_
      show G T55 (mkF m 111 ls57 [(.int 1)])
      refine step (fun t k => XS.goto X55.here hx rfl (pc0 := 111) (pc' := 115) rfl (hb hby at_111) (by decide) (by decide) k) ?_
      show G T55 (mkF m 115 ls57 [(.int 1)])
      exact ret (v := some (.int 1)) X55 (fun h => by rw [Bd.returns] at h; cases h) (fun fs hr => retN X55 hx (t := .boolean) Bd.returns (by simp) (hb hby at_115) hr) e55 ⟨rfl, N55⟩ (by decide) (by decide)
set_option maxRecDepth 65536 in
set_option maxHeartbeats 40000000 in
theorem comes_1 {Post : Tables → Env → Array Value → State → Outcome → State → Prop} (hpost : ∀ tb e args s v u, (limb_1_1.after args s (.returned v) u = true ∧ limb_1_2.after args s (.returned v) u = true ∧ True) → FrameEnd s (.returned v) u (Jvm.fieldLocs frame_1_writes args s ++ Jvm.arrayLocs frame_1_arrays args s ++ Jvm.staticLocs frame_1_statics s) 24 128 → Post tb e args s (.returned v) u) :
    ArmFor flags0 classFile x code maxLocals ret World_1 tables_1 room_1 Calls_1 rest_1 Pre_1 Post := by
  intro l hfl _ _ p e ha hc hk s m args below hf hA hF happ hP
  obtain ⟨hcalls, hrest, hpre⟩ := hP
  obtain ⟨-, -, -, hnamed, -, -, -, hat⟩ := (Spec.applies_iff hf).mp happ
  obtain ⟨hg, hn⟩ := and_e (Cond.before_iff.mp (show (Jvm.Cond.and given_1 narrow_1).before args s = true from hpre))
  obtain ⟨g1a, g1b⟩ := and_e hg
  obtain ⟨g2a, g2b⟩ := and_e g1b
  obtain ⟨g3a, g3b⟩ := and_e g2b
  obtain ⟨g4a, g4b⟩ := and_e g3b
  obtain ⟨g5a, g5b⟩ := and_e g4b
  obtain ⟨w0, w1, w2, w3, w4, rfl⟩ : ∃ w0 w1 w2 w3 w4 : Value, args = #[w0, w1, w2, w3, w4] := by
    have hs : args.size = 5 := by simpa [Cond.value, given_1] using g1a
    obtain ⟨L⟩ := args
    match L, hs with
    | [w0, w1, w2, w3, w4], _ => exact ⟨w0, w1, w2, w3, w4, rfl⟩
  have hw := fun d (hd : d ∈ tables_1) => atoms_spec (ws := Jvm.Cond.code x code maxLocals ret :: tables_1) hat d (List.mem_cons_of_mem _ hd)
  have hfit : Fit s := fun {y c} hc i hi => by
    obtain ⟨ha, rfl⟩ := Array.getElem?_eq_some_iff.mp hc
    have q := List.all_eq_true.mp ((Array.all_eq_true_iff_forall_mem.mp hF) _ (Array.getElem_mem ha)) i (List.mem_range.mpr hi)
    simpa [Array.getElem?_eq_getElem hi] using q
  obtain ⟨hsets, hown0⟩ := atoms_of _ (rest_1_c_eq ▸ (show rest_1_c.before _ s = true from hrest))
  obtain ⟨i0, ei0⟩ := is_v g2a
  obtain rfl : w0 = (.int i0) := Option.some.inj ei0
  obtain ⟨i1, ei1⟩ := is_v g3a
  obtain rfl : w1 = (.int i1) := Option.some.inj ei1
  obtain ⟨i2, ei2⟩ := is_v g4a
  obtain rfl : w2 = (.int i2) := Option.some.inj ei2
  obtain ⟨i3, ei3⟩ := is_v g5a
  obtain rfl : w3 = (.int i3) := Option.some.inj ei3
  obtain ⟨i4, ei4⟩ := is_v g5b
  obtain rfl : w4 = (.int i4) := Option.some.inj ei4
  obtain ⟨w_COMPACT_STRINGS, ev_COMPACT_STRINGS⟩ := is_v (Cond.before_iff.mp (hsets _ (List.mem_of_getElem? (i := 1) rfl)))
  obtain ⟨w_SIOOBE_FORMATTER, ev_SIOOBE_FORMATTER, rf_SIOOBE_FORMATTER⟩ := isR_v (Cond.before_iff.mp (hsets _ (List.mem_of_getElem? (i := 8) rfl)))
  obtain ⟨n, o, h1, h2, h3, _, L, rfl, ⟨rfl, N⟩, hq⟩ := rm_law l s _ hw tables_1 w_COMPACT_STRINGS w_SIOOBE_FORMATTER i0 i1 i2 i3 i4 s.heap s.heap.size (Nat.le_refl _) ⟨Sta.start ev_COMPACT_STRINGS (Or.inl (hsets _ (List.mem_of_getElem? (i := 0) rfl))), Sta.start ev_SIOOBE_FORMATTER (Or.inl (hsets _ (List.mem_of_getElem? (i := 7) rfl))), rf_SIOOBE_FORMATTER, own_nz ev_COMPACT_STRINGS (Cond.before_iff.mp (hsets _ (List.mem_of_getElem? (i := 2) rfl)))⟩ (Old.start s)  p e ha hc hk s m _ below hf ((Spec.applies_iff_loose hf).mp happ).1 ⟨rfl, State.Warmed39.refl s, rfl⟩ trivial
  refine ⟨n, _, h1, h2, h3, hpost _ _ _ _ _ _ ⟨Cond.after_iff.mpr rfl, Cond.after_iff.mpr (eq_i res_at (Term.int_eval (1)) rfl), trivial⟩ ⟨hq.1, hq.2.1, (hq.2.2.sift fun y hy => Or.inr (N y hy)).mono (by decide) (by decide)⟩⟩
theorem main_1_1 : Claimed_1_1 := comes_1 fun _ _ _ _ _ _ h hF => ⟨h.1, hF⟩
theorem main_1_2 : Claimed_1_2 := comes_1 fun _ _ _ _ _ _ h hF => ⟨h.2.1, hF⟩
end Jvm.Pilot.@@N@@
namespace Jvm.Pilot.@@N@@
open Jvm Jvm.ClassFile Sem Op Lib Jvm.Free Jvm.Stand Jvm.Pilot.@@N@@.Jvm.D
/-! MADE BY PROGRAM (witnessworld.py) out of the Statement's table words and the real class files: 20 classes; the members and pool entries that the words name. The judged class is class 1, her method 1. -/
namespace start1
open Jvm.ClassFile
def u (s : String) : CpInfo := .utf8 (stringToUtf16 s)
/-- a pool by its gaps: so many unusable entries, then the entry; so many at the end -/
def gap : Nat → List CpInfo → List CpInfo
  | 0, r => r
  | n + 1, r => .unusable :: gap n r
def poolList (es : List (Nat × CpInfo)) (last : Nat) : List CpInfo := es.foldr (fun e r => gap e.1 (e.2 :: r)) (gap last [])
def pool (es : List (Nat × CpInfo)) (last : Nat) : Array CpInfo := ⟨poolList es last⟩
def fileOf (pool : Array CpInfo) (this : Nat) (attrs : Array Attribute := #[]) (ms : Array MethodInfo := #[]) (fl : Nat := 33) (sup : Nat := 0) (ifs : Array Nat := #[]) (fds : Array FieldInfo := #[]) : ClassFile where
  minorVersion := 0
  majorVersion := 65
  constantPool := pool
  accessFlags := fl
  thisClass := this
  superClass := sup
  interfaces := ifs
  fields := fds
  methods := ms
  attributes := attrs
def plain (name : String) (sup : Option ClassId) : Class where
  name := name
  kind := .ordinary
  loader := none
  accessFlags := 33
  super := sup
  interfaces := #[]
  cf := none
  fields := #[]
  methods := #[]
  instanceTypes := #[]
  staticTypes := #[]
  resolved := #[]
  callSites := []
  init := .initialized
  statics := none
  mirror := none

def pool0 : Array CpInfo := pool [(5, u "<init>"), (0, u "()V"), (1, .class_ 10), (1, u "java/lang/Object")] 113

def k0c0 : Code := { maxStack := 0, maxLocals := 1, code := object_method_1_code, exceptionTable := #[], attributes := #[] }
def k0m0 : Method := { name := "<init>", desc := "()V", sig := { parameters := [], returnType := none }, accessFlags := 1, code := some k0c0 }
/-- java/lang/Object -/
def k0 : Class := { plain "java/lang/Object" none with
  accessFlags := 33
  interfaces := #[]
  cf := some (fileOf pool0 8 #[] #[{ accessFlags := 1, nameIndex := 5, descriptorIndex := 6, attributes := #[] }] 33 0 #[] #[])
  fields := #[]
  methods := #[k0m0]
  instanceTypes := #[]
  staticTypes := #[]
  resolved := Array.replicate 124 none
  statics := none }

def pool1 : Array CpInfo := pool [(2, .class_ 4), (1, u "java/lang/Object"), (0, u "<init>"), (0, u "()V"), (0, .class_ 8), (0, u "java/lang/String"), (0, .methodref 7 10), (0, .nameAndType 5 11), (0, u "([C)V"), (0, .methodref 7 13), (0, .nameAndType 14 15), (0, u "valueOf"), (0, u "(C)Ljava/lang/String;"), (0, .methodref 17 18), (0, .class_ 19), (0, .nameAndType 20 21), (0, u "com/example/apportion/apportion/wire/WireWriter"), (0, u "carries"), (0, u "(IILjava/lang/String;ZLjava/lang/String;)Z"), (0, .class_ 23), (0, u "com/example/apportion/apportion/wire/WireWriterCarriesPinLaw"), (2, u "law"), (0, u "(IIIII)Z")] 5

def k1m0 : Method := { name := "<init>", desc := "()V", sig := { parameters := [], returnType := none }, accessFlags := 2, code := none }
def k1c1 : Code := { maxStack := 5, maxLocals := 13, code := code, exceptionTable := #[], attributes := #[] }
def k1m1 : Method := { name := "law", desc := "(IIIII)Z", sig := { parameters := [.int, .int, .int, .int, .int], returnType := some .boolean }, accessFlags := 9, code := some k1c1 }
/-- com/example/apportion/apportion/wire/WireWriterCarriesPinLaw -/
def k1 : Class := { plain "com/example/apportion/apportion/wire/WireWriterCarriesPinLaw" (some 0) with
  accessFlags := 49
  interfaces := #[]
  cf := some (fileOf pool1 22 #[] #[{ accessFlags := 2, nameIndex := 5, descriptorIndex := 6, attributes := #[] }, { accessFlags := 9, nameIndex := 26, descriptorIndex := 27, attributes := #[] }] 49 2 #[] #[])
  fields := #[]
  methods := #[k1m0, k1m1]
  instanceTypes := #[]
  staticTypes := #[]
  resolved := Array.replicate 33 none
  statics := none }

def pool2 : Array CpInfo := pool [(1, .class_ 2), (0, u "java/io/Serializable"), (0, .class_ 4), (0, u "java/lang/Object")] 2

/-- java/io/Serializable -/
def k2 : Class := { plain "java/io/Serializable" (some 0) with
  accessFlags := 1537
  interfaces := #[]
  cf := some (fileOf pool2 1 #[] #[] 1537 3 #[] #[])
  fields := #[]
  methods := #[]
  instanceTypes := #[]
  staticTypes := #[]
  resolved := Array.replicate 7 none
  statics := none }

def pool3 : Array CpInfo := pool [(1, .class_ 2), (0, u "java/lang/Comparable"), (0, .class_ 4), (0, u "java/lang/Object")] 7

/-- java/lang/Comparable -/
def k3 : Class := { plain "java/lang/Comparable" (some 0) with
  accessFlags := 1537
  interfaces := #[]
  cf := some (fileOf pool3 1 #[] #[] 1537 3 #[] #[])
  fields := #[]
  methods := #[]
  instanceTypes := #[]
  staticTypes := #[]
  resolved := Array.replicate 12 none
  statics := none }

def pool4 : Array CpInfo := pool [(2, .class_ 4), (1, u "java/lang/CharSequence"), (42, .class_ 48), (0, u "java/lang/CharSequence$1CodePointIterator"), (10, .class_ 60), (0, u "java/lang/CharSequence$1CharIterator"), (5, .class_ 67), (0, u "java/lang/Object")] 63

/-- java/lang/CharSequence -/
def k4 : Class := { plain "java/lang/CharSequence" (some 0) with
  accessFlags := 1537
  interfaces := #[]
  cf := some (fileOf pool4 2 #[.nestMembers #[47, 59]] #[] 1537 66 #[] #[])
  fields := #[]
  methods := #[]
  instanceTypes := #[]
  staticTypes := #[]
  resolved := Array.replicate 131 none
  statics := none }

def pool5 : Array CpInfo := pool [(1, .class_ 2), (0, u "java/lang/constant/Constable"), (0, .class_ 4), (0, u "java/lang/Object")] 6

/-- java/lang/constant/Constable -/
def k5 : Class := { plain "java/lang/constant/Constable" (some 0) with
  accessFlags := 1537
  interfaces := #[]
  cf := some (fileOf pool5 1 #[] #[] 1537 3 #[] #[])
  fields := #[]
  methods := #[]
  instanceTypes := #[]
  staticTypes := #[]
  resolved := Array.replicate 11 none
  statics := none }

def pool6 : Array CpInfo := pool [(1, .class_ 2), (0, u "java/lang/constant/ConstantDesc"), (0, .class_ 4), (0, u "java/lang/Object")] 32

/-- java/lang/constant/ConstantDesc -/
def k6 : Class := { plain "java/lang/constant/ConstantDesc" (some 0) with
  accessFlags := 1537
  interfaces := #[]
  cf := some (fileOf pool6 1 #[] #[] 1537 3 #[] #[])
  fields := #[]
  methods := #[]
  instanceTypes := #[]
  staticTypes := #[]
  resolved := Array.replicate 37 none
  statics := none }

def pool7 : Array CpInfo := pool [(1, .methodref 2 3), (0, .class_ 4), (0, .nameAndType 5 6), (0, u "java/lang/Object"), (0, u "<init>"), (0, u "()V"), (2, .fieldref 10 11), (0, .class_ 12), (0, .nameAndType 13 14), (0, u "java/lang/String"), (0, u "value"), (0, u "[B"), (0, .fieldref 10 16), (0, .nameAndType 17 18), (0, u "coder"), (0, u "B"), (2, u "hash"), (0, u "I"), (2, u "hashIsZero"), (0, u "Z"), (0, .methodref 10 28), (0, .nameAndType 5 29), (0, u "([CIILjava/lang/Void;)V"), (8, .fieldref 10 39), (0, .nameAndType 40 26), (0, u "COMPACT_STRINGS"), (1, .class_ 44), (1, u "java/lang/StringUTF16"), (0, u "compress"), (1, .methodref 42 48), (0, .nameAndType 49 50), (0, u "coderFromArrayLen"), (0, u "([BI)B"), (2, u "toBytes"), (53, .class_ 109), (1, u "java/lang/StringLatin1"), (67, .methodref 42 178), (0, .nameAndType 45 179), (0, u "([CII)[B"), (29, .methodref 10 210), (0, .nameAndType 5 211), (0, u "([BB)V"), (157, u "(C)Z"), (205, .class_ 576), (0, u "java/lang/CharSequence"), (22, u "CASE_INSENSITIVE_ORDER"), (0, u "Ljava/util/Comparator;"), (181, u "valueOf"), (0, u "(C)Ljava/lang/String;"), (226, u "([C)V"), (4, .methodref 107 1016), (0, .nameAndType 1017 369), (0, u "canEncode"), (0, .methodref 107 1019), (0, .nameAndType 53 1020), (0, u "(C)[B"), (80, u "serialPersistentFields"), (0, u "[Ljava/io/ObjectStreamField;"), (0, .class_ 1104), (0, u "java/lang/String$CaseInsensitiveComparator"), (1, .class_ 1107), (0, u "java/io/Serializable"), (0, .class_ 1109), (0, u "java/lang/Comparable"), (0, .class_ 1111), (0, u "java/lang/constant/Constable"), (0, .class_ 1113), (0, u "java/lang/constant/ConstantDesc"), (2, u "serialVersionUID"), (0, u "J"), (3, u "REPL"), (0, u "C"), (2, u "LATIN1"), (1, u "UTF16")] 323

def k7m0 : Method := { name := "<init>", desc := "()V", sig := { parameters := [], returnType := none }, accessFlags := 1, code := none }
def k7c1 : Code := { maxStack := 5, maxLocals := 2, code := jdk_42_method_3_code, exceptionTable := #[], attributes := #[] }
def k7m1 : Method := { name := "<init>", desc := "([C)V", sig := { parameters := [(.array .char)], returnType := none }, accessFlags := 1, code := some k7c1 }
def k7c2 : Code := { maxStack := 4, maxLocals := 1, code := jdk_42_method_139_code, exceptionTable := #[], attributes := #[] }
def k7m2 : Method := { name := "valueOf", desc := "(C)Ljava/lang/String;", sig := { parameters := [.char], returnType := some (.object "java/lang/String") }, accessFlags := 9, code := some k7c2 }
def k7c3 : Code := { maxStack := 4, maxLocals := 6, code := jdk_42_method_149_code, exceptionTable := #[], attributes := #[] }
def k7m3 : Method := { name := "<init>", desc := "([CIILjava/lang/Void;)V", sig := { parameters := [(.array .char), .int, .int, (.object "java/lang/Void")], returnType := none }, accessFlags := 2, code := some k7c3 }
def k7c4 : Code := { maxStack := 2, maxLocals := 3, code := jdk_42_method_151_code, exceptionTable := #[], attributes := #[] }
def k7m4 : Method := { name := "<init>", desc := "([BB)V", sig := { parameters := [(.array .byte), .byte], returnType := none }, accessFlags := 0, code := some k7c4 }
/-- java/lang/String -/
def k7 : Class := { plain "java/lang/String" (some 0) with
  accessFlags := 49
  interfaces := #[2, 3, 4, 5, 6]
  cf := some (fileOf pool7 10 #[.nestMembers #[1103]] #[{ accessFlags := 1, nameIndex := 5, descriptorIndex := 6, attributes := #[] }, { accessFlags := 1, nameIndex := 5, descriptorIndex := 1010, attributes := #[] }, { accessFlags := 9, nameIndex := 782, descriptorIndex := 783, attributes := #[] }, { accessFlags := 2, nameIndex := 5, descriptorIndex := 29, attributes := #[] }, { accessFlags := 0, nameIndex := 5, descriptorIndex := 211, attributes := #[] }] 49 2 #[1106, 1108, 575, 1110, 1112] #[{ accessFlags := 18, nameIndex := 13, descriptorIndex := 14, attributes := #[] }, { accessFlags := 18, nameIndex := 17, descriptorIndex := 18, attributes := #[] }, { accessFlags := 2, nameIndex := 21, descriptorIndex := 22, attributes := #[] }, { accessFlags := 2, nameIndex := 25, descriptorIndex := 26, attributes := #[] }, { accessFlags := 26, nameIndex := 1116, descriptorIndex := 1117, attributes := #[] }, { accessFlags := 24, nameIndex := 40, descriptorIndex := 26, attributes := #[] }, { accessFlags := 26, nameIndex := 1101, descriptorIndex := 1102, attributes := #[] }, { accessFlags := 26, nameIndex := 1121, descriptorIndex := 1122, attributes := #[] }, { accessFlags := 25, nameIndex := 599, descriptorIndex := 600, attributes := #[] }, { accessFlags := 24, nameIndex := 1125, descriptorIndex := 18, attributes := #[] }, { accessFlags := 24, nameIndex := 1127, descriptorIndex := 18, attributes := #[] }])
  fields := #[{ name := "value", type := (.array .byte), accessFlags := 18, slot := 0, constantValue := 0 }, { name := "coder", type := .byte, accessFlags := 18, slot := 1, constantValue := 0 }, { name := "hash", type := .int, accessFlags := 2, slot := 2, constantValue := 0 }, { name := "hashIsZero", type := .boolean, accessFlags := 2, slot := 3, constantValue := 0 }, { name := "serialVersionUID", type := .long, accessFlags := 26, slot := 0, constantValue := 0 }, { name := "COMPACT_STRINGS", type := .boolean, accessFlags := 24, slot := 1, constantValue := 0 }, { name := "serialPersistentFields", type := (.array (.object "java/io/ObjectStreamField")), accessFlags := 26, slot := 2, constantValue := 0 }, { name := "REPL", type := .char, accessFlags := 26, slot := 3, constantValue := 0 }, { name := "CASE_INSENSITIVE_ORDER", type := (.object "java/util/Comparator"), accessFlags := 25, slot := 4, constantValue := 0 }, { name := "LATIN1", type := .byte, accessFlags := 24, slot := 5, constantValue := 0 }, { name := "UTF16", type := .byte, accessFlags := 24, slot := 6, constantValue := 0 }]
  methods := #[k7m0, k7m1, k7m2, k7m3, k7m4]
  instanceTypes := #[(.array .byte), .byte, .int, .boolean]
  staticTypes := #[.long, .boolean, (.array (.object "java/io/ObjectStreamField")), .char, (.object "java/util/Comparator"), .byte, .byte]
  resolved := Array.replicate 1451 none
  statics := some 0 }

def pool8 : Array CpInfo := pool [(6, .class_ 8), (1, u "java/lang/Object"), (0, u "<init>"), (0, u "()V"), (1, .class_ 14), (1, u "java/lang/StringUTF16"), (31, u "$assertionsDisabled"), (0, u "Z"), (13, u "HI_BYTE_SHIFT"), (0, u "I"), (2, u "LO_BYTE_SHIFT"), (49, .methodref 12 116), (0, .nameAndType 117 118), (0, u "compress"), (0, u "([CI[BII)I"), (3, u "([CII)[B"), (138, u "coderFromArrayLen"), (0, u "([BI)B"), (106, .class_ 371), (1, u "java/lang/StringUTF16$LinesSpliterator"), (58, u "MAX_LENGTH"), (196, .class_ 628), (0, u "java/lang/StringUTF16$CodePointsSpliterator"), (0, .class_ 630), (0, u "java/lang/StringUTF16$CharsSpliterator")] 4

def k8m0 : Method := { name := "<init>", desc := "()V", sig := { parameters := [], returnType := none }, accessFlags := 0, code := none }
def k8c1 : Code := { maxStack := 2, maxLocals := 2, code := jdk_52_method_15_code, exceptionTable := #[], attributes := #[] }
def k8m1 : Method := { name := "coderFromArrayLen", desc := "([BI)B", sig := { parameters := [(.array .byte), .int], returnType := some .byte }, accessFlags := 8, code := some k8c1 }
def k8c2 : Code := { maxStack := 5, maxLocals := 6, code := jdk_52_method_16_code, exceptionTable := #[], attributes := #[] }
def k8m2 : Method := { name := "compress", desc := "([CII)[B", sig := { parameters := [(.array .char), .int, .int], returnType := some (.array .byte) }, accessFlags := 9, code := some k8c2 }
def k8c3 : Code := { maxStack := 3, maxLocals := 7, code := jdk_52_method_21_code, exceptionTable := #[], attributes := #[] }
def k8m3 : Method := { name := "compress", desc := "([CI[BII)I", sig := { parameters := [(.array .char), .int, (.array .byte), .int, .int], returnType := some .int }, accessFlags := 9, code := some k8c3 }
/-- java/lang/StringUTF16 -/
def k8 : Class := { plain "java/lang/StringUTF16" (some 0) with
  accessFlags := 48
  interfaces := #[]
  cf := some (fileOf pool8 12 #[.nestMembers #[627, 629, 369]] #[{ accessFlags := 0, nameIndex := 9, descriptorIndex := 10, attributes := #[] }, { accessFlags := 8, nameIndex := 261, descriptorIndex := 262, attributes := #[] }, { accessFlags := 9, nameIndex := 117, descriptorIndex := 122, attributes := #[] }, { accessFlags := 9, nameIndex := 117, descriptorIndex := 118, attributes := #[] }] 48 6 #[] #[{ accessFlags := 26, nameIndex := 61, descriptorIndex := 62, attributes := #[] }, { accessFlags := 26, nameIndex := 65, descriptorIndex := 62, attributes := #[] }, { accessFlags := 24, nameIndex := 430, descriptorIndex := 62, attributes := #[] }, { accessFlags := 4120, nameIndex := 46, descriptorIndex := 47, attributes := #[] }])
  fields := #[{ name := "HI_BYTE_SHIFT", type := .int, accessFlags := 26, slot := 0, constantValue := 0 }, { name := "LO_BYTE_SHIFT", type := .int, accessFlags := 26, slot := 1, constantValue := 0 }, { name := "MAX_LENGTH", type := .int, accessFlags := 24, slot := 2, constantValue := 0 }, { name := "$assertionsDisabled", type := .boolean, accessFlags := 4120, slot := 3, constantValue := 0 }]
  methods := #[k8m0, k8m1, k8m2, k8m3]
  instanceTypes := #[]
  staticTypes := #[.int, .int, .int, .boolean]
  resolved := Array.replicate 635 none
  statics := none }

def pool9 : Array CpInfo := pool [(4, .class_ 6), (1, u "java/lang/Object"), (0, u "<init>"), (0, u "()V"), (5, .class_ 16), (1, u "java/lang/StringLatin1"), (73, u "canEncode"), (14, u "(C)Z"), (15, u "$assertionsDisabled"), (0, u "Z"), (98, .class_ 223), (1, u "java/lang/StringLatin1$LinesSpliterator"), (156, u "toBytes"), (1, u "(C)[B"), (7, .class_ 391), (0, u "java/lang/StringLatin1$CharsSpliterator")] 3

def k9m0 : Method := { name := "<init>", desc := "()V", sig := { parameters := [], returnType := none }, accessFlags := 0, code := none }
def k9c1 : Code := { maxStack := 2, maxLocals := 1, code := jdk_43_method_3_code, exceptionTable := #[], attributes := #[] }
def k9m1 : Method := { name := "canEncode", desc := "(C)Z", sig := { parameters := [.char], returnType := some .boolean }, accessFlags := 9, code := some k9c1 }
def k9c2 : Code := { maxStack := 4, maxLocals := 1, code := jdk_43_method_46_code, exceptionTable := #[], attributes := #[] }
def k9m2 : Method := { name := "toBytes", desc := "(C)[B", sig := { parameters := [.char], returnType := some (.array .byte) }, accessFlags := 9, code := some k9c2 }
/-- java/lang/StringLatin1 -/
def k9 : Class := { plain "java/lang/StringLatin1" (some 0) with
  accessFlags := 48
  interfaces := #[]
  cf := some (fileOf pool9 14 #[.nestMembers #[390, 221]] #[{ accessFlags := 0, nameIndex := 7, descriptorIndex := 8, attributes := #[] }, { accessFlags := 9, nameIndex := 90, descriptorIndex := 105, attributes := #[] }, { accessFlags := 9, nameIndex := 380, descriptorIndex := 382, attributes := #[] }] 48 4 #[] #[{ accessFlags := 4120, nameIndex := 121, descriptorIndex := 122, attributes := #[] }])
  fields := #[{ name := "$assertionsDisabled", type := .boolean, accessFlags := 4120, slot := 0, constantValue := 0 }]
  methods := #[k9m0, k9m1, k9m2]
  instanceTypes := #[]
  staticTypes := #[.boolean]
  resolved := Array.replicate 395 none
  statics := none }

def pool10 : Array CpInfo := pool [(2, .class_ 4), (1, u "java/lang/Object"), (0, u "<init>"), (0, u "()V"), (4, .class_ 13), (1, u "com/example/apportion/apportion/wire/WireWriter"), (0, u "message"), (0, u "Ljava/io/ByteArrayOutputStream;"), (91, u "NULL_LENGTH"), (0, u "I"), (7, u "carries"), (0, u "(IILjava/lang/String;ZLjava/lang/String;)Z")] 31

def k10m0 : Method := { name := "<init>", desc := "()V", sig := { parameters := [], returnType := none }, accessFlags := 0, code := none }
def k10c1 : Code := { maxStack := 6, maxLocals := 5, code := prog_36_method_3_code, exceptionTable := #[], attributes := #[] }
def k10m1 : Method := { name := "carries", desc := "(IILjava/lang/String;ZLjava/lang/String;)Z", sig := { parameters := [.int, .int, (.object "java/lang/String"), .boolean, (.object "java/lang/String")], returnType := some .boolean }, accessFlags := 8, code := some k10c1 }
/-- com/example/apportion/apportion/wire/WireWriter -/
def k10 : Class := { plain "com/example/apportion/apportion/wire/WireWriter" (some 0) with
  accessFlags := 48
  interfaces := #[]
  cf := some (fileOf pool10 11 #[] #[{ accessFlags := 0, nameIndex := 5, descriptorIndex := 6, attributes := #[] }, { accessFlags := 8, nameIndex := 116, descriptorIndex := 117, attributes := #[] }] 48 2 #[] #[{ accessFlags := 26, nameIndex := 107, descriptorIndex := 108, attributes := #[] }, { accessFlags := 18, nameIndex := 14, descriptorIndex := 15, attributes := #[] }])
  fields := #[{ name := "NULL_LENGTH", type := .int, accessFlags := 26, slot := 0, constantValue := 0 }, { name := "message", type := (.object "java/io/ByteArrayOutputStream"), accessFlags := 18, slot := 0, constantValue := 0 }]
  methods := #[k10m0, k10m1]
  instanceTypes := #[(.object "java/io/ByteArrayOutputStream")]
  staticTypes := #[.int]
  resolved := Array.replicate 149 none
  statics := none }

def pool11 : Array CpInfo := pool [(2, .class_ 4), (1, u "java/lang/Object"), (0, u "<init>"), (0, u "()V"), (17, .class_ 26), (1, u "jdk/internal/util/Preconditions"), (28, .class_ 56), (0, u "jdk/internal/util/Preconditions$4"), (57, .class_ 115), (0, u "jdk/internal/util/Preconditions$1"), (7, u "SIOOBE_FORMATTER"), (0, u "Ljava/util/function/BiFunction;"), (0, .class_ 126), (0, u "jdk/internal/util/Preconditions$2"), (3, u "AIOOBE_FORMATTER"), (0, .class_ 132), (0, u "jdk/internal/util/Preconditions$3"), (3, u "IOOBE_FORMATTER")] 57

def k11m0 : Method := { name := "<init>", desc := "()V", sig := { parameters := [], returnType := none }, accessFlags := 1, code := none }
/-- jdk/internal/util/Preconditions -/
def k11 : Class := { plain "jdk/internal/util/Preconditions" (some 0) with
  accessFlags := 33
  interfaces := #[]
  cf := some (fileOf pool11 24 #[.nestMembers #[55, 131, 125, 114]] #[{ accessFlags := 1, nameIndex := 5, descriptorIndex := 6, attributes := #[] }] 33 2 #[] #[{ accessFlags := 25, nameIndex := 123, descriptorIndex := 124, attributes := #[] }, { accessFlags := 25, nameIndex := 130, descriptorIndex := 124, attributes := #[] }, { accessFlags := 25, nameIndex := 136, descriptorIndex := 124, attributes := #[] }])
  fields := #[{ name := "SIOOBE_FORMATTER", type := (.object "java/util/function/BiFunction"), accessFlags := 25, slot := 0, constantValue := 0 }, { name := "AIOOBE_FORMATTER", type := (.object "java/util/function/BiFunction"), accessFlags := 25, slot := 1, constantValue := 0 }, { name := "IOOBE_FORMATTER", type := (.object "java/util/function/BiFunction"), accessFlags := 25, slot := 2, constantValue := 0 }]
  methods := #[k11m0]
  instanceTypes := #[]
  staticTypes := #[(.object "java/util/function/BiFunction"), (.object "java/util/function/BiFunction"), (.object "java/util/function/BiFunction")]
  resolved := Array.replicate 194 none
  statics := some 1 }

def pool12 : Array CpInfo := pool [(9, u "<init>"), (6, .class_ 18), (1, u "java/lang/Object"), (0, u "()V"), (1, .class_ 23), (1, u "jdk/internal/util/ArraysSupport"), (0, u "LOG2_ARRAY_LONG_INDEX_SCALE"), (0, u "I"), (2, u "U"), (0, u "Ljdk/internal/misc/Unsafe;"), (8, u "BIG_ENDIAN"), (0, u "Z"), (8, u "LOG2_BYTE_BIT_SIZE"), (4, u "LOG2_ARRAY_INT_INDEX_SCALE"), (54, u "JLA"), (0, u "Ljdk/internal/access/JavaLangAccess;"), (11, u "LOG2_ARRAY_BOOLEAN_INDEX_SCALE"), (9, u "LOG2_ARRAY_BYTE_INDEX_SCALE"), (5, u "LOG2_ARRAY_CHAR_INDEX_SCALE"), (5, u "LOG2_ARRAY_SHORT_INDEX_SCALE"), (18, u "LOG2_ARRAY_FLOAT_INDEX_SCALE"), (24, u "LOG2_ARRAY_DOUBLE_INDEX_SCALE"), (89, u "T_BOOLEAN"), (2, u "T_CHAR"), (1, u "T_FLOAT"), (1, u "T_DOUBLE"), (1, u "T_BYTE"), (1, u "T_SHORT"), (1, u "T_INT"), (1, u "T_LONG"), (1, u "SOFT_MAX_ARRAY_LENGTH")] 83

def k12m0 : Method := { name := "<init>", desc := "()V", sig := { parameters := [], returnType := none }, accessFlags := 2, code := none }
/-- jdk/internal/util/ArraysSupport -/
def k12 : Class := { plain "jdk/internal/util/ArraysSupport" (some 0) with
  accessFlags := 33
  interfaces := #[]
  cf := some (fileOf pool12 21 #[] #[{ accessFlags := 2, nameIndex := 9, descriptorIndex := 19, attributes := #[] }] 33 16 #[] #[{ accessFlags := 24, nameIndex := 28, descriptorIndex := 29, attributes := #[] }, { accessFlags := 26, nameIndex := 38, descriptorIndex := 39, attributes := #[] }, { accessFlags := 25, nameIndex := 121, descriptorIndex := 25, attributes := #[] }, { accessFlags := 25, nameIndex := 131, descriptorIndex := 25, attributes := #[] }, { accessFlags := 25, nameIndex := 137, descriptorIndex := 25, attributes := #[] }, { accessFlags := 25, nameIndex := 143, descriptorIndex := 25, attributes := #[] }, { accessFlags := 25, nameIndex := 53, descriptorIndex := 25, attributes := #[] }, { accessFlags := 25, nameIndex := 24, descriptorIndex := 25, attributes := #[] }, { accessFlags := 25, nameIndex := 162, descriptorIndex := 25, attributes := #[] }, { accessFlags := 25, nameIndex := 187, descriptorIndex := 25, attributes := #[] }, { accessFlags := 26, nameIndex := 48, descriptorIndex := 25, attributes := #[] }, { accessFlags := 25, nameIndex := 277, descriptorIndex := 25, attributes := #[] }, { accessFlags := 25, nameIndex := 280, descriptorIndex := 25, attributes := #[] }, { accessFlags := 25, nameIndex := 282, descriptorIndex := 25, attributes := #[] }, { accessFlags := 25, nameIndex := 284, descriptorIndex := 25, attributes := #[] }, { accessFlags := 25, nameIndex := 286, descriptorIndex := 25, attributes := #[] }, { accessFlags := 25, nameIndex := 288, descriptorIndex := 25, attributes := #[] }, { accessFlags := 25, nameIndex := 290, descriptorIndex := 25, attributes := #[] }, { accessFlags := 25, nameIndex := 292, descriptorIndex := 25, attributes := #[] }, { accessFlags := 26, nameIndex := 108, descriptorIndex := 109, attributes := #[] }, { accessFlags := 25, nameIndex := 294, descriptorIndex := 25, attributes := #[] }])
  fields := #[{ name := "U", type := (.object "jdk/internal/misc/Unsafe"), accessFlags := 24, slot := 0, constantValue := 0 }, { name := "BIG_ENDIAN", type := .boolean, accessFlags := 26, slot := 1, constantValue := 0 }, { name := "LOG2_ARRAY_BOOLEAN_INDEX_SCALE", type := .int, accessFlags := 25, slot := 2, constantValue := 0 }, { name := "LOG2_ARRAY_BYTE_INDEX_SCALE", type := .int, accessFlags := 25, slot := 3, constantValue := 0 }, { name := "LOG2_ARRAY_CHAR_INDEX_SCALE", type := .int, accessFlags := 25, slot := 4, constantValue := 0 }, { name := "LOG2_ARRAY_SHORT_INDEX_SCALE", type := .int, accessFlags := 25, slot := 5, constantValue := 0 }, { name := "LOG2_ARRAY_INT_INDEX_SCALE", type := .int, accessFlags := 25, slot := 6, constantValue := 0 }, { name := "LOG2_ARRAY_LONG_INDEX_SCALE", type := .int, accessFlags := 25, slot := 7, constantValue := 0 }, { name := "LOG2_ARRAY_FLOAT_INDEX_SCALE", type := .int, accessFlags := 25, slot := 8, constantValue := 0 }, { name := "LOG2_ARRAY_DOUBLE_INDEX_SCALE", type := .int, accessFlags := 25, slot := 9, constantValue := 0 }, { name := "LOG2_BYTE_BIT_SIZE", type := .int, accessFlags := 26, slot := 10, constantValue := 0 }, { name := "T_BOOLEAN", type := .int, accessFlags := 25, slot := 11, constantValue := 0 }, { name := "T_CHAR", type := .int, accessFlags := 25, slot := 12, constantValue := 0 }, { name := "T_FLOAT", type := .int, accessFlags := 25, slot := 13, constantValue := 0 }, { name := "T_DOUBLE", type := .int, accessFlags := 25, slot := 14, constantValue := 0 }, { name := "T_BYTE", type := .int, accessFlags := 25, slot := 15, constantValue := 0 }, { name := "T_SHORT", type := .int, accessFlags := 25, slot := 16, constantValue := 0 }, { name := "T_INT", type := .int, accessFlags := 25, slot := 17, constantValue := 0 }, { name := "T_LONG", type := .int, accessFlags := 25, slot := 18, constantValue := 0 }, { name := "JLA", type := (.object "jdk/internal/access/JavaLangAccess"), accessFlags := 26, slot := 19, constantValue := 0 }, { name := "SOFT_MAX_ARRAY_LENGTH", type := .int, accessFlags := 25, slot := 20, constantValue := 0 }]
  methods := #[k12m0]
  instanceTypes := #[]
  staticTypes := #[(.object "jdk/internal/misc/Unsafe"), .boolean, .int, .int, .int, .int, .int, .int, .int, .int, .int, .int, .int, .int, .int, .int, .int, .int, .int, (.object "jdk/internal/access/JavaLangAccess"), .int]
  resolved := Array.replicate 378 none
  statics := none }

def pool13 : Array CpInfo := pool [(1, u "java/lang/Cloneable"), (0, .class_ 1), (0, u "java/lang/Object"), (0, .class_ 3)] 3

/-- java/lang/Cloneable -/
def k13 : Class := { plain "java/lang/Cloneable" (some 0) with
  accessFlags := 1537
  interfaces := #[]
  cf := some (fileOf pool13 2 #[] #[] 1537 4 #[] #[])
  fields := #[]
  methods := #[]
  instanceTypes := #[]
  staticTypes := #[]
  resolved := Array.replicate 8 none
  statics := none }

/-- the primitive byte -/
def k14 : Class := { plain "byte" none with kind := .primitive 'B', accessFlags := 0x411 }
/-- [B -/
def k15 : Class := { plain "[B" (some 0) with kind := .array 14 .byte, interfaces := #[13, 2], accessFlags := 1041 }

/-- the primitive char -/
def k16 : Class := { plain "char" none with kind := .primitive 'C', accessFlags := 0x411 }
/-- [C -/
def k17 : Class := { plain "[C" (some 0) with kind := .array 16 .char, interfaces := #[13, 2], accessFlags := 1041 }

/-- the primitive int -/
def k18 : Class := { plain "int" none with kind := .primitive 'I', accessFlags := 0x411 }
/-- [I -/
def k19 : Class := { plain "[I" (some 0) with kind := .array 18 .int, interfaces := #[13, 2], accessFlags := 1041 }

def heap : Heap := #[{ cls := 7, slots := #[.long 0, .int 1, .null, .int 0, .null, .int 0, .int 0], vm := .statics 7 },
  { cls := 11, slots := #[.null, .null, .null], vm := .statics 11 }]
def classes : Array Class := #[k0, k1, k2, k3, k4, k5, k6, k7, k8, k9, k10, k11, k12, k13, k14, k15, k16, k17, k18, k19]
def interned : List (Array UInt16 × Addr) := []
def slotsUsed : Nat := 10
def theMethod : MethodId := ⟨1, 1⟩
def args0 : Array Value := #[.int 1, .int 2, .int 0, .int 65, .int 66]
def aboutOver (below : List Frame) : State where
  vm := { classes := classes, interned := interned.toArray }
  heap := heap
  slotsUsed := slotsUsed
  threads := #[{ frames := .invoking theMethod args0 :: below }]
def below0 : List Frame := [.native { method := ⟨0, 0⟩, args := #[] }]
def about1 : State := aboutOver below0
def p0 : Program := .bare "" "" ""
def e0 : Env := launch0.env 0 0 0
theorem w_frames : about1.frames = Frame.invoking theMethod args0 :: below0 := rfl
set_option maxRecDepth 65536 in
theorem w_args : argsFit about1.vm theMethod args0 = true := by decide +kernel
set_option maxRecDepth 65536 in
theorem w_heap : heapFits about1 = true := by decide +kernel
set_option maxRecDepth 65536 in
theorem w_runnable : about1.curStatus? = some .runnable := by decide +kernel
set_option maxRecDepth 65536 in
theorem w_alone : about1.alone = true := by decide +kernel
set_option maxRecDepth 65536 in
theorem w_named : about1.methodNamed? x = some theMethod := by decide +kernel
set_option maxRecDepth 65536 in
theorem w_hears : about1.hears theMethod below0 = true := by decide +kernel
set_option maxRecDepth 65536 in
theorem w_ripe : about1.ripe theMethod args0 below0 = true := by decide +kernel
theorem w_running : about1.status = .running := rfl
set_option maxRecDepth 65536 in
theorem w_room : about1.hasRoom e0.platform room_1 = true :=
  launch0.hasRoom_least _ room_1 (by decide +kernel) (by decide +kernel) (by decide +kernel) (by decide +kernel) (by decide +kernel) (by decide +kernel)
theorem allAtoms_all (ts : List Jvm.Cond) (a : Array Jvm.Value) (st : Jvm.State) : (allAtoms ts).before a st = ts.all (fun c => c.before a st) := by
  induction ts with
  | nil => rfl
  | cons c t ih =>
    show (Jvm.Cond.and c (allAtoms t)).before a st = _
    rw [Jvm.Cond.before_and, ih, List.all_cons]
def words1 : List Jvm.Cond := Jvm.Cond.code x code maxLocals ret :: tables_1
/-- a 'code' word, met by the world's own term for the bytes: nothing is compared byte by byte -/
theorem code_word {y : MethodName} {bytes : ByteArray} {mx : Nat} {rt : Option FieldType} {a : Array Value} {s : State} {m : MethodId} {meth : Method} {c : Code} (h1 : s.methodNamed? y = some m) (h2 : s.vm.method? m = some meth) (h3 : meth.code = some c) (h4 : c.code = bytes)
    (h5 : (c.maxLocals == mx && c.exceptionTable.isEmpty && decide (c.maxStack ≤ mostOperands) && decide (meth.sig.returnType = rt) && !meth.locks && decide (parseMethodDescriptor y.desc = some meth.sig)) = true) : (Jvm.Cond.code y bytes mx rt).before a s = true := by
  simp only [Bool.and_eq_true, beq_iff_eq, Bool.not_eq_true', decide_eq_true_eq] at h5
  obtain ⟨⟨⟨⟨⟨g1, g2⟩, g3⟩, g4⟩, g5⟩, g6⟩ := h5
  simp [Cond.before, Cond.holds, Cond.value, h1, h2, h3, h4, g1, g2, g3, g4, g5, g6]
def isCode : Jvm.Cond → Bool
  | .code _ _ _ _ => true
  | _ => false
theorem all_split {L : List Jvm.Cond} {P : Jvm.Cond → Bool} (h1 : L.all (fun c => isCode c || P c) = true) (h2 : ∀ c ∈ L.filter isCode, P c = true) : L.all P = true := by
  refine List.all_eq_true.mpr fun c hc => ?_
  have h := List.all_eq_true.mp h1 c hc
  rcases Bool.eq_false_or_eq_true (isCode c) with hi | hi
  · exact h2 c (List.mem_filter.mpr ⟨hc, hi⟩)
  · simpa [hi] using h
set_option maxRecDepth 65536 in
theorem w_c0 : (Jvm.Cond.code x code maxLocals ret).before args0 about1 = true := code_word (m := ⟨1, 1⟩) (meth := k1m1) (c := k1c1) (by decide +kernel) rfl rfl rfl (by decide +kernel)
set_option maxRecDepth 65536 in
theorem w_c1 : (Jvm.Cond.code ({ cls := "java/lang/String", name := "<init>", desc := "([C)V" } : Jvm.MethodName) jdk_42_method_3_code (2 : Nat) (Option.none : Option Jvm.ClassFile.FieldType)).before args0 about1 = true := code_word (m := ⟨7, 1⟩) (meth := k7m1) (c := k7c1) (by decide +kernel) rfl rfl rfl (by decide +kernel)
set_option maxRecDepth 65536 in
theorem w_c2 : (Jvm.Cond.code ({ cls := "java/lang/String", name := "<init>", desc := "([CIILjava/lang/Void;)V" } : Jvm.MethodName) jdk_42_method_149_code (6 : Nat) (Option.none : Option Jvm.ClassFile.FieldType)).before args0 about1 = true := code_word (m := ⟨7, 3⟩) (meth := k7m3) (c := k7c3) (by decide +kernel) rfl rfl rfl (by decide +kernel)
set_option maxRecDepth 65536 in
theorem w_c3 : (Jvm.Cond.code ({ cls := "java/lang/Object", name := "<init>", desc := "()V" } : Jvm.MethodName) object_method_1_code (1 : Nat) (Option.none : Option Jvm.ClassFile.FieldType)).before args0 about1 = true := code_word (m := ⟨0, 0⟩) (meth := k0m0) (c := k0c0) (by decide +kernel) rfl rfl rfl (by decide +kernel)
set_option maxRecDepth 65536 in
theorem w_c4 : (Jvm.Cond.code ({ cls := "java/lang/StringUTF16", name := "compress", desc := "([CII)[B" } : Jvm.MethodName) jdk_52_method_16_code (6 : Nat) (Option.some (Jvm.ClassFile.FieldType.array Jvm.ClassFile.FieldType.byte))).before args0 about1 = true := code_word (m := ⟨8, 2⟩) (meth := k8m2) (c := k8c2) (by decide +kernel) rfl rfl rfl (by decide +kernel)
set_option maxRecDepth 65536 in
theorem w_c5 : (Jvm.Cond.code ({ cls := "java/lang/StringUTF16", name := "compress", desc := "([CI[BII)I" } : Jvm.MethodName) jdk_52_method_21_code (7 : Nat) (Option.some Jvm.ClassFile.FieldType.int)).before args0 about1 = true := code_word (m := ⟨8, 3⟩) (meth := k8m3) (c := k8c3) (by decide +kernel) rfl rfl rfl (by decide +kernel)
set_option maxRecDepth 65536 in
theorem w_c6 : (Jvm.Cond.code ({ cls := "java/lang/StringUTF16", name := "coderFromArrayLen", desc := "([BI)B" } : Jvm.MethodName) jdk_52_method_15_code (2 : Nat) (Option.some Jvm.ClassFile.FieldType.byte)).before args0 about1 = true := code_word (m := ⟨8, 1⟩) (meth := k8m1) (c := k8c1) (by decide +kernel) rfl rfl rfl (by decide +kernel)
set_option maxRecDepth 65536 in
theorem w_c7 : (Jvm.Cond.code ({ cls := "java/lang/String", name := "valueOf", desc := "(C)Ljava/lang/String;" } : Jvm.MethodName) jdk_42_method_139_code (1 : Nat) (Option.some (Jvm.ClassFile.FieldType.object "java/lang/String"))).before args0 about1 = true := code_word (m := ⟨7, 2⟩) (meth := k7m2) (c := k7c2) (by decide +kernel) rfl rfl rfl (by decide +kernel)
set_option maxRecDepth 65536 in
theorem w_c8 : (Jvm.Cond.code ({ cls := "java/lang/StringLatin1", name := "canEncode", desc := "(C)Z" } : Jvm.MethodName) jdk_43_method_3_code (1 : Nat) (Option.some Jvm.ClassFile.FieldType.boolean)).before args0 about1 = true := code_word (m := ⟨9, 1⟩) (meth := k9m1) (c := k9c1) (by decide +kernel) rfl rfl rfl (by decide +kernel)
set_option maxRecDepth 65536 in
theorem w_c9 : (Jvm.Cond.code ({ cls := "java/lang/StringLatin1", name := "toBytes", desc := "(C)[B" } : Jvm.MethodName) jdk_43_method_46_code (1 : Nat) (Option.some (Jvm.ClassFile.FieldType.array Jvm.ClassFile.FieldType.byte))).before args0 about1 = true := code_word (m := ⟨9, 2⟩) (meth := k9m2) (c := k9c2) (by decide +kernel) rfl rfl rfl (by decide +kernel)
set_option maxRecDepth 65536 in
theorem w_c10 : (Jvm.Cond.code ({ cls := "java/lang/String", name := "<init>", desc := "([BB)V" } : Jvm.MethodName) jdk_42_method_151_code (3 : Nat) (Option.none : Option Jvm.ClassFile.FieldType)).before args0 about1 = true := code_word (m := ⟨7, 4⟩) (meth := k7m4) (c := k7c4) (by decide +kernel) rfl rfl rfl (by decide +kernel)
set_option maxRecDepth 65536 in
theorem w_c11 : (Jvm.Cond.code ({ cls := "com/example/apportion/apportion/wire/WireWriter", name := "carries", desc := "(IILjava/lang/String;ZLjava/lang/String;)Z" } : Jvm.MethodName) prog_36_method_3_code (5 : Nat) (Option.some Jvm.ClassFile.FieldType.boolean)).before args0 about1 = true := code_word (m := ⟨10, 1⟩) (meth := k10m1) (c := k10c1) (by decide +kernel) rfl rfl rfl (by decide +kernel)
def codes1 : List Jvm.Cond := [Jvm.Cond.code x code maxLocals ret, Jvm.Cond.code ({ cls := "java/lang/String", name := "<init>", desc := "([C)V" } : Jvm.MethodName) jdk_42_method_3_code (2 : Nat) (Option.none : Option Jvm.ClassFile.FieldType), Jvm.Cond.code ({ cls := "java/lang/String", name := "<init>", desc := "([CIILjava/lang/Void;)V" } : Jvm.MethodName) jdk_42_method_149_code (6 : Nat) (Option.none : Option Jvm.ClassFile.FieldType), Jvm.Cond.code ({ cls := "java/lang/Object", name := "<init>", desc := "()V" } : Jvm.MethodName) object_method_1_code (1 : Nat) (Option.none : Option Jvm.ClassFile.FieldType), Jvm.Cond.code ({ cls := "java/lang/StringUTF16", name := "compress", desc := "([CII)[B" } : Jvm.MethodName) jdk_52_method_16_code (6 : Nat) (Option.some (Jvm.ClassFile.FieldType.array Jvm.ClassFile.FieldType.byte)), Jvm.Cond.code ({ cls := "java/lang/StringUTF16", name := "compress", desc := "([CI[BII)I" } : Jvm.MethodName) jdk_52_method_21_code (7 : Nat) (Option.some Jvm.ClassFile.FieldType.int), Jvm.Cond.code ({ cls := "java/lang/StringUTF16", name := "coderFromArrayLen", desc := "([BI)B" } : Jvm.MethodName) jdk_52_method_15_code (2 : Nat) (Option.some Jvm.ClassFile.FieldType.byte), Jvm.Cond.code ({ cls := "java/lang/String", name := "valueOf", desc := "(C)Ljava/lang/String;" } : Jvm.MethodName) jdk_42_method_139_code (1 : Nat) (Option.some (Jvm.ClassFile.FieldType.object "java/lang/String")), Jvm.Cond.code ({ cls := "java/lang/StringLatin1", name := "canEncode", desc := "(C)Z" } : Jvm.MethodName) jdk_43_method_3_code (1 : Nat) (Option.some Jvm.ClassFile.FieldType.boolean), Jvm.Cond.code ({ cls := "java/lang/StringLatin1", name := "toBytes", desc := "(C)[B" } : Jvm.MethodName) jdk_43_method_46_code (1 : Nat) (Option.some (Jvm.ClassFile.FieldType.array Jvm.ClassFile.FieldType.byte)), Jvm.Cond.code ({ cls := "java/lang/String", name := "<init>", desc := "([BB)V" } : Jvm.MethodName) jdk_42_method_151_code (3 : Nat) (Option.none : Option Jvm.ClassFile.FieldType), Jvm.Cond.code ({ cls := "com/example/apportion/apportion/wire/WireWriter", name := "carries", desc := "(IILjava/lang/String;ZLjava/lang/String;)Z" } : Jvm.MethodName) prog_36_method_3_code (5 : Nat) (Option.some Jvm.ClassFile.FieldType.boolean)]
set_option maxRecDepth 65536 in
theorem codes_eq : words1.filter isCode = codes1 := rfl
theorem w_codes : ∀ c ∈ words1.filter isCode, c.before args0 about1 = true := by
  rw [codes_eq]
  intro c hc
  simp only [codes1, List.mem_cons, List.not_mem_nil, or_false] at hc
  rcases hc with rfl | rfl | rfl | rfl | rfl | rfl | rfl | rfl | rfl | rfl | rfl | rfl
  · exact w_c0
  · exact w_c1
  · exact w_c2
  · exact w_c3
  · exact w_c4
  · exact w_c5
  · exact w_c6
  · exact w_c7
  · exact w_c8
  · exact w_c9
  · exact w_c10
  · exact w_c11
set_option maxRecDepth 65536 in
theorem w_t1 : (words1.take 24).all (fun c => isCode c || c.before args0 about1) = true := by decide +kernel
set_option maxRecDepth 65536 in
theorem w_t2 : ((words1.drop 24).take 24).all (fun c => isCode c || c.before args0 about1) = true := by decide +kernel
set_option maxRecDepth 65536 in
theorem w_t3 : ((words1.drop 24).drop 24).all (fun c => isCode c || c.before args0 about1) = true := by decide +kernel
theorem w_tables : (allAtoms (Jvm.Cond.code x code maxLocals ret :: tables_1)).before args0 about1 = true := by
  rw [allAtoms_all]
  show words1.all (fun c => c.before args0 about1) = true
  refine all_split ?_ w_codes
  rw [← List.take_append_drop 24 words1, List.all_append, w_t1, ← List.take_append_drop 24 (words1.drop 24), List.all_append, w_t2, w_t3]
  rfl
set_option maxRecDepth 65536 in
theorem w_rest : rest_1_c.before args0 about1 = true := by decide +kernel
set_option maxRecDepth 65536 in
theorem w_case : (Jvm.Cond.and given_1 narrow_1).before args0 about1 = true := by decide +kernel
theorem w_applies : (headSpec (Jvm.Cond.code x code maxLocals ret :: tables_1) room_1).applies x e0.platform about1 = true :=
  (Spec.applies_iff w_frames).mpr ⟨w_running, w_runnable, w_alone, w_named, w_hears, w_ripe, w_room, w_tables⟩
theorem atStart : AtStart classFile x code maxLocals ret World_1 tables_1 room_1 Calls_1 rest_1 Pre_1 launch0 p0 e0 about1 theMethod args0 below0 :=
  ⟨lists_1, trivial, launch0.admits_env _ _ _, launch0.least_env, fairChoices_fair.cas, fairChoices_fair.clock, w_frames, w_args, w_heap, w_applies, trivial, w_rest, w_case⟩
end start1
theorem witness_1 : WitnessClaimed_1 := ⟨start1.p0, start1.e0, start1.about1, start1.theMethod, start1.args0, start1.below0, start1.atStart⟩
end Jvm.Pilot.@@N@@
