import JvmDerived
import JvmDerived.Pilot.@@N@@Statement
import JvmDerived.Pilot.@@N@@Code
set_option linter.unusedVariables false
set_option linter.unusedSimpArgs false
namespace Jvm.RoadKit
open Sem ClassFile Op Lib Jvm.Stand Jvm.Free Jvm.LawKit
section New
variable {p : Program} {l : Launch} {e : Env} {R : Room} {s : State} {m : MethodId} {args : Array Value} {below : List Frame} {meth : Method} {c : Code} {T : State} {locs : List Loc} {cells slots : Nat}
theorem retI (X : Stand p l e R s m args below meth c T locs cells slots) (hx : p.tables.exec = Jvm.exec) {pc : Nat} {Ls : Array Slot} {z : Int32} {rest : List Value} (hret : meth.sig.returnType = some .int) (hd : decode c.code pc = .ok (.ireturn, 1)) {fs : List Frame}
    (hl : ∀ (f : JFrame) (acts : List Action), f.method = m → f.locked = none → f.entered = [] → (doReturn e (T.setTop f) acts (some (.int z))).1 = T.setFrames fs) : Steps p.tables e below (T.setTop (mkF m pc Ls (.int z :: rest))) (T.setFrames fs) :=
  retOut X hx hret rfl (Or.inl ⟨rfl, Or.inl rfl, z, rfl⟩) hd hl
theorem retL (X : Stand p l e R s m args below meth c T locs cells slots) (hx : p.tables.exec = Jvm.exec) {pc : Nat} {Ls : Array Slot} {z : Int64} {rest : List Value} (hret : meth.sig.returnType = some .long) (hd : decode c.code pc = .ok (.lreturn, 1)) {fs : List Frame}
    (hl : ∀ (f : JFrame) (acts : List Action), f.method = m → f.locked = none → f.entered = [] → (doReturn e (T.setTop f) acts (some (.long z))).1 = T.setFrames fs) : Steps p.tables e below (T.setTop (mkF m pc Ls (.long z :: rest))) (T.setFrames fs) :=
  retOut X hx hret rfl (Or.inr (Or.inl ⟨rfl, rfl, z, rfl⟩)) hd hl
theorem own_retD (X : Stand p l e R s m args below meth c T locs cells slots) (hx : p.tables.exec = Jvm.exec) {pc : Nat} {Ls : Array Slot} {z : UInt64} {rest : List Value} (hret : meth.sig.returnType = some .double) (hd : decode c.code pc = .ok (.dreturn, 1)) {fs : List Frame}
    (hl : ∀ (f : JFrame) (acts : List Action), f.method = m → f.locked = none → f.entered = [] → (doReturn e (T.setTop f) acts (some (.double z))).1 = T.setFrames fs) : Steps p.tables e below (T.setTop (mkF m pc Ls (.double z :: rest))) (T.setFrames fs) :=
  retOut X hx hret rfl (Or.inr (Or.inr (Or.inl ⟨rfl, rfl, z, rfl⟩))) hd hl
theorem own_nar {t : FieldType} {w : Value} (ht : t.isReference = true) (hw : w.isRef = true) : narrow t w = w := by
  cases t <;> first | (cases ht; done) | (cases w <;> first | rfl | (cases hw; done))
theorem retA (X : Stand p l e R s m args below meth c T locs cells slots) (hx : p.tables.exec = Jvm.exec) {pc : Nat} {Ls : Array Slot} {w : Value} {t : FieldType} {rest : List Value} (hret : meth.sig.returnType = some t) (ht : t.isReference = true) (hw : w.isRef = true) (hd : decode c.code pc = .ok (.areturn, 1)) {fs : List Frame}
    (hl : ∀ (f : JFrame) (acts : List Action), f.method = m → f.locked = none → f.entered = [] → (doReturn e (T.setTop f) acts (some w)).1 = T.setFrames fs) : Steps p.tables e below (T.setTop (mkF m pc Ls (w :: rest))) (T.setFrames fs) :=
  retOut X hx hret (own_nar ht hw) (Or.inr (Or.inr (Or.inr (Or.inr ⟨rfl, ht, hw⟩)))) hd hl
/-- the rest of a walk, as a predicate on where it stands -/
theorem own_open (K N : Nat) (Q : Option Value → Heap → List Loc → Prop) (hlocks : meth.locks = false) :
    ∃ G : State → JFrame → Prop,
      (∀ {T T' : State} {g g' : JFrame}, (∀ t, Steps p.tables e below (T'.setTop g') t → Steps p.tables e below (T.setTop g) t) → G T' g' → G T g) ∧
      (∀ {T : State} {g : JFrame} {locs : List Loc} {cells slots : Nat} {v : Option Value} {h : Heap}, Stand p l e R s m args below meth c T locs cells slots → (meth.sig.returnType = none → v = none) →
        (∀ fs, (∀ (f : JFrame) (acts : List Action), f.method = m → f.locked = none → f.entered = [] → (doReturn e (T.setTop f) acts v).1 = T.setFrames fs) → Steps p.tables e below (T.setTop g) (T.setFrames fs)) → T.heap = h → Q v h locs → cells ≤ K → slots ≤ N → G T g) ∧
      (∀ {T : State} {g : JFrame}, G T g → ∃ t o, Steps p.tables e below (T.setTop g) t ∧ t.status = .running ∧ Ended t below o ∧ ∃ v L, o = .returned v ∧ Q v t.heap L ∧ FrameEnd s o t L K N) := by
  refine ⟨fun T g => ∃ t o, Steps p.tables e below (T.setTop g) t ∧ t.status = .running ∧ Ended t below o ∧ ∃ v L, o = .returned v ∧ Q v t.heap L ∧ FrameEnd s o t L K N, ?_, ?_, fun h => h⟩
  · intro T T' g g' hs hG
    obtain ⟨t, o, h1, h2⟩ := hG
    exact ⟨t, o, hs t h1, h2⟩
  · intro T g locs cells slots v h X hv hst hT hQ hk hn
    obtain ⟨fs, hr, hrun, hended, hW, hsame⟩ := X.leave hv hlocks
    exact ⟨_, _, hst fs hr, hrun, hended, v, locs, rfl, by show Q v T.heap locs; rw [hT]; exact hQ, ⟨_, rfl⟩, hW, hsame.mono hk hn⟩
theorem own_openW (K N : Nat) (Q : Option Value → Heap → List Loc → Prop) (hlocks : meth.locks = false) :
    ∃ G : State → JFrame → Prop,
      (∀ {T T' : State} {g g' : JFrame}, (∀ t, Steps p.tables e below (T'.setTop g') t → Steps p.tables e below (T.setTop g) t) → G T' g' → G T g) ∧
      (∀ {T : State} {g : JFrame} {locs : List Loc} {cells slots : Nat} {v : Option Value} {h : Heap} {vm0 : Vm} {k0 : Nat}, Stand p l e R (s.setVm vm0) m args below meth c T locs cells slots → s.Since vm0 k0 → k0 ≤ h.size → (meth.sig.returnType = none → v = none) →
        (∀ fs, (∀ (f : JFrame) (acts : List Action), f.method = m → f.locked = none → f.entered = [] → (doReturn e (T.setTop f) acts v).1 = T.setFrames fs) → Steps p.tables e below (T.setTop g) (T.setFrames fs)) → T.heap = h → Q v h locs → cells ≤ K → slots ≤ N → G T g) ∧
      (∀ {T : State} {g : JFrame}, G T g → ∃ t o, Steps p.tables e below (T.setTop g) t ∧ t.status = .running ∧ Ended t below o ∧ ∃ v L, o = .returned v ∧ Q v t.heap L ∧ ReturnedEndW s o t L K N) := by
  refine ⟨fun T g => ∃ t o, Steps p.tables e below (T.setTop g) t ∧ t.status = .running ∧ Ended t below o ∧ ∃ v L, o = .returned v ∧ Q v t.heap L ∧ ReturnedEndW s o t L K N, ?_, ?_, fun h => h⟩
  · intro T T' g g' hs hG
    obtain ⟨t, o, h1, h2⟩ := hG
    exact ⟨t, o, hs t h1, h2⟩
  · intro T g locs cells slots v h vm0 k0 X hS hk0 hv hst hT hQ hk hn
    obtain ⟨fs, hr, hrun, hended, hW⟩ := X.leaveW hS (by rw [hT]; exact hk0) hv hlocks
    exact ⟨_, _, hst fs hr, hrun, hended, v, locs, rfl, by show Q v T.heap locs; rw [hT]; exact hQ, hW.1, hW.2.1, hW.2.2.1, hW.2.2.2.mono hk hn⟩
theorem own_at {j : Int32} {i : Nat} {vs : List Value} {d v : Value} (hj : j.toNatClampNeg = i) (h : vs.getD i d = v) : vs.getD j.toNatClampNeg d = v := hj ▸ h
theorem own_gen {n0 : Nat} (X : Stand p l e R s m args below meth c T locs cells slots) (N : Fr n0 locs) : ∃ lc, Stand p l e R s m args below meth c T lc cells slots ∧ Fr n0 lc := ⟨_, X, N⟩
theorem own_sl (a : Array Slot) : ∃ z, z = a := ⟨_, rfl⟩
theorem own_xlt {x y : Int32} : x < y ↔ x.toInt < y.toInt := Int32.lt_iff_toInt_lt
theorem own_xeq {x y : Int32} : x = y ↔ x.toInt = y.toInt := Int32.toInt_inj.symm
theorem own_xltL {x y : Int64} : x < y ↔ x.toInt < y.toInt := Int64.lt_iff_toInt_lt
theorem own_xeqL {x y : Int64} : x = y ↔ x.toInt = y.toInt := Int64.toInt_inj.symm
theorem own_old_le {Z : State} {n0 : Nat} {h : Heap} (O : Old Z n0 h) : n0 ≤ h.size := O.1 ▸ O.2.1
theorem own_oldne {Z : State} {n0 : Nat} {h : Heap} {a b : Addr} (O : Old Z n0 h) (q : a < Z.heap.size) (r : n0 ≤ b) : a ≠ b := O.ne q r
theorem own_fldI {Z : State} {args : Array Value} {t : Term} {C f d : String} {a : Addr} {k : Int32} (ht : t.eval args Z none [] Z = some (.ref a)) (h : (Cond.eq (.field t C f d) (.int k)).value args Z none Z [] = some true) : Fld Z Z.heap a C f d (.int k) := by
  refine Fld.start ?_
  rw [← fld_at (C := C) (n := f) (dd := d) ht]
  obtain ⟨x, y, h1, h2, h3, h4⟩ := cmp_v (Or.inl h)
  have h5 : y = .int k := Option.some.inj (h2.symm.trans (Term.int_eval k))
  subst h5
  obtain ⟨z, rfl⟩ := h4
  have := gotT (P := z = k) (by simp [Cond.value, h1, h2]) h
  rw [h1, this]
theorem own_fldD {Z : State} {args : Array Value} {t : Term} {C f d : String} {a : Addr} {k : Int64} {b : UInt64} (hb : k.toUInt64 = b) (ht : t.eval args Z none [] Z = some (.ref a)) (h : (Cond.eq (.field t C f d) (.op1 .bitsD (.long k))).value args Z none Z [] = some true) : Fld Z Z.heap a C f d (.double b) := by
  refine Fld.start ?_
  rw [← fld_at (C := C) (n := f) (dd := d) ht]
  obtain ⟨x, y, h1, h2, h3, h4⟩ := cmp_v (Or.inl h)
  have h5 : y = .double k.toUInt64 := Option.some.inj (h2.symm.trans rfl)
  subst h5
  obtain ⟨z, rfl⟩ := h4
  have := gotT (P := z = k.toUInt64) (by simp [Cond.value, h1, h2]) h
  rw [h1, this, hb]
theorem own_dnn {a b : UInt64} (ha : Jvm.Free.Fl.NoNaN64 a) (hb : FP.Core.DFin b) (hz : ¬ FP.Core.DZero b) : Jvm.Free.Fl.NoNaN64 (FP.ddiv a b) := by
  refine Jvm.Free.Fl.val64_no.mpr fun q => ?_
  have q2 := (FP.Core.quotient_nan FP.Core.b64 _ _).mp ((FP.Core.val64_ddiv a b).symm.trans q)
  rcases q2 with h | h | ⟨s, t, h1, h2⟩ | ⟨s, t, q, r, h1, h2⟩
  · exact Jvm.Free.Fl.val64_no.mp ha h
  · exact hb.ne_nan h
  · exact hb.ne_inf t h2
  · exact hz ⟨t, r, h2⟩
theorem own_i2dn (x : Int32) : Jvm.Free.Fl.NoNaN64 (FP.i2d x) := Jvm.Free.Fl.noNaN64_no.mpr (FP.Core.i2d_fin x).notNaN
theorem own_i2dz {x : Int32} (h : x ≠ 0) : ¬ FP.Core.DZero (FP.i2d x) := fun q => FP.Core.i2d_ne_zero h ((FP.Core.zero_bits2 _).mp q)
theorem own_and255 (x : Int32) : ¬ (x &&& (255 : Int32)) < 0 ∧ ¬ (255 : Int32) < (x &&& (255 : Int32)) := by
  have c1 := c_mask x (255 : Int32) 8 (by decide) (by decide)
  have q0 : (0 : Int32).toInt = 0 := by decide
  have q1 : (255 : Int32).toInt = 255 := by decide
  rw [own_xlt, own_xlt]
  omega
theorem own_l255 (x : Int64) : ¬ (x &&& (255 : Int64)).toInt32 < 0 ∧ ¬ (255 : Int32) < (x &&& (255 : Int64)).toInt32 := by
  have c1 := c_maskL x (255 : Int64) 8 (by decide) (by decide)
  have c2 := c_l2i (x &&& (255 : Int64))
  have r := rng32 (x &&& (255 : Int64)).toInt32
  have q0 : (0 : Int32).toInt = 0 := by decide
  have q1 : (255 : Int32).toInt = 255 := by decide
  rw [own_xlt, own_xlt]
  omega
theorem own_i2c {x : Int32} (h : ¬ x < 0 ∧ ¬ (255 : Int32) < x) : x.toUInt32.toUInt16.toUInt32.toInt32 = x := by
  have c1 := c_i2c x
  have q0 : (0 : Int32).toInt = 0 := by decide
  have q1 : (255 : Int32).toInt = 255 := by decide
  rw [own_xlt, own_xlt] at h
  rw [own_xeq]
  omega
theorem own_narc {x : Int32} (h : ¬ x < 0 ∧ ¬ (255 : Int32) < x) : nar .char x = x := own_i2c h
theorem own_nz {Z : State} {args : Array Value} {t : Term} {z : Int32} (ht : t.eval args Z none [] Z = some (.int z)) (h : (Cond.not (Cond.eq t (.int 0))).value args Z none Z [] = some true) : ¬ z = (0 : Int32) :=
  gotF (P := z = (0 : Int32)) (by simp [Cond.value, ht, Term.int_eval]) (not_v h)
theorem own_evI {Z : State} {args : Array Value} {u : Term} {k : Int32} (h : (Cond.eq u (.int k)).value args Z none Z [] = some true) : u.eval args Z none [] Z = some (.int k) := by
  obtain ⟨x, y, h1, h2, h3, h4⟩ := cmp_v (Or.inl h)
  have h5 : y = .int k := Option.some.inj (h2.symm.trans (Term.int_eval k))
  subst h5
  obtain ⟨z, rfl⟩ := h4
  have := gotT (P := z = k) (by simp [Cond.value, h1, h2]) h
  rw [h1, this]
theorem own_slotI {Z : State} {args : Array Value} {t : Term} {a : Addr} {i k : Int32} {cl : Cell} (ht : t.eval args Z none [] Z = some (.ref a)) (hc : Z.heap[a]? = some cl) (h : (Cond.eq (.elem t (.int i)) (.int k)).value args Z none Z [] = some true) : cl.slots[i.toNatClampNeg]? = some (.int k) :=
  (elem_in (own_evI h) ht (Term.int_eval i) hc).2
theorem own_lenI {Z : State} {args : Array Value} {t : Term} {a : Addr} {n : Int32} {cl : Cell} {ty : FieldType} (ht : t.eval args Z none [] Z = some (.ref a)) (A : Arr Z Z.heap a cl ty) (h : (Cond.eq (.length t) (.int n)).value args Z none Z [] = some true) : cl.slots.size < 2 ^ 31 ∧ cl.slots.size.toInt32 = n := by
  have hh := A.fin (Vm.Alike.refl _)
  have q := own_evI h
  simp only [Term.eval, ht, hh, Option.bind_eq_bind, Option.bind_some] at q
  split at q
  · rename_i hlt
    exact ⟨hlt, Value.int.inj (Option.some.inj q)⟩
  · cases q
theorem own_fldN {Z : State} {args : Array Value} {t : Term} {C f d : String} {a : Addr} (ht : t.eval args Z none [] Z = some (.ref a)) (h : (Cond.eq (.field t C f d) .null).value args Z none Z [] = some true) : Fld Z Z.heap a C f d .null := by
  refine Fld.start ?_
  rw [← fld_at (C := C) (n := f) (dd := d) ht]
  exact null_v h
theorem own_selpriv {Z s : State} {a0 args : Array Value} {y : MethodName} {n : Nat} (hZ : Z.Warmed39 s.vm) (wp : (Cond.privateMethod y).before a0 Z = true) (wi : (Cond.instanceMethod y).before a0 Z = true) (wk : (Cond.instantiable y.cls n).before a0 Z = true) (hy : y.cls ≠ "java/lang/invoke/MethodHandle" ∧ y.cls ≠ "java/lang/invoke/VarHandle") : (Cond.selects y.cls y y).before args s = true := by
  obtain ⟨c, k, h1, h2, -, h3, -⟩ := Cond.instantiable_spec (mv (s := s) (args := args) hZ wk)
  exact selects_self_of_private h1 h2 (Bool.or_eq_false_iff.mp h3).1 (Cond.privateMethod_at (mvP hZ wp (args := args))) (mv hZ wi) hy
theorem own_ne_arv {Z : State} {h : Heap} {a b : Addr} {C : String} {a0 : Array Value} {i : Nat} {k : ClassId} {ty : FieldType} {n : Int32} {vs : List Value} {dv : Value} (F : Exa Z h a C) (wi : (Cond.instantiable C i).before a0 Z = true) (V : Arv Z h b k ty n vs dv) : a ≠ b := by
  obtain ⟨cl, A, -⟩ := V
  exact ne_arr F wi A
theorem own_arr_keep {Z : State} {h h' : Heap} {a : Addr} {cl : Cell} {ty : FieldType} {ws : List Addr} (F : Arr Z h a cl ty) (K : Keep h h' ws) (q : a ∉ ws) : Arr Z h' a cl ty := ⟨K.2.1 a cl F.1 q, F.2⟩
section Arrays
variable {Z : State} {h : Heap} {a : Addr} {k : ClassId} {n : Int32} {vs : List Value} {dv : Value} {g : JFrame} {rest : List Value} {j : Int32} {v : Value}
theorem own_len {ty : FieldType} (X : Stand p l e R s m args below meth c T locs cells slots) (hx : p.tables.exec = Jvm.exec) (hZ : Z.Warmed39 s.vm) (eT : T.heap = h) (V : Arv Z h a k ty n vs dv) (hg : g.method = m) (hs : g.stack = .ref a :: rest) (hd : decode c.code g.pc = .ok (.arraylength, 1)) (target : State)
    (hr : Steps p.tables e below (T.setTop { g with pc := g.pc + 1, stack := .int n :: rest }) target) : Steps p.tables e below (T.setTop g) target := by
  obtain ⟨cl, A, -, S, N, -, -⟩ := V
  refine X.arraylength hx (by rw [eT]; exact A.1) (State.isArrayOf_alike hZ.alike A.2.1) hg hs hd target ?_
  rw [len_of S N]; exact hr
theorem own_ldI (X : Stand p l e R s m args below meth c T locs cells slots) (hx : p.tables.exec = Jvm.exec) (hZ : Z.Warmed39 s.vm) (eT : T.heap = h) (V : Arv Z h a k .int n vs dv) (hj : ¬ j < 0 ∧ j < n) (hv : vs.getD j.toNatClampNeg dv = v) (hg : g.method = m) (hs : g.stack = .int j :: .ref a :: rest) (hd : decode c.code g.pc = .ok (.iaload, 1)) (target : State)
    (hr : Steps p.tables e below (T.setTop { g with pc := g.pc + 1, stack := v :: rest }) target) : Steps p.tables e below (T.setTop g) target := by
  obtain ⟨cl, A, -, S, N, H, -⟩ := V
  have hin := inb_of S hj
  exact X.iaload hx (by rw [eT]; exact A.1) (State.isArrayOf_alike hZ.alike A.2.1) A.2.2 hin (H.at hin hv) hg hs hd target hr
theorem own_ldJ (X : Stand p l e R s m args below meth c T locs cells slots) (hx : p.tables.exec = Jvm.exec) (hZ : Z.Warmed39 s.vm) (eT : T.heap = h) (V : Arv Z h a k .long n vs dv) (hj : ¬ j < 0 ∧ j < n) (hv : vs.getD j.toNatClampNeg dv = v) (hg : g.method = m) (hs : g.stack = .int j :: .ref a :: rest) (hd : decode c.code g.pc = .ok (.laload, 1)) (target : State)
    (hr : Steps p.tables e below (T.setTop { g with pc := g.pc + 1, stack := v :: rest }) target) : Steps p.tables e below (T.setTop g) target := by
  obtain ⟨cl, A, -, S, N, H, -⟩ := V
  have hin := inb_of S hj
  exact X.laload hx (by rw [eT]; exact A.1) (State.isArrayOf_alike hZ.alike A.2.1) A.2.2 hin (H.at hin hv) hg hs hd target hr
theorem own_ldC (X : Stand p l e R s m args below meth c T locs cells slots) (hx : p.tables.exec = Jvm.exec) (hZ : Z.Warmed39 s.vm) (eT : T.heap = h) (V : Arv Z h a k .char n vs dv) (hj : ¬ j < 0 ∧ j < n) (hv : vs.getD j.toNatClampNeg dv = v) (hg : g.method = m) (hs : g.stack = .int j :: .ref a :: rest) (hd : decode c.code g.pc = .ok (.caload, 1)) (target : State)
    (hr : Steps p.tables e below (T.setTop { g with pc := g.pc + 1, stack := v :: rest }) target) : Steps p.tables e below (T.setTop g) target := by
  obtain ⟨cl, A, -, S, N, H, -⟩ := V
  have hin := inb_of S hj
  exact X.caload hx (by rw [eT]; exact A.1) (State.isArrayOf_alike hZ.alike A.2.1) A.2.2 hin (H.at hin hv) hg hs hd target hr
theorem own_ldB (X : Stand p l e R s m args below meth c T locs cells slots) (hx : p.tables.exec = Jvm.exec) (hZ : Z.Warmed39 s.vm) (eT : T.heap = h) (V : Arv Z h a k .byte n vs dv) (hj : ¬ j < 0 ∧ j < n) (hv : vs.getD j.toNatClampNeg dv = v) (hg : g.method = m) (hs : g.stack = .int j :: .ref a :: rest) (hd : decode c.code g.pc = .ok (.baload, 1)) (target : State)
    (hr : Steps p.tables e below (T.setTop { g with pc := g.pc + 1, stack := v :: rest }) target) : Steps p.tables e below (T.setTop g) target := by
  obtain ⟨cl, A, -, S, N, H, -⟩ := V
  have hin := inb_of S hj
  exact X.baloadBytes hx (by rw [eT]; exact A.1) (State.isArrayOf_alike hZ.alike A.2.1) A.2.2 hin (H.at hin hv) hg hs hd target hr
theorem own_ldR {ty : FieldType} (X : Stand p l e R s m args below meth c T locs cells slots) (hx : p.tables.exec = Jvm.exec) (hZ : Z.Warmed39 s.vm) (eT : T.heap = h) (V : Arv Z h a k ty n vs dv) (hj : ¬ j < 0 ∧ j < n) (hv : vs.getD j.toNatClampNeg dv = v) (hty : ty.isReference = true) (hg : g.method = m) (hs : g.stack = .int j :: .ref a :: rest) (hd : decode c.code g.pc = .ok (.aaload, 1)) (target : State)
    (hr : Steps p.tables e below (T.setTop { g with pc := g.pc + 1, stack := v :: rest }) target) : Steps p.tables e below (T.setTop g) target := by
  obtain ⟨cl, A, -, S, N, H, -⟩ := V
  have hin := inb_of S hj
  exact X.aaload hx (by rw [eT]; exact A.1) (State.isArrayOf_alike hZ.alike A.2.1) hty A.2.2 hin (H.at hin hv) hg hs hd target hr
theorem own_stI {x : Int32} (X : Stand p l e R s m args below meth c T locs cells slots) (hx : p.tables.exec = Jvm.exec) (hZ : Z.Warmed39 s.vm) (eT : T.heap = h) (V : Arv Z h a k .int n vs dv) (hj : ¬ j < 0 ∧ j < n) {i : Nat} (hji : j.toNatClampNeg = i) (hi : i < vs.length) (hg : g.method = m) (hs : g.stack = .int x :: .int j :: .ref a :: rest) (hd : decode c.code g.pc = .ok (.iastore, 1)) :
    ∃ T' h', Stand p l e R s m args below meth c T' (locs ++ [⟨a, j.toNatClampNeg⟩]) cells slots ∧ T'.heap = h' ∧ Wr h h' a j.toNatClampNeg (.int x) ∧ Arv Z h' a k .int n (vs.set i (.int x)) dv ∧ ∀ target, Steps p.tables e below (T'.setTop { g with pc := g.pc + 1, stack := rest }) target → Steps p.tables e below (T.setTop g) target := by
  obtain ⟨cl, A, q, S, N, H, Gf⟩ := V
  obtain ⟨T', h', X', e', W', st⟩ := stI X hx hZ eT A (inb_of S hj) hg hs hd
  exact ⟨T', h', X', e', W', Arv.set A q S N H Gf rfl W' i hji hi, st⟩
theorem own_stJ {x : Int64} (X : Stand p l e R s m args below meth c T locs cells slots) (hx : p.tables.exec = Jvm.exec) (hZ : Z.Warmed39 s.vm) (eT : T.heap = h) (V : Arv Z h a k .long n vs dv) (hj : ¬ j < 0 ∧ j < n) {i : Nat} (hji : j.toNatClampNeg = i) (hi : i < vs.length) (hg : g.method = m) (hs : g.stack = .long x :: .int j :: .ref a :: rest) (hd : decode c.code g.pc = .ok (.lastore, 1)) :
    ∃ T' h', Stand p l e R s m args below meth c T' (locs ++ [⟨a, j.toNatClampNeg⟩]) cells slots ∧ T'.heap = h' ∧ Wr h h' a j.toNatClampNeg (.long x) ∧ Arv Z h' a k .long n (vs.set i (.long x)) dv ∧ ∀ target, Steps p.tables e below (T'.setTop { g with pc := g.pc + 1, stack := rest }) target → Steps p.tables e below (T.setTop g) target := by
  obtain ⟨cl, A, q, S, N, H, Gf⟩ := V
  obtain ⟨T', h', X', e', W', st⟩ := stJ X hx hZ eT A (inb_of S hj) hg hs hd
  exact ⟨T', h', X', e', W', Arv.set A q S N H Gf rfl W' i hji hi, st⟩
theorem own_stC {x : Int32} (X : Stand p l e R s m args below meth c T locs cells slots) (hx : p.tables.exec = Jvm.exec) (hZ : Z.Warmed39 s.vm) (eT : T.heap = h) (V : Arv Z h a k .char n vs dv) (hj : ¬ j < 0 ∧ j < n) {i : Nat} (hji : j.toNatClampNeg = i) (hi : i < vs.length) (hg : g.method = m) (hs : g.stack = .int x :: .int j :: .ref a :: rest) (hd : decode c.code g.pc = .ok (.castore, 1)) :
    ∃ T' h', Stand p l e R s m args below meth c T' (locs ++ [⟨a, j.toNatClampNeg⟩]) cells slots ∧ T'.heap = h' ∧ Wr h h' a j.toNatClampNeg (.int (nar .char x)) ∧ Arv Z h' a k .char n (vs.set i (.int (nar .char x))) dv ∧ ∀ target, Steps p.tables e below (T'.setTop { g with pc := g.pc + 1, stack := rest }) target → Steps p.tables e below (T.setTop g) target := by
  obtain ⟨cl, A, q, S, N, H, Gf⟩ := V
  obtain ⟨T', h', X', e', W', st⟩ := stC X hx hZ eT A (inb_of S hj) hg hs hd
  exact ⟨T', h', X', e', W', Arv.set A q S N H Gf (fits_nar_char _) W' i hji hi, st⟩
theorem own_stB {x : Int32} (X : Stand p l e R s m args below meth c T locs cells slots) (hx : p.tables.exec = Jvm.exec) (hZ : Z.Warmed39 s.vm) (eT : T.heap = h) (V : Arv Z h a k .byte n vs dv) (hj : ¬ j < 0 ∧ j < n) {i : Nat} (hji : j.toNatClampNeg = i) (hi : i < vs.length) (hg : g.method = m) (hs : g.stack = .int x :: .int j :: .ref a :: rest) (hd : decode c.code g.pc = .ok (.bastore, 1)) :
    ∃ T' h', Stand p l e R s m args below meth c T' (locs ++ [⟨a, j.toNatClampNeg⟩]) cells slots ∧ T'.heap = h' ∧ Wr h h' a j.toNatClampNeg (.int (nar .byte x)) ∧ Arv Z h' a k .byte n (vs.set i (.int (nar .byte x))) dv ∧ ∀ target, Steps p.tables e below (T'.setTop { g with pc := g.pc + 1, stack := rest }) target → Steps p.tables e below (T.setTop g) target := by
  obtain ⟨cl, A, q, S, N, H, Gf⟩ := V
  obtain ⟨T', h', X', e', W', st⟩ := stB X hx hZ eT A (inb_of S hj) hg hs hd
  exact ⟨T', h', X', e', W', Arv.set A q S N H Gf (fits_nar_byte _) W' i hji hi, st⟩
theorem own_stR {K : String} (X : Stand p l e R s m args below meth c T locs cells slots) (hx : p.tables.exec = Jvm.exec) (hZ : Z.Warmed39 s.vm) (eT : T.heap = h) (V : Arv Z h a k (.object K) n vs dv) (hj : ¬ j < 0 ∧ j < n) {i : Nat} (hji : j.toNatClampNeg = i) (hi : i < vs.length) (hS : ∀ {cl : Cell}, Arr Z h a cl (.object K) → cl.cls = k → Sto Z h a v) (hg : g.method = m) (hs : g.stack = v :: .int j :: .ref a :: rest) (hd : decode c.code g.pc = .ok (.aastore, 1)) (hf : fits (.object K) v = true := by rfl) :
    ∃ T' h', Stand p l e R s m args below meth c T' (locs ++ [⟨a, j.toNatClampNeg⟩]) cells slots ∧ T'.heap = h' ∧ Wr h h' a j.toNatClampNeg v ∧ Arv Z h' a k (.object K) n (vs.set i v) dv ∧ ∀ target, Steps p.tables e below (T'.setTop { g with pc := g.pc + 1, stack := rest }) target → Steps p.tables e below (T.setTop g) target := by
  obtain ⟨cl, A, q, S, N, H, Gf⟩ := V
  obtain ⟨T', h', X', e', W', st⟩ := stR X hx hZ eT A (inb_of S hj) rfl (hS A q) hg hs hd
  exact ⟨T', h', X', e', W', Arv.set A q S N H Gf hf W' i hji hi, st⟩
end Arrays
end New
end Jvm.RoadKit
/- laws to paste: Road.backV, Road.chN, Road.codOf (cut by pick.py; bodies as the Statement names them) -/
namespace Jvm.Pilot.@@N@@
namespace StrChars
open Jvm Sem ClassFile Op Lib Jvm.Stand Jvm.Free.XT Jvm.Free.ALB Jvm.Free.JM Jvm.Free
open Jvm.Lib.Cold (StaticIs)
/-- a char array whose places are chars -/
def Ch (a : Addr) (A : Cell) (U : State) : Prop := Arr .char a A U ∧ Typed .char A
theorem Ch.mv {a : Addr} {A : Cell} {U U' : State} (h : Ch a A U) (hal : U.vm.Alike U'.vm) (hh : U'.heap = U.heap) : Ch a A U' := ⟨h.1.mv hal hh, h.2⟩
theorem Ch.keep {a : Addr} {A : Cell} {U U' : State} (h : Ch a A U) (hal : U.vm.Alike U'.vm) (hk : U'.heap[a]? = some A) : Ch a A U' := ⟨h.1.keep hal hk, h.2⟩
/-- what place i of a char[]'s cell holds -/
def cv (A : Cell) (i : Nat) : Int32 := match A.slots[i]? with | some (.int x) => x | _ => 0
theorem Ch.get {a : Addr} {A : Cell} {U : State} (h : Ch a A U) {i : Nat} (hi : i < A.slots.size) : A.slots[i]? = some (.int (cv A i)) := by
  have e := Array.getElem?_eq_getElem hi
  have f := h.2 i _ e
  unfold cv; rw [e]
  generalize A.slots[i] = v at f
  cases v <;> simp [fits] at f ⊢
/-- the byte that i2b leaves of a char -/
def lo8 (x : Int32) : Int32 := x.toInt8.toInt32
theorem fits_lo8 (y : Int32) : fits .byte (.int (lo8 y)) = true := by
  have h1 := y.toInt8.le_toInt
  have h2 := y.toInt8.toInt_lt
  simp only [lo8, fits, Bool.and_eq_true, decide_eq_true_eq, Int32.le_iff_toInt_le, Int8.toInt_toInt32, show (-128 : Int32).toInt = -128 from by decide, show (127 : Int32).toInt = 127 from by decide]
  omega
/-- A' is A but that each place j of lo .. hi - 1 holds f j -/
def Laid (A A' : Cell) (lo hi : Nat) (f : Nat → Value) : Prop := A'.cls = A.cls ∧ A'.vm = A.vm ∧ A'.slots.size = A.slots.size ∧ ∀ i, A'.slots[i]? = if lo ≤ i ∧ i < hi then some (f i) else A.slots[i]?
theorem Laid.zero (A : Cell) (lo : Nat) (f : Nat → Value) : Laid A A lo (lo + 0) f := ⟨rfl, rfl, rfl, fun i => by rw [if_neg (by omega)]⟩
theorem Laid.step {A Ak : Cell} {lo k : Nat} {f : Nat → Value} {v : Value} (h : Laid A Ak lo k f) (hlo : lo ≤ k) (hk : k < Ak.slots.size) (hv : v = f k) : Laid A (Ak.setSlot k v) lo (k + 1) f := by
  refine ⟨h.1, h.2.1, by simpa [Cell.setSlot] using h.2.2.1, fun i => ?_⟩
  by_cases e : k = i
  · subst e; rw [Cell.slots_setSlot_self v hk, if_pos (by omega), hv]
  · rw [Cell.slots_setSlot_ne v e, h.2.2.2 i]
    by_cases q : lo ≤ i ∧ i < k
    · rw [if_pos q, if_pos (by omega)]
    · rw [if_neg q, if_neg (by omega)]
def U16 : String := "java/lang/StringUTF16"
namespace Cmp5
def yN : MethodName := ⟨"java/lang/StringUTF16", "compress", "([CI[BII)I"⟩
abbrev yB : ByteArray := jdk_52_method_21_code
theorem d0 : decode yB 0 = .ok (.iconst 0, 1) := by decide +kernel
theorem d1 : decode yB 1 = .ok (.istore 5, 2) := by decide +kernel
theorem d3 : decode yB 3 = .ok (.iload 5, 2) := by decide +kernel
theorem d5 : decode yB 5 = .ok (.iload 4, 2) := by decide +kernel
theorem d7 : decode yB 7 = .ok (.if_icmp (.ge) 37, 3) := by decide +kernel
theorem d10 : decode yB 10 = .ok (.aload_n 0, 1) := by decide +kernel
theorem d11 : decode yB 11 = .ok (.iload_n 1, 1) := by decide +kernel
theorem d12 : decode yB 12 = .ok (.caload, 1) := by decide +kernel
theorem d13 : decode yB 13 = .ok (.istore 6, 2) := by decide +kernel
theorem d15 : decode yB 15 = .ok (.iload 6, 2) := by decide +kernel
theorem d17 : decode yB 17 = .ok (.sipush 255, 3) := by decide +kernel
theorem d20 : decode yB 20 = .ok (.if_icmp (.le) 6, 3) := by decide +kernel
theorem d26 : decode yB 26 = .ok (.aload_n 2, 1) := by decide +kernel
theorem d27 : decode yB 27 = .ok (.iload_n 3, 1) := by decide +kernel
theorem d28 : decode yB 28 = .ok (.iload 6, 2) := by decide +kernel
theorem d30 : decode yB 30 = .ok (.i2b, 1) := by decide +kernel
theorem d31 : decode yB 31 = .ok (.bastore, 1) := by decide +kernel
theorem d32 : decode yB 32 = .ok (.iinc 1 1, 3) := by decide +kernel
theorem d35 : decode yB 35 = .ok (.iinc 3 1, 3) := by decide +kernel
theorem d38 : decode yB 38 = .ok (.iinc 5 1, 3) := by decide +kernel
theorem d41 : decode yB 41 = .ok (.goto (-38), 3) := by decide +kernel
theorem d44 : decode yB 44 = .ok (.iload 4, 2) := by decide +kernel
theorem d46 : decode yB 46 = .ok (.ireturn, 1) := by decide +kernel
def site : List Cond := []
def tab : Cond := tabOf yN yB 7 (some .int) site
def P (b : Addr) (A : Cell) (d : Addr) (B : Cell) (o q len : Nat) (args : Array Value) (s : State) : Prop := args = #[.ref b, .int (Int32.ofNat o), .ref d, .int (Int32.ofNat q), .int (Int32.ofNat len)] ∧ Ch b A s ∧ Arr .byte d B s ∧ b ≠ d ∧ o + len ≤ A.slots.size ∧ q + len ≤ B.slots.size ∧ ∀ i, i < len → ¬ 255 < cv A (o + i)
def E (b : Addr) (A : Cell) (d : Addr) (B : Cell) (o q len : Nat) (r : Option Value) (s u : State) : Prop := r = some (.int (Int32.ofNat len)) ∧ ∃ B', Put d B' s u ∧ Laid B B' q (q + len) (fun j => Value.int (lo8 (cv A (o + (j - q)))))
/-- no char of the range above 255: len; the places written hold each char's low byte -/
theorem law (l : Launch) (b : Addr) (A : Cell) (d : Addr) (B : Cell) (o q len : Nat) : Law l yN 5 5 0 0 yB 7 (some .int) site (P b A d B o q len) (E b A d B o q len) (copyLocs d q len) 0 0 := by
  refine Law.of_walk (plainFor_of_name (by decide +kernel)) (by decide +kernel) (by decide +kernel) (by decide) (fun _ _ h => by rw [h.1]; rfl) (fun _ U U' hal hh h => ⟨h.1, h.2.1.mv hal hh, h.2.2.1.mv hal hh, h.2.2.2⟩) (fun r U U' V V' h1 hal h2 h => ⟨h.1, h.2.elim fun B' q => ⟨B', q.1.mv h1 h2, q.2⟩⟩) ?_
  intro p e s m args below meth c s₁ X0 hexec hbytes hml hret hlk hnm hown hh0 W hP
  obtain ⟨rfl, hA, hB, hne, l1, l2, hp⟩ := hP
  have c1 : Steps p.tables e below (s₁.setTop (entryFrame m #[.ref b, .int (Int32.ofNat o), .ref d, .int (Int32.ofNat q), .int (Int32.ofNat len)] 7)) (s₁.setTop (mkF m 0 #[.val (.ref b), .val (.int (Int32.ofNat o)), .val (.ref d), .val (.int (Int32.ofNat q)), .val (.int (Int32.ofNat len)), .unset, .unset] [])) := entry rfl
  have hA0 := hA.1.mv X0.warmed.alike hh0
  have hB0 := hB.mv X0.warmed.alike hh0
  have a31 := hA.1.2.2.2
  have c2 : Steps p.tables e below (s₁.setTop (entryFrame m #[.ref b, .int (Int32.ofNat o), .ref d, .int (Int32.ofNat q), .int (Int32.ofNat len)] 7)) (s₁.setTop (mkF m 3 #[.val (.ref b), .val (.int (Int32.ofNat o)), .val (.ref d), .val (.int (Int32.ofNat q)), .val (.int (Int32.ofNat len)), .val (.int 0), .unset] [])) := c1.trans (by
    refine iconstV X0.here hexec rfl 0 (hb hbytes d0) (by decide) ?_
    refine XS.istore X0.here hexec rfl (hb hbytes d1) rfl rfl ?_
    exact Steps.refl _)
  have loop : ∀ (r i : Nat), i + r = len → ∀ (z : Slot), (z = .unset ∨ ∃ w, z = .val w ∧ w.category = 1) → ∀ (Tl : State) (Bk : Cell), Stand p l e { frames := 0, locals := 0, cells := 0, slots := 0 } s m #[.ref b, .int (Int32.ofNat o), .ref d, .int (Int32.ofNat q), .int (Int32.ofNat len)] below meth c Tl ([] ++ copyLocs d q i) 0 0 → Put d Bk s₁ Tl → Laid B Bk q (q + i) (fun j => Value.int (lo8 (cv A (o + (j - q))))) →
      Steps p.tables e below (s₁.setTop (entryFrame m #[.ref b, .int (Int32.ofNat o), .ref d, .int (Int32.ofNat q), .int (Int32.ofNat len)] 7)) (Tl.setTop (mkF m 3 #[.val (.ref b), .val (.int (Int32.ofNat (o + i))), .val (.ref d), .val (.int (Int32.ofNat (q + i))), .val (.int (Int32.ofNat len)), .val (.int (Int32.ofNat i)), z] [])) → ∃ (T' : State) (B' : Cell) (z' : Slot), Stand p l e { frames := 0, locals := 0, cells := 0, slots := 0 } s m #[.ref b, .int (Int32.ofNat o), .ref d, .int (Int32.ofNat q), .int (Int32.ofNat len)] below meth c T' ([] ++ copyLocs d q len) 0 0 ∧ Put d B' s₁ T' ∧ Laid B B' q (q + len) (fun j => Value.int (lo8 (cv A (o + (j - q))))) ∧
      Steps p.tables e below (s₁.setTop (entryFrame m #[.ref b, .int (Int32.ofNat o), .ref d, .int (Int32.ofNat q), .int (Int32.ofNat len)] 7)) (T'.setTop (mkF m 3 #[.val (.ref b), .val (.int (Int32.ofNat (o + len))), .val (.ref d), .val (.int (Int32.ofNat (q + len))), .val (.int (Int32.ofNat len)), .val (.int (Int32.ofNat len)), z'] [])) := by
    intro r
    induction r with
    | zero =>
      intro i hi z hz Tl Bk Xl pl fl cl
      have hil : i = len := by omega
      rw [hil] at Xl fl cl
      exact ⟨Tl, Bk, z, Xl, pl, fl, cl⟩
    | succ r ih =>
      intro i hi z hz Tl Bk Xl pl fl cl
      have all := X0.warmed.alike.symm.trans Xl.warmed.alike
      have hAl := hA0.keep all (pl.other hne hA0.1)
      have hBk := hB0.like all pl.1 fl.1 fl.2.1 fl.2.2.1
      have hlt : q + i < Bk.slots.size := by rw [fl.2.2.1]; omega
      have c3 : Steps p.tables e below (s₁.setTop (entryFrame m #[.ref b, .int (Int32.ofNat o), .ref d, .int (Int32.ofNat q), .int (Int32.ofNat len)] 7)) (Tl.setTop (mkF m 12 #[.val (.ref b), .val (.int (Int32.ofNat (o + i))), .val (.ref d), .val (.int (Int32.ofNat (q + i))), .val (.int (Int32.ofNat len)), .val (.int (Int32.ofNat i)), z] [.int (Int32.ofNat (o + i)), .ref b])) := cl.trans (by
        refine XS.iload Xl.here hexec rfl (hb hbytes d3) rfl ?_
        refine XS.iload Xl.here hexec rfl (hb hbytes d5) rfl ?_
        refine XS.icmpNo Xl.here hexec rfl (hb hbytes d7) rfl (ii_ge_f (lt32 (by omega) (by omega))) ?_
        refine XS.aloadN Xl.here hexec rfl (hb hbytes d10) rfl rfl ?_
        refine XS.iloadN Xl.here hexec rfl (hb hbytes d11) rfl ?_
        exact Steps.refl _)
      have c4 : Steps p.tables e below (s₁.setTop (entryFrame m #[.ref b, .int (Int32.ofNat o), .ref d, .int (Int32.ofNat q), .int (Int32.ofNat len)] 7)) (Tl.setTop (mkF m 13 #[.val (.ref b), .val (.int (Int32.ofNat (o + i))), .val (.ref d), .val (.int (Int32.ofNat (q + i))), .val (.int (Int32.ofNat len)), .val (.int (Int32.ofNat i)), z] [.int (cv A (o + i))])) := c3.trans (by
        refine Xl.aget hexec hAl rfl (hA.get (i := o + i) (by omega)) rfl rfl (hb hbytes d12) ?_
        exact Steps.refl _)
      have c5 : Steps p.tables e below (s₁.setTop (entryFrame m #[.ref b, .int (Int32.ofNat o), .ref d, .int (Int32.ofNat q), .int (Int32.ofNat len)] 7)) (Tl.setTop (mkF m 15 #[.val (.ref b), .val (.int (Int32.ofNat (o + i))), .val (.ref d), .val (.int (Int32.ofNat (q + i))), .val (.int (Int32.ofNat len)), .val (.int (Int32.ofNat i)), .val (.int (cv A (o + i)))] [])) := c4.trans (by
        refine XS.istoreS Xl.here hexec rfl (hb hbytes d13) rfl rfl hz ?_
        exact Steps.refl _)
      have c6 : Steps p.tables e below (s₁.setTop (entryFrame m #[.ref b, .int (Int32.ofNat o), .ref d, .int (Int32.ofNat q), .int (Int32.ofNat len)] 7)) (Tl.setTop (mkF m 31 #[.val (.ref b), .val (.int (Int32.ofNat (o + i))), .val (.ref d), .val (.int (Int32.ofNat (q + i))), .val (.int (Int32.ofNat len)), .val (.int (Int32.ofNat i)), .val (.int (cv A (o + i)))] [.int (lo8 (cv A (o + i))), .int (Int32.ofNat (q + i)), .ref d])) := c5.trans (by
        refine XS.iload Xl.here hexec rfl (hb hbytes d15) rfl ?_
        refine sipushV Xl.here hexec rfl 255 (hb hbytes d17) (by decide) ?_
        refine XS.icmpYes Xl.here hexec rfl (pc0 := 20) rfl (hb hbytes d20) rfl (ii_le_t (hp i (by omega))) (by decide) rfl ?_
        refine XS.aloadN Xl.here hexec rfl (hb hbytes d26) rfl rfl ?_
        refine XS.iloadN Xl.here hexec rfl (hb hbytes d27) rfl ?_
        refine XS.iload Xl.here hexec rfl (hb hbytes d28) rfl ?_
        refine i2b Xl.here hexec rfl (hb hbytes d30) rfl ?_
        exact Steps.refl _)
      obtain ⟨T7, X7, p7, st7⟩ := Xl.aput hexec hBk rfl hlt rfl (fits_lo8 (cv A (o + i))) (g := (mkF m 31 #[.val (.ref b), .val (.int (Int32.ofNat (o + i))), .val (.ref d), .val (.int (Int32.ofNat (q + i))), .val (.int (Int32.ofNat len)), .val (.int (Int32.ofNat i)), .val (.int (cv A (o + i)))] [.int (lo8 (cv A (o + i))), .int (Int32.ofNat (q + i)), .ref d])) rfl (rest := []) rfl (hb hbytes d31)
      have c8 : Steps p.tables e below (s₁.setTop (entryFrame m #[.ref b, .int (Int32.ofNat o), .ref d, .int (Int32.ofNat q), .int (Int32.ofNat len)] 7)) (T7.setTop (mkF m 32 #[.val (.ref b), .val (.int (Int32.ofNat (o + i))), .val (.ref d), .val (.int (Int32.ofNat (q + i))), .val (.int (Int32.ofNat len)), .val (.int (Int32.ofNat i)), .val (.int (cv A (o + i)))] [])) := c6.trans (st7 _ (Steps.refl _))
      have c9 : Steps p.tables e below (s₁.setTop (entryFrame m #[.ref b, .int (Int32.ofNat o), .ref d, .int (Int32.ofNat q), .int (Int32.ofNat len)] 7)) (T7.setTop (mkF m 3 #[.val (.ref b), .val (.int (Int32.ofNat (o + i) + 1)), .val (.ref d), .val (.int (Int32.ofNat (q + i) + 1)), .val (.int (Int32.ofNat len)), .val (.int (Int32.ofNat i + 1)), .val (.int (cv A (o + i)))] [])) := c8.trans (by
        refine iincV X7.here hexec rfl 1 (hb hbytes d32) (by decide) rfl rfl ?_
        refine iincV X7.here hexec rfl 1 (hb hbytes d35) (by decide) rfl rfl ?_
        refine iincV X7.here hexec rfl 1 (hb hbytes d38) (by decide) rfl rfl ?_
        refine XS.goto X7.here hexec rfl (pc0 := 41) rfl (hb hbytes d41) (by decide) rfl ?_
        exact Steps.refl _)
      have c10 : Steps p.tables e below (s₁.setTop (entryFrame m #[.ref b, .int (Int32.ofNat o), .ref d, .int (Int32.ofNat q), .int (Int32.ofNat len)] 7)) (T7.setTop (mkF m 3 #[.val (.ref b), .val (.int (Int32.ofNat (o + (i + 1)))), .val (.ref d), .val (.int (Int32.ofNat (q + (i + 1)))), .val (.int (Int32.ofNat len)), .val (.int (Int32.ofNat (i + 1))), .val (.int (cv A (o + i)))] [])) := by
        have := c9
        rw [succ32, succ32, succ32] at this
        exact this
      exact ih (i + 1) (by omega) _ (Or.inr ⟨_, rfl, rfl⟩) T7 _ (by rw [copyLocs_step, ← List.append_assoc]; exact X7) (pl.trans p7) (fl.step (by omega) hlt (by simp)) c10
  obtain ⟨T9, B9, z9, X9, p9, f9, g9⟩ := loop len 0 (by omega) .unset (Or.inl rfl) s₁ B (by simpa [copyLocs] using X0) ⟨hB0.1, fun _ _ => rfl, rfl⟩ (Laid.zero _ _ _) c2
  have c11 : Steps p.tables e below (s₁.setTop (entryFrame m #[.ref b, .int (Int32.ofNat o), .ref d, .int (Int32.ofNat q), .int (Int32.ofNat len)] 7)) (T9.setTop (mkF m 46 #[.val (.ref b), .val (.int (Int32.ofNat (o + len))), .val (.ref d), .val (.int (Int32.ofNat (q + len))), .val (.int (Int32.ofNat len)), .val (.int (Int32.ofNat len)), z9] [.int (Int32.ofNat len)])) := g9.trans (by
    refine XS.iload X9.here hexec rfl (hb hbytes d3) rfl ?_
    refine XS.iload X9.here hexec rfl (hb hbytes d5) rfl ?_
    refine XS.icmpYes X9.here hexec rfl (pc0 := 7) rfl (hb hbytes d7) rfl (ii_ge_t (nlt32 (by omega) (Nat.le_refl _))) (by decide) rfl ?_
    refine XS.iload X9.here hexec rfl (hb hbytes d44) rfl ?_
    exact Steps.refl _)
  exact ⟨T9, some (.int (Int32.ofNat len)), _, _, _, X9, by simp, rfl, rfl, (fun h => by cases h), ⟨rfl, B9, p9.from hh0, f9⟩, fun fs hl => c11.trans (X9.ireturnOut hexec hret rfl (Or.inl rfl) (hb hbytes d46) hl)⟩
end Cmp5
namespace Cmp3
def yN : MethodName := ⟨"java/lang/StringUTF16", "compress", "([CII)[B"⟩
abbrev yB : ByteArray := jdk_52_method_16_code
theorem d0 : decode yB 0 = .ok (.iload_n 2, 1) := by decide +kernel
theorem d1 : decode yB 1 = .ok (.newarray .byte, 2) := by decide +kernel
theorem d3 : decode yB 3 = .ok (.astore_n 3, 1) := by decide +kernel
theorem d4 : decode yB 4 = .ok (.aload_n 0, 1) := by decide +kernel
theorem d5 : decode yB 5 = .ok (.iload_n 1, 1) := by decide +kernel
theorem d6 : decode yB 6 = .ok (.aload_n 3, 1) := by decide +kernel
theorem d7 : decode yB 7 = .ok (.iconst 0, 1) := by decide +kernel
theorem d8 : decode yB 8 = .ok (.iload_n 2, 1) := by decide +kernel
theorem d9 : decode yB 9 = .ok (.invokestatic 115, 3) := by decide +kernel
theorem d12 : decode yB 12 = .ok (.istore 4, 2) := by decide +kernel
theorem d14 : decode yB 14 = .ok (.iload 4, 2) := by decide +kernel
theorem d16 : decode yB 16 = .ok (.iload_n 2, 1) := by decide +kernel
theorem d17 : decode yB 17 = .ok (.if_icmp (.eq) 40, 3) := by decide +kernel
theorem d57 : decode yB 57 = .ok (.aload_n 3, 1) := by decide +kernel
theorem d58 : decode yB 58 = .ok (.areturn, 1) := by decide +kernel
def site : List Cond := [.arrayClass .byte, Cmp5.tab] ++ staticW U16 115 Cmp5.yN
def tab : Cond := tabOf yN yB 6 (some (.array .byte)) site
def P (b : Addr) (A : Cell) (o len : Nat) (args : Array Value) (s : State) : Prop := args = #[.ref b, .int (Int32.ofNat o), .int (Int32.ofNat len)] ∧ Ch b A s ∧ o + len ≤ A.slots.size ∧ len ≤ 536870912 ∧ ∀ i, i < len → ¬ 255 < cv A (o + i)
def E (b : Addr) (A : Cell) (o len : Nat) (r : Option Value) (s u : State) : Prop := NewArr .byte "[B" len (fun j => .int (lo8 (cv A (o + j)))) r s u ∧ u.heap.size = s.heap.size + 1
/-- no char of the range above 255: a new byte[] of their low bytes -/
theorem law (l : Launch) (b : Addr) (A : Cell) (o len : Nat) : Law l yN 3 3 1 18 yB 6 (some (.array .byte)) site (P b A o len) (E b A o len) [] 1 len := by
  refine Law.of_walk (plainFor_of_name (by decide +kernel)) (by decide +kernel) (by decide +kernel) (by decide) (fun _ _ h => by rw [h.1]; rfl) (fun _ U U' hal hh h => ⟨h.1, h.2.1.mv hal hh, h.2.2⟩) (fun r U U' V V' h1 hal h2 h => ⟨NewArr.mv r U U' V V' h1 hal h2 h.1, by rw [h1, h2]; exact h.2⟩) ?_
  intro p e s m args below meth c s₁ X0 hexec hbytes hml hret hlk hnm hown hh0 W hP
  obtain ⟨rfl, hA, l1, l2, hp⟩ := hP
  have a31 := hA.1.2.2.2
  have c1 : Steps p.tables e below (s₁.setTop (entryFrame m #[.ref b, .int (Int32.ofNat o), .int (Int32.ofNat len)] 6)) (s₁.setTop (mkF m 0 #[.val (.ref b), .val (.int (Int32.ofNat o)), .val (.int (Int32.ofNat len)), .unset, .unset, .unset] [])) := entry rfl
  have c2 : Steps p.tables e below (s₁.setTop (entryFrame m #[.ref b, .int (Int32.ofNat o), .int (Int32.ofNat len)] 6)) (s₁.setTop (mkF m 1 #[.val (.ref b), .val (.int (Int32.ofNat o)), .val (.int (Int32.ofNat len)), .unset, .unset, .unset] [.int (Int32.ofNat len)])) := c1.trans (by
    refine XS.iloadN X0.here hexec rfl (hb hbytes d0) rfl ?_
    exact Steps.refl _)
  obtain ⟨T3, B3, X3, ba3, bs3, bv3, bh3, bf3, st3⟩ := X0.anew hexec (atype := .byte) (wk W (.arrayClass .byte)) rfl (by show len * 1 ≤ _; omega) (by omega) (g := (mkF m 1 #[.val (.ref b), .val (.int (Int32.ofNat o)), .val (.int (Int32.ofNat len)), .unset, .unset, .unset] [.int (Int32.ofNat len)])) rfl (hb hbytes d1) (rest := []) rfl (Nat.le_refl _) (by show 0 + len ≤ len; omega)
  rw [hh0] at ba3 st3
  have kp3 : XT.Kept s T3 := (XT.Kept.of_eq hh0).push bh3
  have hA3 := hA.keep X3.warmed.alike (kp3 _ _ hA.1.1)
  have hne : b ≠ s.heap.size := hA.1.ne
  have c4 : Steps p.tables e below (s₁.setTop (entryFrame m #[.ref b, .int (Int32.ofNat o), .int (Int32.ofNat len)] 6)) (T3.setTop (mkF m 3 #[.val (.ref b), .val (.int (Int32.ofNat o)), .val (.int (Int32.ofNat len)), .unset, .unset, .unset] [.ref s.heap.size])) := c2.trans (st3 _ (Steps.refl _))
  have c5 : Steps p.tables e below (s₁.setTop (entryFrame m #[.ref b, .int (Int32.ofNat o), .int (Int32.ofNat len)] 6)) (T3.setTop (mkF m 9 #[.val (.ref b), .val (.int (Int32.ofNat o)), .val (.int (Int32.ofNat len)), .val (.ref s.heap.size), .unset, .unset] [.int (Int32.ofNat len), .int 0, .ref s.heap.size, .int (Int32.ofNat o), .ref b])) := c4.trans (by
    refine XS.astoreN X3.here hexec rfl (hb hbytes d3) rfl rfl rfl ?_
    refine XS.aloadN X3.here hexec rfl (hb hbytes d4) rfl rfl ?_
    refine XS.iloadN X3.here hexec rfl (hb hbytes d5) rfl ?_
    refine XS.aloadN X3.here hexec rfl (hb hbytes d6) rfl rfl ?_
    refine iconstV X3.here hexec rfl 0 (hb hbytes d7) (by decide) ?_
    refine XS.iloadN X3.here hexec rfl (hb hbytes d8) rfl ?_
    exact Steps.refl _)
  obtain ⟨v6, T6, X6, E6, g6⟩ := X3.callS hexec (Cmp5.law l b A s.heap.size B3 o 0 len) hown (wks W (staticW U16 115 Cmp5.yN)) (wk W Cmp5.tab) (W := 0) (Nat.le_of_ble_eq_true rfl) (Nat.le_of_ble_eq_true rfl) (Nat.le_refl _) (by show 0 + len + 0 ≤ len; omega) (g := (mkF m 9 #[.val (.ref b), .val (.int (Int32.ofNat o)), .val (.int (Int32.ofNat len)), .val (.ref s.heap.size), .unset, .unset] [.int (Int32.ofNat len), .int (Int32.ofNat 0), .ref s.heap.size, .int (Int32.ofNat o), .ref b])) rfl (by rw [hml]; rfl) c5 (argsL := [.ref b, .int (Int32.ofNat o), .ref s.heap.size, .int (Int32.ofNat 0), .int (Int32.ofNat len)]) (rest := []) rfl rfl (by show 2 * 0 + 0 ≤ _; decide) (hb hbytes d9) (⟨rfl, hA3, ba3, hne, l1, by rw [bs3]; simp, hp⟩)
  obtain ⟨rfl, B6, p6, f6⟩ := E6
  have c7 : Steps p.tables e below (s₁.setTop (entryFrame m #[.ref b, .int (Int32.ofNat o), .int (Int32.ofNat len)] 6)) (T6.setTop (mkF m 12 #[.val (.ref b), .val (.int (Int32.ofNat o)), .val (.int (Int32.ofNat len)), .val (.ref s.heap.size), .unset, .unset] [.int (Int32.ofNat len)])) := g6
  have c8 : Steps p.tables e below (s₁.setTop (entryFrame m #[.ref b, .int (Int32.ofNat o), .int (Int32.ofNat len)] 6)) (T6.setTop (mkF m 58 #[.val (.ref b), .val (.int (Int32.ofNat o)), .val (.int (Int32.ofNat len)), .val (.ref s.heap.size), .val (.int (Int32.ofNat len)), .unset] [.ref s.heap.size])) := c7.trans (by
    refine XS.istore X6.here hexec rfl (hb hbytes d12) rfl rfl ?_
    refine XS.iload X6.here hexec rfl (hb hbytes d14) rfl ?_
    refine XS.iloadN X6.here hexec rfl (hb hbytes d16) rfl ?_
    refine XS.icmpYes X6.here hexec rfl (pc0 := 17) rfl (hb hbytes d17) rfl (ii_eq_t rfl) (by decide) rfl ?_
    refine XS.aloadN X6.here hexec rfl (hb hbytes d57) rfl rfl ?_
    exact Steps.refl _)
  have X8 := X6.wide (L' := []) (cells' := 1) (slots' := len) (fun x hx hlt => by
    simp only [List.nil_append, copyLocs, List.mem_map, List.mem_range] at hx
    obtain ⟨i, -, rfl⟩ := hx
    exact absurd hlt (Nat.lt_irrefl _)) (Nat.le_refl _) (by omega)
  exact ⟨T6, some (.ref s.heap.size), _, _, _, X8, rfl, rfl, rfl, (fun h => by cases h), ⟨⟨rfl, B6, ba3.like (X3.warmed.alike.symm.trans X6.warmed.alike) p6.1 f6.1 f6.2.1 f6.2.2.1, f6.2.1.trans bv3, by rw [X6.warmed.alike.findClass, f6.1]; exact bf3, by rw [f6.2.2.1, bs3]; simp, fun j hj => by rw [f6.2.2.2 j, if_pos (by omega)]; rfl, kp3.put p6 (Nat.le_refl _)⟩, by rw [p6.2.2, bh3, hh0]; simp⟩, fun fs hl => c8.trans (X8.areturnOut hexec rfl hret rfl (hb hbytes d58) hl)⟩
end Cmp3
namespace CodL
def yN : MethodName := ⟨"java/lang/StringUTF16", "coderFromArrayLen", "([BI)B"⟩
abbrev yB : ByteArray := jdk_52_method_15_code
theorem d0 : decode yB 0 = .ok (.iload_n 1, 1) := by decide +kernel
theorem d1 : decode yB 1 = .ok (.aload_n 0, 1) := by decide +kernel
theorem d2 : decode yB 2 = .ok (.arraylength, 1) := by decide +kernel
theorem d3 : decode yB 3 = .ok (.isub, 1) := by decide +kernel
theorem d4 : decode yB 4 = .ok (.bipush 31, 2) := by decide +kernel
theorem d6 : decode yB 6 = .ok (.iushr, 1) := by decide +kernel
theorem d7 : decode yB 7 = .ok (.i2b, 1) := by decide +kernel
theorem d8 : decode yB 8 = .ok (.ireturn, 1) := by decide +kernel
def site : List Cond := []
def tab : Cond := tabOf yN yB 2 (some .byte) site
def P (d : Addr) (B : Cell) (args : Array Value) (s : State) : Prop := args = #[.ref d, .int (Int32.ofNat B.slots.size)] ∧ Arr .byte d B s
def E (r : Option Value) (s u : State) : Prop := XT.PureE (some (.int 0)) r s u
/-- an array as long as the number of chars: LATIN1 -/
theorem law (l : Launch) (d : Addr) (B : Cell) : Law l yN 2 2 0 0 yB 2 (some .byte) site (P d B) E [] 0 0 := by
  refine Law.of_walk (plainFor_of_name (by decide +kernel)) (by decide +kernel) (by decide +kernel) (by decide) (fun _ _ h => by rw [h.1]; rfl) (fun _ U U' hal hh h => ⟨h.1, h.2.mv hal hh⟩) (fun r U U' V V' h1 hal h2 h => XT.PureE.mv r U U' V V' h1 hal h2 h) ?_
  intro p e s m args below meth c s₁ X0 hexec hbytes hml hret hlk hnm hown hh0 W hP
  obtain ⟨rfl, hB⟩ := hP
  have hB0 := hB.mv X0.warmed.alike hh0
  have c1 : Steps p.tables e below (s₁.setTop (entryFrame m #[.ref d, .int (Int32.ofNat B.slots.size)] 2)) (s₁.setTop (mkF m 0 #[.val (.ref d), .val (.int (Int32.ofNat B.slots.size))] [])) := entry rfl
  have c2 : Steps p.tables e below (s₁.setTop (entryFrame m #[.ref d, .int (Int32.ofNat B.slots.size)] 2)) (s₁.setTop (mkF m 2 #[.val (.ref d), .val (.int (Int32.ofNat B.slots.size))] [.ref d, .int (Int32.ofNat B.slots.size)])) := c1.trans (by
    refine XS.iloadN X0.here hexec rfl (hb hbytes d0) rfl ?_
    refine XS.aloadN X0.here hexec rfl (hb hbytes d1) rfl rfl ?_
    exact Steps.refl _)
  have c3 : Steps p.tables e below (s₁.setTop (entryFrame m #[.ref d, .int (Int32.ofNat B.slots.size)] 2)) (s₁.setTop (mkF m 8 #[.val (.ref d), .val (.int (Int32.ofNat B.slots.size))] [.int (lo8 (ushr (Int32.ofNat B.slots.size - Int32.ofNat B.slots.size) 31))])) := c2.trans (by
    refine X0.alen hexec hB0 rfl rfl (hb hbytes d2) ?_
    refine XS.isub X0.here hexec rfl (hb hbytes d3) rfl ?_
    refine bipushV X0.here hexec rfl 31 (hb hbytes d4) (by decide) ?_
    refine iushr X0.here hexec rfl (hb hbytes d6) rfl ?_
    refine i2b X0.here hexec rfl (hb hbytes d7) rfl ?_
    exact Steps.refl _)
  have e0 : lo8 (ushr (Int32.ofNat B.slots.size - Int32.ofNat B.slots.size) 31) = 0 := by rw [Int32.sub_self]; decide
  rw [e0] at c3
  exact ⟨s₁, some (.int 0), _, _, _, X0, rfl, rfl, rfl, (fun h => by cases h), ⟨rfl, hh0⟩, fun fs hl => c3.trans (X0.ireturnOut hexec hret rfl (Or.inr (Or.inr (Or.inl rfl))) (hb hbytes d8) hl)⟩
end CodL
/-- the String at a is Latin-1 over a new byte[] (the heap's one new cell): the low bytes of the len chars of A from o on; every cell but a is kept -/
def Got (a : Addr) (D : Cell) (fV fC : Field) (A : Cell) (o len : Nat) (r : Option Value) (s u : State) : Prop := r = none ∧ ∃ D' V : Cell, Blank "java/lang/String" a D' u ∧ Same D D' [fV.slot, fC.slot] ∧ D'.slots[fV.slot]? = some (.ref s.heap.size) ∧ D'.slots[fC.slot]? = some (.int 0) ∧ Arr .byte s.heap.size V u ∧ V.vm = .none ∧ u.vm.findClass "[B" = some V.cls ∧ V.slots.size = len ∧ (∀ j, j < len → V.slots[j]? = some (.int (lo8 (cv A (o + j))))) ∧ (∀ (y : Addr) (c : Cell), y ≠ a → s.heap[y]? = some c → u.heap[y]? = some c) ∧ u.heap.size = s.heap.size + 1
theorem Got.mv {a : Addr} {D A : Cell} {fV fC : Field} {o len : Nat} : ∀ r (U U' V V' : State), U'.heap = U.heap → V.vm.Alike V'.vm → V'.heap = V.heap → Got a D fV fC A o len r U V → Got a D fV fC A o len r U' V' :=
  fun r U U' V V' h1 hal h2 ⟨e0, D', X, a1, a2, a3, a4, a5, a6, a7, a8, a9, a10, a11⟩ => ⟨e0, D', X, a1.mv hal h2, a2, by rw [h1]; exact a3, a4, by rw [h1]; exact a5.mv hal h2, a6, by rw [hal.findClass]; exact a7, a8, a9, by rw [h1, h2]; exact a10, by rw [h1, h2]; exact a11⟩
namespace New4
def yN : MethodName := ⟨"java/lang/String", "<init>", "([CIILjava/lang/Void;)V"⟩
abbrev yB : ByteArray := jdk_42_method_149_code
theorem d0 : decode yB 0 = .ok (.aload_n 0, 1) := by decide +kernel
theorem d1 : decode yB 1 = .ok (.invokespecial 1, 3) := by decide +kernel
theorem d4 : decode yB 4 = .ok (.iload_n 3, 1) := by decide +kernel
theorem d5 : decode yB 5 = .ok (.ifCond (.ne) 22, 3) := by decide +kernel
theorem d27 : decode yB 27 = .ok (.getstatic 38, 3) := by decide +kernel
theorem d30 : decode yB 30 = .ok (.ifCond (.eq) 28, 3) := by decide +kernel
theorem d33 : decode yB 33 = .ok (.aload_n 1, 1) := by decide +kernel
theorem d34 : decode yB 34 = .ok (.iload_n 2, 1) := by decide +kernel
theorem d35 : decode yB 35 = .ok (.iload_n 3, 1) := by decide +kernel
theorem d36 : decode yB 36 = .ok (.invokestatic 177, 3) := by decide +kernel
theorem d39 : decode yB 39 = .ok (.astore 5, 2) := by decide +kernel
theorem d41 : decode yB 41 = .ok (.aload_n 0, 1) := by decide +kernel
theorem d42 : decode yB 42 = .ok (.aload 5, 2) := by decide +kernel
theorem d44 : decode yB 44 = .ok (.iload_n 3, 1) := by decide +kernel
theorem d45 : decode yB 45 = .ok (.invokestatic 47, 3) := by decide +kernel
theorem d48 : decode yB 48 = .ok (.putfield 15, 3) := by decide +kernel
theorem d51 : decode yB 51 = .ok (.aload_n 0, 1) := by decide +kernel
theorem d52 : decode yB 52 = .ok (.aload 5, 2) := by decide +kernel
theorem d54 : decode yB 54 = .ok (.putfield 9, 3) := by decide +kernel
theorem d57 : decode yB 57 = .ok (.return_, 1) := by decide +kernel
def site : List Cond := [.fieldLink "java/lang/String" 38 "java/lang/String" "COMPACT_STRINGS" "Z", Cmp3.tab, CodL.tab, .laysFinal "java/lang/String" "java/lang/String" "value" "[B", .fieldLink "java/lang/String" 9 "java/lang/String" "value" "[B", .laysFinal "java/lang/String" "java/lang/String" "coder" "B", .fieldLink "java/lang/String" 15 "java/lang/String" "coder" "B"] ++ objW "java/lang/String" 1 ++ staticW "java/lang/String" 177 Cmp3.yN ++ staticW "java/lang/String" 47 CodL.yN
def tab : Cond := tabOf yN yB 6 none site
def P (a : Addr) (D : Cell) (fV fC : Field) (b : Addr) (A : Cell) (z : Int32) (o len : Nat) (args : Array Value) (s : State) : Prop := args = #[.ref a, .ref b, .int (Int32.ofNat o), .int (Int32.ofNat len), .null] ∧ Blank "java/lang/String" a D s ∧ Found "java/lang/String" "value" "[B" fV s ∧ Found "java/lang/String" "coder" "B" fC s ∧ Ch b A s ∧ StaticIs s "java/lang/String" "COMPACT_STRINGS" "Z" (.int z) ∧ ¬ z = 0 ∧ 0 < len ∧ o + len ≤ A.slots.size ∧ len ≤ 536870912 ∧ ∀ i, i < len → ¬ 255 < cv A (o + i)
def E (a : Addr) (D : Cell) (fV fC : Field) (A : Cell) (o len : Nat) (r : Option Value) (s u : State) : Prop := Got a D fV fC A o len r s u
/-- len > 0, no char of the range above 255: a Latin-1 String of their low bytes -/
theorem law (l : Launch) (a : Addr) (D : Cell) (fV fC : Field) (b : Addr) (A : Cell) (z : Int32) (o len : Nat) : Law l yN 5 4 2 35 yB 6 none site (P a D fV fC b A z o len) (E a D fV fC A o len) [⟨a, fC.slot⟩, ⟨a, fV.slot⟩] 1 len := by
  refine Law.of_walk (plainFor_of_name (by decide +kernel)) (by decide +kernel) (by decide +kernel) (by decide) (fun _ _ h => by rw [h.1]; rfl) (fun _ U U' hal hh h => ⟨h.1, h.2.1.mv hal hh, h.2.2.1.al hal, h.2.2.2.1.al hal, h.2.2.2.2.1.mv hal hh, h.2.2.2.2.2.1.there hal hh, h.2.2.2.2.2.2⟩) (fun r U U' V V' h1 hal h2 h => Got.mv r U U' V V' h1 hal h2 h) ?_
  intro p e s m args below meth c s₁ X0 hexec hbytes hml hret hlk hnm hown hh0 W hP
  obtain ⟨rfl, hB, f1, f2, hA, s1, hz, l0, l1, l2, hp⟩ := hP
  have a31 := hA.1.2.2.2
  have c1 : Steps p.tables e below (s₁.setTop (entryFrame m #[.ref a, .ref b, .int (Int32.ofNat o), .int (Int32.ofNat len), .null] 6)) (s₁.setTop (mkF m 0 #[.val (.ref a), .val (.ref b), .val (.int (Int32.ofNat o)), .val (.int (Int32.ofNat len)), .val .null, .unset] [])) := entry rfl
  have c2 : Steps p.tables e below (s₁.setTop (entryFrame m #[.ref a, .ref b, .int (Int32.ofNat o), .int (Int32.ofNat len), .null] 6)) (s₁.setTop (mkF m 1 #[.val (.ref a), .val (.ref b), .val (.int (Int32.ofNat o)), .val (.int (Int32.ofNat len)), .val .null, .unset] [.ref a])) := c1.trans (by
    refine XS.aloadN X0.here hexec rfl (hb hbytes d0) rfl rfl ?_
    exact Steps.refl _)
  obtain ⟨T3, X3, q3, st3⟩ := X0.oinit hexec hown (wks W (objW "java/lang/String" 1)) (g := (mkF m 1 #[.val (.ref a), .val (.ref b), .val (.int (Int32.ofNat o)), .val (.int (Int32.ofNat len)), .val .null, .unset] [.ref a])) rfl (by rw [hml]; rfl) (rest := []) rfl (hb hbytes d1) (W := 0) (by show 2 * 0 + 0 ≤ _; decide) (Nat.le_of_ble_eq_true rfl) (Nat.le_of_ble_eq_true rfl)
  have hh3 := q3.trans hh0
  have c4 : Steps p.tables e below (s₁.setTop (entryFrame m #[.ref a, .ref b, .int (Int32.ofNat o), .int (Int32.ofNat len), .null] 6)) (T3.setTop (mkF m 27 #[.val (.ref a), .val (.ref b), .val (.int (Int32.ofNat o)), .val (.int (Int32.ofNat len)), .val .null, .unset] [])) := (c2.trans (st3 _ (Steps.refl _))).trans (by
    refine XS.iloadN X3.here hexec rfl (hb hbytes d4) rfl ?_
    refine XS.ifYes X3.here hexec rfl (pc0 := 5) rfl (hb hbytes d5) rfl (i0_ne_t (nz32 (by omega) l0)) (by decide) rfl ?_
    exact Steps.refl _)
  obtain ⟨T5, X5, q5, st5⟩ := X3.sget hexec hown (wk W (.fieldLink "java/lang/String" 38 "java/lang/String" "COMPACT_STRINGS" "Z")) s1 (fun _ _ h => by rw [hh3]; exact h) (g := (mkF m 27 #[.val (.ref a), .val (.ref b), .val (.int (Int32.ofNat o)), .val (.int (Int32.ofNat len)), .val .null, .unset] [])) rfl (hb hbytes d27)
  have hh5 := q5.trans hh3
  have c6 : Steps p.tables e below (s₁.setTop (entryFrame m #[.ref a, .ref b, .int (Int32.ofNat o), .int (Int32.ofNat len), .null] 6)) (T5.setTop (mkF m 30 #[.val (.ref a), .val (.ref b), .val (.int (Int32.ofNat o)), .val (.int (Int32.ofNat len)), .val .null, .unset] [.int z])) := c4.trans (st5 _ (Steps.refl _))
  have c7 : Steps p.tables e below (s₁.setTop (entryFrame m #[.ref a, .ref b, .int (Int32.ofNat o), .int (Int32.ofNat len), .null] 6)) (T5.setTop (mkF m 36 #[.val (.ref a), .val (.ref b), .val (.int (Int32.ofNat o)), .val (.int (Int32.ofNat len)), .val .null, .unset] [.int (Int32.ofNat len), .int (Int32.ofNat o), .ref b])) := c6.trans (by
    refine XS.ifNo X5.here hexec rfl (hb hbytes d30) rfl (i0_eq_f hz) ?_
    refine XS.aloadN X5.here hexec rfl (hb hbytes d33) rfl rfl ?_
    refine XS.iloadN X5.here hexec rfl (hb hbytes d34) rfl ?_
    refine XS.iloadN X5.here hexec rfl (hb hbytes d35) rfl ?_
    exact Steps.refl _)
  obtain ⟨v8, T8, X8, E8, g8⟩ := X5.callS hexec (Cmp3.law l b A o len) hown (wks W (staticW "java/lang/String" 177 Cmp3.yN)) (wk W Cmp3.tab) (W := 0) (Nat.le_of_ble_eq_true rfl) (Nat.le_of_ble_eq_true rfl) (Nat.le_refl _) (by show 0 + len ≤ len; omega) (g := (mkF m 36 #[.val (.ref a), .val (.ref b), .val (.int (Int32.ofNat o)), .val (.int (Int32.ofNat len)), .val .null, .unset] [.int (Int32.ofNat len), .int (Int32.ofNat o), .ref b])) rfl (by rw [hml]; rfl) c7 (argsL := [.ref b, .int (Int32.ofNat o), .int (Int32.ofNat len)]) (rest := []) rfl rfl (by show 2 * 0 + 0 ≤ _; decide) (hb hbytes d36) (⟨rfl, hA.mv X5.warmed.alike hh5, l1, l2, hp⟩)
  obtain ⟨e8, z8⟩ := E8
  obtain ⟨rfl, N, n1, n2, n3, n4, n5, n6⟩ := NewArr.mv _ T5 s _ _ hh5.symm (Vm.Alike.refl _) rfl e8
  rw [hh5] at z8
  have hB1 := hB.keep X8.warmed.alike (n6 _ _ hB.1)
  have hne : s.heap.size ≠ a := (Nat.ne_of_lt (Array.getElem?_eq_some_iff.mp hB.1).1).symm
  have c9 : Steps p.tables e below (s₁.setTop (entryFrame m #[.ref a, .ref b, .int (Int32.ofNat o), .int (Int32.ofNat len), .null] 6)) (T8.setTop (mkF m 39 #[.val (.ref a), .val (.ref b), .val (.int (Int32.ofNat o)), .val (.int (Int32.ofNat len)), .val .null, .unset] [.ref s.heap.size])) := g8
  have c10 : Steps p.tables e below (s₁.setTop (entryFrame m #[.ref a, .ref b, .int (Int32.ofNat o), .int (Int32.ofNat len), .null] 6)) (T8.setTop (mkF m 45 #[.val (.ref a), .val (.ref b), .val (.int (Int32.ofNat o)), .val (.int (Int32.ofNat len)), .val .null, .val (.ref s.heap.size)] [.int (Int32.ofNat N.slots.size), .ref s.heap.size, .ref a])) := by
    have hc : Steps p.tables e below (s₁.setTop (entryFrame m #[.ref a, .ref b, .int (Int32.ofNat o), .int (Int32.ofNat len), .null] 6)) (T8.setTop (mkF m 45 #[.val (.ref a), .val (.ref b), .val (.int (Int32.ofNat o)), .val (.int (Int32.ofNat len)), .val .null, .val (.ref s.heap.size)] [.int (Int32.ofNat len), .ref s.heap.size, .ref a])) := c9.trans (by
      refine XS.astore X8.here hexec rfl (hb hbytes d39) rfl rfl rfl ?_
      refine XS.aloadN X8.here hexec rfl (hb hbytes d41) rfl rfl ?_
      refine XS.aload X8.here hexec rfl (hb hbytes d42) rfl rfl ?_
      refine XS.iloadN X8.here hexec rfl (hb hbytes d44) rfl ?_
      exact Steps.refl _)
    rw [n4]; exact hc
  obtain ⟨v11, T11, X11, E11, g11⟩ := X8.callS hexec (CodL.law l s.heap.size N) hown (wks W (staticW "java/lang/String" 47 CodL.yN)) (wk W CodL.tab) (W := 1) (Nat.le_of_ble_eq_true rfl) (Nat.le_of_ble_eq_true rfl) (Nat.le_refl _) (by show 0 + len + 0 ≤ len; omega) (g := (mkF m 45 #[.val (.ref a), .val (.ref b), .val (.int (Int32.ofNat o)), .val (.int (Int32.ofNat len)), .val .null, .val (.ref s.heap.size)] [.int (Int32.ofNat N.slots.size), .ref s.heap.size, .ref a])) rfl (by rw [hml]; rfl) c10 (argsL := [.ref s.heap.size, .int (Int32.ofNat N.slots.size)]) (rest := [.ref a]) rfl rfl (by show 2 * 0 + (1 + 0) ≤ _; decide) (hb hbytes d45) (⟨rfl, n1⟩)
  obtain ⟨rfl, q11⟩ := E11
  have hB11 := hB1.mv (X8.warmed.alike.symm.trans X11.warmed.alike) q11
  have c12 : Steps p.tables e below (s₁.setTop (entryFrame m #[.ref a, .ref b, .int (Int32.ofNat o), .int (Int32.ofNat len), .null] 6)) (T11.setTop (mkF m 48 #[.val (.ref a), .val (.ref b), .val (.int (Int32.ofNat o)), .val (.int (Int32.ofNat len)), .val .null, .val (.ref s.heap.size)] [.int 0, .ref a])) := g11
  obtain ⟨T13, X13, p13, bl13, sl13, st13⟩ := X11.finit hexec hown (wk W (.fieldLink "java/lang/String" 15 "java/lang/String" "coder" "B")) (Or.inr ⟨_, (wk W (.laysFinal "java/lang/String" "java/lang/String" "coder" "B"))⟩) (Or.inl ⟨rfl, hnm⟩) f2 (Or.inl rfl) hB11 (t := .byte) (by decide +kernel) rfl (g := (mkF m 48 #[.val (.ref a), .val (.ref b), .val (.int (Int32.ofNat o)), .val (.int (Int32.ofNat len)), .val .null, .val (.ref s.heap.size)] [.int 0, .ref a])) rfl (rest := []) rfl (hb hbytes d48)
  have c14 : Steps p.tables e below (s₁.setTop (entryFrame m #[.ref a, .ref b, .int (Int32.ofNat o), .int (Int32.ofNat len), .null] 6)) (T13.setTop (mkF m 54 #[.val (.ref a), .val (.ref b), .val (.int (Int32.ofNat o)), .val (.int (Int32.ofNat len)), .val .null, .val (.ref s.heap.size)] [.ref s.heap.size, .ref a])) := (c12.trans (st13 _ (Steps.refl _))).trans (by
    refine XS.aloadN X13.here hexec rfl (hb hbytes d51) rfl rfl ?_
    refine XS.aload X13.here hexec rfl (hb hbytes d52) rfl rfl ?_
    exact Steps.refl _)
  obtain ⟨T15, X15, p15, bl15, sl15, st15⟩ := X13.finit hexec hown (wk W (.fieldLink "java/lang/String" 9 "java/lang/String" "value" "[B")) (Or.inr ⟨_, (wk W (.laysFinal "java/lang/String" "java/lang/String" "value" "[B"))⟩) (Or.inl ⟨rfl, hnm⟩) f1 (Or.inl rfl) bl13 (t := (.array .byte)) (by decide +kernel) rfl (g := (mkF m 54 #[.val (.ref a), .val (.ref b), .val (.int (Int32.ofNat o)), .val (.int (Int32.ofNat len)), .val .null, .val (.ref s.heap.size)] [.ref s.heap.size, .ref a])) rfl (rest := []) rfl (hb hbytes d54)
  have c16 : Steps p.tables e below (s₁.setTop (entryFrame m #[.ref a, .ref b, .int (Int32.ofNat o), .int (Int32.ofNat len), .null] 6)) (T15.setTop (mkF m 57 #[.val (.ref a), .val (.ref b), .val (.int (Int32.ofNat o)), .val (.int (Int32.ofNat len)), .val .null, .val (.ref s.heap.size)] [])) := c14.trans (st15 _ (Steps.refl _))
  have ap := apart (Or.inr ⟨_, (wk W (.laysFinal "java/lang/String" "java/lang/String" "value" "[B"))⟩) (Or.inr ⟨_, (wk W (.laysFinal "java/lang/String" "java/lang/String" "coder" "B"))⟩) f1 f2 (t₁ := .array .byte) (t₂ := .byte) (by decide +kernel) (by decide +kernel) (by decide)
  have al := X8.warmed.alike.symm.trans X15.warmed.alike
  have n7 : T11.heap[s.heap.size]? = some N := by rw [q11]; exact n1.1
  exact ⟨T15, none, _, _, _, X15, by simp, rfl, by omega, (fun _ => rfl), ⟨rfl, _, N, bl15, ((Same.refl D _).set _ (by simp)).set _ (by simp), sl15, (Cell.slots_setSlot_ne _ ap).trans sl13, n1.keep al (p15.other hne (p13.other hne n7)), n2, by rw [al.findClass]; exact n3, n4, n5, fun y c h1 h2 => p15.other h1 (p13.other h1 (by rw [q11]; exact n6 y c h2)), by rw [p15.2.2, p13.2.2, q11]; exact z8⟩, fun fs hl => c16.trans (X15.returnOut hexec hret (hb hbytes d57) hl)⟩
end New4
namespace New1
def yN : MethodName := ⟨"java/lang/String", "<init>", "([C)V"⟩
abbrev yB : ByteArray := jdk_42_method_3_code
theorem d0 : decode yB 0 = .ok (.aload_n 0, 1) := by decide +kernel
theorem d1 : decode yB 1 = .ok (.aload_n 1, 1) := by decide +kernel
theorem d2 : decode yB 2 = .ok (.iconst 0, 1) := by decide +kernel
theorem d3 : decode yB 3 = .ok (.aload_n 1, 1) := by decide +kernel
theorem d4 : decode yB 4 = .ok (.arraylength, 1) := by decide +kernel
theorem d5 : decode yB 5 = .ok (.aconst_null, 1) := by decide +kernel
theorem d6 : decode yB 6 = .ok (.invokespecial 27, 3) := by decide +kernel
theorem d9 : decode yB 9 = .ok (.return_, 1) := by decide +kernel
def site : List Cond := [New4.tab] ++ initW "java/lang/String" 27 New4.yN
def tab : Cond := tabOf yN yB 2 none site
def P (a : Addr) (D : Cell) (fV fC : Field) (b : Addr) (A : Cell) (z : Int32) (args : Array Value) (s : State) : Prop := args = #[.ref a, .ref b] ∧ Blank "java/lang/String" a D s ∧ Found "java/lang/String" "value" "[B" fV s ∧ Found "java/lang/String" "coder" "B" fC s ∧ Ch b A s ∧ StaticIs s "java/lang/String" "COMPACT_STRINGS" "Z" (.int z) ∧ ¬ z = 0 ∧ 0 < A.slots.size ∧ A.slots.size ≤ 536870912 ∧ ∀ i, i < A.slots.size → ¬ 255 < cv A i
def E (a : Addr) (D : Cell) (fV fC : Field) (A : Cell) (r : Option Value) (s u : State) : Prop := Got a D fV fC A 0 A.slots.size r s u
/-- new String(chars), not empty, no char above 255: a Latin-1 String of their low bytes -/
theorem law (l : Launch) (a : Addr) (D : Cell) (fV fC : Field) (b : Addr) (A : Cell) (z : Int32) : Law l yN 2 1 3 52 yB 2 none site (P a D fV fC b A z) (E a D fV fC A) [⟨a, fC.slot⟩, ⟨a, fV.slot⟩] 1 A.slots.size := by
  refine Law.of_walk (plainFor_of_name (by decide +kernel)) (by decide +kernel) (by decide +kernel) (by decide) (fun _ _ h => by rw [h.1]; rfl) (fun _ U U' hal hh h => ⟨h.1, h.2.1.mv hal hh, h.2.2.1.al hal, h.2.2.2.1.al hal, h.2.2.2.2.1.mv hal hh, h.2.2.2.2.2.1.there hal hh, h.2.2.2.2.2.2⟩) (fun r U U' V V' h1 hal h2 h => Got.mv r U U' V V' h1 hal h2 h) ?_
  intro p e s m args below meth c s₁ X0 hexec hbytes hml hret hlk hnm hown hh0 W hP
  obtain ⟨rfl, hB, f1, f2, hA, s1, hz, l0, l2, hp⟩ := hP
  have c1 : Steps p.tables e below (s₁.setTop (entryFrame m #[.ref a, .ref b] 2)) (s₁.setTop (mkF m 0 #[.val (.ref a), .val (.ref b)] [])) := entry rfl
  have c2 : Steps p.tables e below (s₁.setTop (entryFrame m #[.ref a, .ref b] 2)) (s₁.setTop (mkF m 6 #[.val (.ref a), .val (.ref b)] [.null, .int (Int32.ofNat A.slots.size), .int 0, .ref b, .ref a])) := c1.trans (by
    refine XS.aloadN X0.here hexec rfl (hb hbytes d0) rfl rfl ?_
    refine XS.aloadN X0.here hexec rfl (hb hbytes d1) rfl rfl ?_
    refine iconstV X0.here hexec rfl 0 (hb hbytes d2) (by decide) ?_
    refine XS.aloadN X0.here hexec rfl (hb hbytes d3) rfl rfl ?_
    refine X0.alen hexec (hA.1.mv X0.warmed.alike hh0) rfl rfl (hb hbytes d4) ?_
    refine XS.aconstNull X0.here hexec rfl (hb hbytes d5) ?_
    exact Steps.refl _)
  obtain ⟨v3, T3, X3, E3, g3⟩ := X0.callN hexec (New4.law l a D fV fC b A z 0 A.slots.size) rfl hown (wks W (initW "java/lang/String" 27 New4.yN)) (W New4.tab (by simp only [site, List.mem_cons, List.mem_append, true_or, or_true])) (W := 0) (Nat.le_of_ble_eq_true rfl) (Nat.le_of_ble_eq_true rfl) (Nat.le_refl _) (by show 0 + A.slots.size ≤ A.slots.size; omega) (g := (mkF m 6 #[.val (.ref a), .val (.ref b)] [.null, .int (Int32.ofNat A.slots.size), .int (Int32.ofNat 0), .ref b, .ref a])) rfl (by rw [hml]; rfl) c2 (argsL := [.ref b, .int (Int32.ofNat 0), .int (Int32.ofNat A.slots.size), .null]) (rest := []) rfl rfl (by show 2 * 0 + 0 ≤ _; decide) (hb hbytes d6) (⟨rfl, hB.mv X0.warmed.alike hh0, f1.al X0.warmed.alike, f2.al X0.warmed.alike, hA.mv X0.warmed.alike hh0, s1.there X0.warmed.alike hh0, hz, l0, by omega, l2, fun i hi => by rw [Nat.zero_add]; exact hp i hi⟩)
  have e0 := Got.mv _ s₁ s _ _ hh0.symm (Vm.Alike.refl _) rfl E3
  obtain rfl := e0.1
  have c4 : Steps p.tables e below (s₁.setTop (entryFrame m #[.ref a, .ref b] 2)) (T3.setTop (mkF m 9 #[.val (.ref a), .val (.ref b)] [])) := g3
  exact ⟨T3, none, _, _, _, X3, by simp, rfl, by omega, (fun _ => rfl), e0, fun fs hl => c4.trans (X3.returnOut hexec hret (hb hbytes d9) hl)⟩
theorem pays {l : Launch} {R : Room} {p : Program} {e : Env} {below : List Frame} {s : State} {sargs : Array Value} {len W : Nat} (a : Addr) (D : Cell) (fV fC : Field) (b : Addr) (A : Cell) (z : Int32) (htab : tab.before sargs s = true) (hfr : 4 ≤ R.frames) (hlo : W + 65 ≤ R.locals) :
    Back l R p e below s sargs yN len W (fun A₁ a₁ => A₁.cells + 1 ≤ R.cells ∧ A₁.slots + A.slots.size ≤ R.slots ∧ P a D fV fC b A z a₁ A₁.U) (fun A₁ _ v₁ B₁ => E a D fV fC A v₁ A₁.U B₁.U ∧ B₁.locs = A₁.locs ++ [⟨a, fC.slot⟩, ⟨a, fV.slot⟩] ∧ B₁.cells = A₁.cells + 1 ∧ B₁.slots = A₁.slots + A.slots.size) :=
  (law l a D fV fC b A z).pays htab hfr (by omega)
end New1
/-- the byte, read back as charAt reads it, is the char -/
theorem lo8_mask {x : Int32} (h0 : ¬ x < 0) (h1 : ¬ 255 < x) : lo8 x &&& 255 = x := by
  have t : ∀ k : Fin 256, lo8 (Int32.ofNat k.val) &&& 255 = Int32.ofNat k.val := by decide +kernel
  rw [Int32.lt_iff_toInt_lt] at h0 h1
  have e0 : (0 : Int32).toInt = 0 := rfl
  have e1 : (255 : Int32).toInt = 255 := rfl
  obtain ⟨k, hk⟩ : ∃ k : Nat, x.toInt = k := ⟨x.toInt.toNat, by omega⟩
  have hx : x = Int32.ofNat k := Int32.toInt_inj.mp (by rw [hk, Int32.toInt_ofNat_small (by omega)])
  rw [hx]
  exact t ⟨k, by omega⟩
end StrChars
namespace StrChars.Road
open Jvm Sem ClassFile Op Lib Jvm.Stand Jvm.Free Jvm.Free.XT
open Jvm.Lib.Cold (StaticIs)
abbrev ST : String := "java/lang/String"
/-- every table word that New1's law asks, flat -/
abbrev words : List Jvm.Cond := [.code New1.yN New1.yB 2 none, .initialized ST, .methodLink ST 27 New4.yN, .instanceMethod New4.yN,
  .code New4.yN New4.yB 6 none, .fieldLink ST 38 ST "COMPACT_STRINGS" "Z", .laysFinal ST ST "value" "[B", .fieldLink ST 9 ST "value" "[B", .laysFinal ST ST "coder" "B", .fieldLink ST 15 ST "coder" "B",
  .methodLink ST 1 Lib.objectInit, .instanceMethod Lib.objectInit, .code Lib.objectInit ⟨#[0xb1]⟩ 1 none, .methodLink ST 177 Cmp3.yN, .static Cmp3.yN, .methodLink ST 47 CodL.yN, .static CodL.yN,
  .code Cmp3.yN Cmp3.yB 6 (some (.array .byte)), .initialized U16, .arrayClass .byte, .methodLink U16 115 Cmp5.yN, .static Cmp5.yN, .code Cmp5.yN Cmp5.yB 7 (some .int), .code CodL.yN CodL.yB 2 (some .byte)]
theorem tab_of {a : Array Value} {s : State} (h : ∀ w ∈ words, w.before a s = true) : New1.tab.before a s = true := by
  have h5 : Cmp5.tab.before a s = true := unparts (wk h (.code Cmp5.yN Cmp5.yB 7 (some .int))) (wks h (.initialized Cmp5.yN.cls :: Cmp5.site))
  have hc : CodL.tab.before a s = true := unparts (wk h (.code CodL.yN CodL.yB 2 (some .byte))) (wks h (.initialized CodL.yN.cls :: CodL.site))
  have q5 : ∀ w ∈ Cmp5.tab :: words, w.before a s = true := fun w hw => (List.mem_cons.mp hw).elim (fun e => e ▸ h5) (h w)
  have h3 : Cmp3.tab.before a s = true := unparts (wk q5 (.code Cmp3.yN Cmp3.yB 6 (some (.array .byte)))) (wks q5 (.initialized Cmp3.yN.cls :: Cmp3.site))
  have q3 : ∀ w ∈ Cmp3.tab :: CodL.tab :: words, w.before a s = true := fun w hw => (List.mem_cons.mp hw).elim (fun e => e ▸ h3) fun hw => (List.mem_cons.mp hw).elim (fun e => e ▸ hc) (h w)
  have h4 : New4.tab.before a s = true := unparts (wk q3 (.code New4.yN New4.yB 6 none)) (wks q3 (.initialized New4.yN.cls :: New4.site))
  have q4 : ∀ w ∈ New4.tab :: words, w.before a s = true := fun w hw => (List.mem_cons.mp hw).elim (fun e => e ▸ h4) (h w)
  exact unparts (wk q4 (.code New1.yN New1.yB 2 none)) (wks q4 (.initialized New1.yN.cls :: New1.site))
/-- the words ride from the start Z to the walk's own state -/
theorem moved {Z s : State} {a0 args : Array Value} (hZ : Z.Warmed39 s.vm) (hw : ∀ d ∈ words, d.before a0 Z = true) : ∀ d ∈ words, d.before args s = true := fun d hd => by
  have q := hw d hd
  have t : ∀ d ∈ words, d = .arrayClass .byte ∨ (d.onTables && d.keepsFace) = true := by decide +kernel
  rcases t d hd with rfl | t
  · exact RoadKit.mvA hZ q
  · exact RoadKit.mv hZ q t
/-- WHAT COMES BACK, over the tables of the start Z: h the heap at the call, h' behind it -/
def Q (Z : State) (x : Addr) (A : Cell) (h : Heap) (v : Option Value) (h' : Heap) (L : List Loc) : Prop := v = none ∧ (∀ y ∈ L, y.base = x) ∧ RoadKit.Keep h h' [x] ∧ h'.size = h.size + 1 ∧ RoadKit.Exa Z h' x ST ∧ RoadKit.Fld Z h' x ST "value" "[B" (.ref h.size) ∧ RoadKit.Fld Z h' x ST "coder" "B" (.int 0) ∧
  (∃ V : Cell, RoadKit.Arr Z h' h.size V .byte ∧ V.vm = .none ∧ Z.vm.findClass "[B" = some V.cls ∧ V.slots.size = A.slots.size ∧ ∀ j, j < A.slots.size → V.slots[j]? = some (.int (lo8 (cv A j)))) ∧
  ∀ (O n d : String) (w : Value), RoadKit.Fld Z h x O n d w → RoadKit.slotOf Z O n d ≠ RoadKit.slotOf Z ST "value" "[B" → RoadKit.slotOf Z O n d ≠ RoadKit.slotOf Z ST "coder" "B" → RoadKit.Fld Z h' x O n d w
/-- **new String(chars) AT A CALL, IN THE ROAD'S FORM**: for specialBack behind newO: x the fresh String, b the char[] with the cell A -/
theorem back {p : Program} {l : Launch} {e : Env} {R : Room} {s : State} {args : Array Value} {below : List Frame} {len W : Nat} {Z : State} {a0 : Array Value} {h : Heap} (hZ : Z.Warmed39 s.vm) (hw : ∀ d ∈ words, d.before a0 Z = true) {kI : Nat} (wi : (Jvm.Cond.instantiable ST kI).before a0 Z = true)
    {x b : Addr} {A : Cell} {z : Int32} {v0 c0 : Value} (E : RoadKit.Exa Z h x ST) (V : RoadKit.Fld Z h x ST "value" "[B" v0) (C : RoadKit.Fld Z h x ST "coder" "B" c0) (K : RoadKit.Arr Z h b A .char) (hty : Typed .char A) (S : RoadKit.Sta Z h ST "COMPACT_STRINGS" "Z" (.int z)) (hz : ¬ z = 0)
    (l0 : 0 < A.slots.size) (l2 : A.slots.size ≤ 536870912) (hp : ∀ i, i < A.slots.size → ¬ 255 < cv A i) (hfr : 4 ≤ R.frames) (hlo : W + 65 ≤ R.locals) :
    Back l R p e below s args New1.yN len W (fun P a => a = #[.ref x, .ref b] ∧ P.U.heap = h ∧ P.cells + 1 ≤ R.cells ∧ P.slots + A.slots.size ≤ R.slots)
      (fun P _ v B => ∃ L, Q Z x A h v B.U.heap L ∧ B.locs = P.locs ++ L ∧ B.cells = P.cells + 1 ∧ B.slots = P.slots + A.slots.size) := by
  intro m meth c P g ig mk a X hg hsize hdg hW hn hp'
  obtain ⟨rfl, rfl, r1, r2⟩ := hp'
  have al : Z.vm.Alike P.U.vm := hZ.alike.trans X.warmed.alike
  obtain ⟨D, cfV, kV, iV, fV, hD, gV, stV, knV, obV, asV, slV⟩ := id V
  obtain ⟨D', cfC, kC, iC, fC, hD', gC, stC, -, -, asC, slC⟩ := id C
  cases hD.symm.trans hD'
  obtain ⟨D2, kD, e1, e2, e3, e4, e5⟩ := id E
  cases hD.symm.trans e1
  obtain ⟨c2, k2, i1, i2, i3, -⟩ := Cond.instantiable_spec wi
  cases e2.symm.trans i1
  cases e3.symm.trans i2
  obtain ⟨kU, u1, u2⟩ := al.2.2 _ _ e3
  have hB : Blank ST x D P.U := ⟨hD, ⟨knV, fun q hq => by rw [hq] at obV; cases obV⟩, by rw [al.findClass]; exact e2, kU, u1, by rw [u2]; exact i3, by rw [u2]; exact e5 i3⟩
  have F1 : Found ST "value" "[B" fV P.U := ⟨SBG.found_only al ⟨cfV, kV, iV, gV⟩, stV⟩
  have F2 : Found ST "coder" "B" fC P.U := ⟨SBG.found_only al ⟨cfC, kC, iC, gC⟩, stC⟩
  have hA : Ch b A P.U := ⟨⟨K.1, State.isArrayOf_alike al K.2.1, K.2.2, by omega⟩, hty⟩
  have hS : StaticIs P.U ST "COMPACT_STRINGS" "Z" (.int z) := by
    obtain ⟨cfS, iS, kS, fS, st, cS, t1, t2, t3, t4, t5, t6, t7⟩ := S
    exact StaticIs.there (s := { Z with heap := P.U.heap }) ⟨cfS, iS, kS, fS, st, cS, t1, t2, t3, t4, t5, (fun q => by rw [q] at t6; cases t6), t7⟩ al rfl
  obtain ⟨v, B, X', ⟨⟨hv, E', V', q1, q2, q3, q4, q5, q6, q7, q8, q9, q10, q11⟩, hl, hc, hs⟩, st⟩ := New1.pays x D fV fC b A z (tab_of (moved hZ hw)) hfr hlo m meth c P g ig mk _ X hg hsize hdg hW hn ⟨r1, r2, rfl, hB, F1, F2, hA, hS, hz, l0, l2, hp⟩
  have al' : Z.vm.Alike B.U.vm := hZ.alike.trans X'.warmed.alike
  have hsz : E'.slots.size = D.slots.size := by
    obtain ⟨-, -, -, kB, w1, w2, w3⟩ := q1
    obtain ⟨kB', y1, y2⟩ := al'.2.2 _ _ e3
    rw [q2.2.1] at w1
    cases w1.symm.trans y1
    rw [w3, e5 i3, y2]
  refine ⟨v, B, X', ⟨_, ⟨hv, ?_, ⟨by omega, fun y cy hy hn' => q10 y cy (by simpa using hn') hy, fun y cy hy => ?_⟩, q11, ⟨E', _, q1.1, by rw [q2.2.1]; exact e2, by rw [q2.2.1]; exact e3, by rw [q2.1]; exact obV, fun _ => by rw [hsz]; exact e5 i3⟩,
    ⟨E', cfV, kV, iV, fV, q1.1, gV, stV, by rw [q2.1]; exact knV, by rw [q2.1]; exact obV, by rw [q2.2.1]; exact asV, q3⟩, ⟨E', cfC, kC, iC, fC, q1.1, gC, stC, by rw [q2.1]; exact knV, by rw [q2.1]; exact obV, by rw [q2.2.1]; exact asC, q4⟩,
    ⟨V', ⟨q5.1, State.isArrayOf_alike al'.symm q5.2.1, q5.2.2.1⟩, q6, by rw [← al'.findClass]; exact q7, q8, fun j hj => by have := q9 j hj; rwa [Nat.zero_add] at this⟩, fun O n d w F n1 n2 => ?_⟩, hl, hc, hs⟩, st⟩
  · intro y hy
    simp only [List.mem_cons, List.not_mem_nil, or_false] at hy
    rcases hy with rfl | rfl <;> rfl
  · by_cases q : y = x
    · subst q
      cases hD.symm.trans hy
      exact ⟨E', q1.1, q2.2.1, q2.1, hsz⟩
    · exact ⟨cy, q10 y cy q hy, rfl, rfl, rfl⟩
  · obtain ⟨D3, cf, k, i, f, g1, g2, g3, g4, g5, g6, g7⟩ := F
    cases hD.symm.trans g1
    simp only [RoadKit.slotOf, g2, gV, gC, Option.map_some, Option.getD_some] at n1 n2
    exact ⟨E', cf, k, i, f, q1.1, g2, g3, by rw [q2.1]; exact g4, by rw [q2.1]; exact g5, by rw [q2.2.1]; exact g6, by rw [q2.2.2 f.slot (by simp [n1, n2])]; exact g7⟩
end StrChars.Road
namespace StrChars.Road
open Jvm Sem ClassFile Op Lib Jvm.Stand Jvm.Free Jvm.Free.XT
/-- WHAT COMES BACK, the byte[] as a list of values -/
def QA (Z : State) (x : Addr) (zn : Int32) (cs : List Int32) (h : Heap) (v : Option Value) (h' : Heap) (L : List Loc) : Prop := v = none ∧ (∀ y ∈ L, y.base = x) ∧ RoadKit.Keep h h' [x] ∧ h'.size = h.size + 1 ∧ RoadKit.Exa Z h' x ST ∧ RoadKit.Fld Z h' x ST "value" "[B" (.ref h.size) ∧ RoadKit.Fld Z h' x ST "coder" "B" (.int 0) ∧
  (∃ kb, Z.vm.findClass "[B" = some kb ∧ RoadKit.Arv Z h' h.size kb .byte zn (cs.map fun c => .int (lo8 c)) (.int 0)) ∧
  ∀ (O n d : String) (w : Value), RoadKit.Fld Z h x O n d w → RoadKit.slotOf Z O n d ≠ RoadKit.slotOf Z ST "value" "[B" → RoadKit.slotOf Z O n d ≠ RoadKit.slotOf Z ST "coder" "B" → RoadKit.Fld Z h' x O n d w
/-- **new String(chars) AT A CALL, THE ARRAYS AS LISTS**: the char[] at b holds cs, not empty, no char above 255 -/
theorem backArv {p : Program} {l : Launch} {e : Env} {R : Room} {s : State} {args : Array Value} {below : List Frame} {len W : Nat} {Z : State} {a0 : Array Value} {h : Heap} (hZ : Z.Warmed39 s.vm) (hw : ∀ d ∈ words, d.before a0 Z = true) {kI : Nat} (wi : (Jvm.Cond.instantiable ST kI).before a0 Z = true)
    {x b : Addr} {k : ClassId} {zn z : Int32} {cs : List Int32} {dv v0 c0 : Value} (E : RoadKit.Exa Z h x ST) (V : RoadKit.Fld Z h x ST "value" "[B" v0) (C : RoadKit.Fld Z h x ST "coder" "B" c0) (K : RoadKit.Arv Z h b k .char zn (cs.map Value.int) dv) (S : RoadKit.Sta Z h ST "COMPACT_STRINGS" "Z" (.int z)) (hz : ¬ z = 0)
    (hlen : zn.toNatClampNeg = cs.length) (h0 : 0 < cs.length) (hbig : cs.length ≤ 536870912) (hall : ∀ c ∈ cs, ¬ 255 < c) (hfr : 4 ≤ R.frames) (hlo : W + 65 ≤ R.locals) :
    Back l R p e below s args New1.yN len W (fun P a => a = #[.ref x, .ref b] ∧ P.U.heap = h ∧ P.cells + 1 ≤ R.cells ∧ P.slots + cs.length ≤ R.slots)
      (fun P _ v B => ∃ L, QA Z x zn cs h v B.U.heap L ∧ B.locs = P.locs ++ L ∧ B.cells = P.cells + 1 ∧ B.slots = P.slots + cs.length) := by
  obtain ⟨A, K1, K2, K3, K4, K5, K6⟩ := K
  have e : A.slots.size = cs.length := K3.trans hlen
  have hat : ∀ (i : Nat) (hi : i < cs.length), A.slots[i]? = some (.int cs[i]) := fun i hi => by rw [K5 i (by omega)]; simp [List.getD_eq_getElem?_getD, hi]
  have hcv : ∀ (i : Nat) (hi : i < cs.length), cv A i = cs[i] := fun i hi => by unfold cv; rw [hat i hi]
  have hty : Typed .char A := fun i v hv => by
    have hi : i < A.slots.size := (Array.getElem?_eq_some_iff.mp hv).1
    have q := K5 i hi
    rw [hv] at q
    rw [Option.some.inj q]
    exact K6 i hi
  refine Back.mono (back hZ hw wi E V C K1 hty S hz (by omega) (by omega) (fun i hi => by rw [hcv i (by omega)]; exact hall _ (List.getElem_mem _)) hfr hlo) (fun P a hp => ⟨hp.1, hp.2.1, hp.2.2.1, by rw [e]; exact hp.2.2.2⟩) (fun P a v B hp hq => ?_)
  obtain ⟨L, ⟨q1, q2, q3, q4, q5, q6, q7, ⟨V', v1, v2, v3, v4, v5⟩, q9⟩, hl, hc, hs⟩ := hq
  refine ⟨L, ⟨q1, q2, q3, q4, q5, q6, q7, ⟨V'.cls, v3, V', v1, rfl, by rw [v4, e, hlen], K4, fun i hi => ?_, fun i hi => ?_⟩, q9⟩, hl, hc, by rw [hs, e]⟩
  · have hi' : i < cs.length := by omega
    rw [v5 i (by omega), hcv i hi']; simp [List.getD_eq_getElem?_getD, hi']
  · have hi' : i < cs.length := by omega
    simp only [List.getD_eq_getElem?_getD, List.getElem?_map, List.getElem?_eq_getElem hi', Option.map_some, Option.getD_some]
    exact fits_lo8 _
end StrChars.Road
namespace StrChars.Road
open Jvm Sem ClassFile Op Lib Jvm.Stand Jvm.Free Jvm.Free.XT
/-- WHAT COMES BACK, in the writer's own shape -/
def QV (Z : State) (x : Addr) (N : Int32) (bs : List Int32) (h : Heap) (n0 : Nat) (v : Option Value) (h' : Heap) (L : List Loc) : Prop := v = none ∧ RoadKit.Fr n0 L ∧ RoadKit.Keep h h' [x] ∧ RoadKit.Exa Z h' x ST ∧ RoadKit.Fld Z h' x ST "coder" "B" (.int 0) ∧
  ∃ (t : Addr) (kb : ClassId), n0 ≤ t ∧ h.size ≤ t ∧ ¬ t = x ∧ RoadKit.Fld Z h' x ST "value" "[B" (.ref t) ∧ RoadKit.Arv Z h' t kb .byte N (bs.map Value.int) (.int 0)
/-- **new String(chars) AT A CALL, FOR THE WRITER**: a char[] of n known ints, each 0 to 255 -/
theorem backV {p : Program} {l : Launch} {e : Env} {R : Room} {s : State} {args : Array Value} {below : List Frame} {len W : Nat} {Z : State} {a0 : Array Value} {h : Heap} (hZ : Z.Warmed39 s.vm) (hw : ∀ d ∈ words, d.before a0 Z = true) {kI : Nat} (wi : (Jvm.Cond.instantiable ST kI).before a0 Z = true)
    {x b : Addr} {kC : ClassId} {cs bs : List Int32} {d v0 c0 : Value} {z N : Int32} {n n0 : Nat} (hx0 : n0 ≤ x) (hh0 : n0 ≤ h.size) (E : RoadKit.Exa Z h x ST) (V : RoadKit.Fld Z h x ST "value" "[B" v0) (C : RoadKit.Fld Z h x ST "coder" "B" c0) (K : RoadKit.Arv Z h b kC .char N (cs.map Value.int) d) (S : RoadKit.Sta Z h ST "COMPACT_STRINGS" "Z" (.int z)) (hz : ¬ z = 0)
    (hn : cs.length = n) (hN : N = Int32.ofNat n) (l0 : 0 < n) (l2 : n ≤ 4000) (hp : ∀ c ∈ cs, ¬ c < 0 ∧ ¬ (255 : Int32) < c) (hb : bs = cs.map (fun c => c.toInt8.toInt32)) (hfr : 4 ≤ R.frames) (hlo : W + 65 ≤ R.locals) :
    Back l R p e below s args (⟨"java/lang/String", "<init>", "([C)V"⟩ : MethodName) len W (fun P a => a = #[.ref x, .ref b] ∧ P.U.heap = h ∧ P.cells + 1 ≤ R.cells ∧ P.slots + n ≤ R.slots)
      (fun P _ v B => ∃ L, QV Z x N bs h n0 v B.U.heap L ∧ B.locs = P.locs ++ L ∧ B.cells = P.cells + 1 ∧ B.slots = P.slots + n) := by
  subst hn hN hb
  refine Back.mono (backArv hZ hw wi E V C K S hz (n32 (by omega)) l0 (by omega) (fun c hc => (hp c hc).2) hfr hlo) (fun P a hp => hp) (fun P a v B hp hq => ?_)
  obtain ⟨L, ⟨q1, q2, q3, q4, q5, q6, q7, ⟨kb, v1, v2⟩, q9⟩, hl, hc, hs⟩ := hq
  exact ⟨L, ⟨q1, fun y hy => by rw [q2 y hy]; exact hx0, q3, q5, q7, h.size, kb, hh0, Nat.le_refl _, Nat.ne_of_gt E.lt, q6, by rw [List.map_map]; exact v2⟩, hl, hc, hs⟩
end StrChars.Road
namespace StrChars
open Jvm Sem ClassFile Op Lib Jvm.Stand Jvm.Free.XT Jvm.Free.ALB Jvm.Free.JM Jvm.Free
open Jvm.Lib.Cold (StaticIs)
def hi8 (x : Int32) : Int32 := lo8 (x >>> ((8 : Int32) &&& 31))
/-- what StringUTF16.getChar makes of two bytes -/
def pairCh (u v : Int32) : Int32 := (((u &&& 255) <<< ((0 : Int32) &&& 31)) ||| ((v &&& 255) <<< ((8 : Int32) &&& 31))).toUInt32.toUInt16.toUInt32.toInt32
theorem lo8_and (x : Int32) : (lo8 x &&& 255).toBitVec.toNat = x.toBitVec.toNat % 256 := by
  have h : (lo8 x).toBitVec = (x.toBitVec.signExtend 8).signExtend 32 := by rw [lo8, Int8.toBitVec_toInt32, Int32.toBitVec_toInt8]
  rw [Int32.toBitVec_and, BitVec.toNat_and, h]
  have e : ((x.toBitVec.signExtend 8).signExtend 32).toNat % 256 = x.toBitVec.toNat % 256 := by
    rw [BitVec.toNat_signExtend]
    have hlt := x.toBitVec.isLt
    simp only [BitVec.toNat_setWidth, BitVec.toNat_signExtend]
    split <;> split <;> omega
  rw [← e]
  exact Nat.and_two_pow_sub_one_eq_mod _ 8
theorem pair_says {c : Int32} (h0 : ¬ c < 0) (h1 : ¬ 65535 < c) : pairCh (lo8 c) (hi8 c) = c := by
  rw [Int32.lt_iff_toInt_lt] at h0 h1
  have e0 : (0 : Int32).toInt = 0 := rfl
  have e1 : (65535 : Int32).toInt = 65535 := rfl
  have hc : c.toInt = c.toBitVec.toNat := by
    have := c.toBitVec.isLt
    have e : c.toInt = c.toBitVec.toInt := rfl
    rw [e] at h0 h1
    rw [e]
    rw [BitVec.toInt_eq_toNat_cond] at h0 h1 ⊢
    split at h0 <;> split <;> omega
  have hn : c.toBitVec.toNat < 65536 := by omega
  have a1 := lo8_and c
  have a2 : (hi8 c &&& 255).toBitVec.toNat = c.toBitVec.toNat / 256 := by
    rw [hi8, lo8_and]
    have e : ((8 : Int32) &&& 31) = 8 := by decide
    rw [e, Int32.toBitVec_shiftRight]
    have e2 : ((8 : Int32).toBitVec.smod 32) = 8#32 := by decide
    rw [e2, BitVec.sshiftRight_eq', BitVec.toNat_sshiftRight_of_msb_false (by rw [BitVec.msb_eq_false_iff_two_mul_lt]; omega)]
    show c.toBitVec.toNat >>> 8 % 256 = _
    rw [Nat.shiftRight_eq_div_pow]
    omega
  unfold pairCh
  apply Int32.toBitVec_inj.mp
  apply BitVec.eq_of_toNat_eq
  have f0 : ((0 : Int32) &&& 31) = 0 := by decide
  have f8 : ((8 : Int32) &&& 31) = 8 := by decide
  rw [f0, f8]
  have g : (((lo8 c &&& 255) <<< (0 : Int32)) ||| ((hi8 c &&& 255) <<< (8 : Int32))).toBitVec.toNat = c.toBitVec.toNat := by
    rw [Int32.toBitVec_or, Int32.toBitVec_shiftLeft, Int32.toBitVec_shiftLeft]
    have s0 : ((0 : Int32).toBitVec.smod 32) = 0#32 := by decide
    have s8 : ((8 : Int32).toBitVec.smod 32) = 8#32 := by decide
    rw [s0, s8, BitVec.toNat_or]
    simp only [BitVec.shiftLeft_eq', BitVec.toNat_shiftLeft, a1, a2]
    show (c.toBitVec.toNat % 256) <<< 0 % 2 ^ 32 ||| (c.toBitVec.toNat / 256) <<< 8 % 2 ^ 32 = _
    rw [Nat.shiftLeft_zero, Nat.mod_eq_of_lt (show c.toBitVec.toNat % 256 < 2 ^ 32 by omega), Nat.mod_eq_of_lt (show (c.toBitVec.toNat / 256) <<< 8 < 2 ^ 32 by rw [Nat.shiftLeft_eq]; omega), Nat.or_comm, ← Nat.shiftLeft_add_eq_or_of_lt (by omega), Nat.shiftLeft_eq]
    omega
  show BitVec.toNat (((((lo8 c &&& 255) <<< (0 : Int32)) ||| ((hi8 c &&& 255) <<< (8 : Int32))).toBitVec.setWidth 16).setWidth 32) = _
  rw [BitVec.toNat_setWidth, BitVec.toNat_setWidth, g]
  omega
end StrChars
namespace StrChars
open Jvm Sem ClassFile Op Lib Jvm.Stand Jvm.Free.XT Jvm.Free.ALB Jvm.Free.JM Jvm.Free
open Jvm.Lib.Cold (StaticIs)
/-- charAt's cast of a byte read back -/
def chr8 (u : Int32) : Int32 := (u &&& 255).toUInt32.toUInt16.toUInt32.toInt32
theorem chr8_lo8 {c : Int32} (h0 : ¬ c < 0) (h1 : ¬ 255 < c) : chr8 (lo8 c) = c := by
  have t : ∀ k : Fin 256, (Int32.ofNat k.val).toUInt32.toUInt16.toUInt32.toInt32 = Int32.ofNat k.val := by decide +kernel
  unfold chr8
  rw [lo8_mask h0 h1]
  rw [Int32.lt_iff_toInt_lt] at h0 h1
  have e0 : (0 : Int32).toInt = 0 := rfl
  have e1 : (255 : Int32).toInt = 255 := rfl
  obtain ⟨k, hk⟩ : ∃ k : Nat, c.toInt = k := ⟨c.toInt.toNat, by omega⟩
  have hx : c = Int32.ofNat k := Int32.toInt_inj.mp (by rw [hk, Int32.toInt_ofNat_small (by omega)])
  rw [hx]
  exact t ⟨k, by omega⟩
theorem narrow_ch {c : Int32} (h0 : ¬ c < 0) (h1 : ¬ 65535 < c) : narrow .char (.int c) = .int c := by
  have q : narrow .char (.int (pairCh (lo8 c) (hi8 c))) = .int (pairCh (lo8 c) (hi8 c)) := narrow_c _
  rwa [pair_says h0 h1] at q
/-- the array's cell V codes the n chars f 0 .. f (n - 1) by the coder cd, as the JDK does: coder 1 just where some char is above 255 -/
def Cod (cd : Int32) (n : Nat) (f : Nat → Int32) (V : Cell) : Prop := (cd = 0 ∧ V.slots.size = n ∧ ∀ j, j < n → V.slots[j]? = some (.int (lo8 (f j))) ∧ ¬ 255 < f j) ∨ (cd = 1 ∧ V.slots.size = 2 * n ∧ (∀ j, j < n → V.slots[2 * j]? = some (.int (lo8 (f j))) ∧ V.slots[2 * j + 1]? = some (.int (hi8 (f j)))) ∧ ∃ j, j < n ∧ 255 < f j)
theorem Cod.cd {cd : Int32} {n : Nat} {f : Nat → Int32} {V : Cell} (h : Cod cd n f V) : cd = 0 ∨ cd = 1 := h.imp (fun q => q.1) fun q => q.1
/-- **x is a String of the n chars f 0 .. f (n - 1)**, Latin-1 or UTF-16; its array at t has the cell V -/
def Txt (x t : Addr) (V : Cell) (cd : Int32) (n : Nat) (f : Nat → Int32) (U : State) : Prop := Exact "java/lang/String" x U ∧ Has x "java/lang/String" "value" "[B" (.ref t) U ∧ Has x "java/lang/String" "coder" "B" (.int cd) U ∧ XT.Arr .byte t V U ∧ Cod cd n f V ∧ ∀ j, j < n → ¬ f j < 0 ∧ ¬ 65535 < f j
theorem Txt.mv {x t : Addr} {V : Cell} {cd : Int32} {n : Nat} {f : Nat → Int32} {U U' : State} (h : Txt x t V cd n f U) (hal : U.vm.Alike U'.vm) (hh : U'.heap = U.heap) : Txt x t V cd n f U' := ⟨h.1.mv hal hh, h.2.1.mv hal hh, h.2.2.1.mv hal hh, h.2.2.2.1.mv hal hh, h.2.2.2.2⟩
namespace IsL
def yN : MethodName := ⟨"java/lang/String", "isLatin1", "()Z"⟩
abbrev yB : ByteArray := jdk_42_method_154_code
theorem d0 : decode yB 0 = .ok (.getstatic 38, 3) := by decide +kernel
theorem d3 : decode yB 3 = .ok (.ifCond (.eq) 14, 3) := by decide +kernel
theorem d6 : decode yB 6 = .ok (.aload_n 0, 1) := by decide +kernel
theorem d7 : decode yB 7 = .ok (.getfield 15, 3) := by decide +kernel
theorem d10 : decode yB 10 = .ok (.ifCond (.ne) 7, 3) := by decide +kernel
theorem d13 : decode yB 13 = .ok (.iconst 1, 1) := by decide +kernel
theorem d14 : decode yB 14 = .ok (.goto 4, 3) := by decide +kernel
theorem d17 : decode yB 17 = .ok (.iconst 0, 1) := by decide +kernel
theorem d18 : decode yB 18 = .ok (.ireturn, 1) := by decide +kernel
def site : List Cond := [.fieldLink "java/lang/String" 38 "java/lang/String" "COMPACT_STRINGS" "Z", .fieldLink "java/lang/String" 15 "java/lang/String" "coder" "B"]
def tab : Cond := tabOf yN yB 1 (some .boolean) site
def P (x : Addr) (cd z : Int32) (args : Array Value) (s : State) : Prop := args = #[.ref x] ∧ Has x "java/lang/String" "coder" "B" (.int cd) s ∧ (cd = 0 ∨ cd = 1) ∧ StaticIs s "java/lang/String" "COMPACT_STRINGS" "Z" (.int z) ∧ ¬ z = 0
def E (cd : Int32) (r : Option Value) (s u : State) : Prop := XT.PureE (some (.int (1 - cd))) r s u
theorem law (l : Launch) (x : Addr) (cd z : Int32) : Law l yN 1 0 0 0 yB 1 (some .boolean) site (P x cd z) (E cd) [] 0 0 := by
  refine Law.of_walk (plainFor_of_name (by decide +kernel)) (by decide +kernel) (by decide +kernel) (by decide) (fun _ _ h => by rw [h.1]; rfl) (fun _ U U' hal hh h => ⟨h.1, h.2.1.mv hal hh, h.2.2.1, h.2.2.2.1.there hal hh, h.2.2.2.2⟩) (fun r U U' V V' h1 hal h2 h => XT.PureE.mv r U U' V V' h1 hal h2 h) ?_
  intro p e s m args below meth c s₁ X0 hexec hbytes hml hret hlk hnm hown hh0 W hP
  obtain ⟨rfl, hx, hc, s1, hz⟩ := hP
  have c1 : Steps p.tables e below (s₁.setTop (entryFrame m #[.ref x] 1)) (s₁.setTop (mkF m 0 #[.val (.ref x)] [])) := entry rfl
  obtain ⟨T2, X2, q2, st2⟩ := X0.sget hexec hown (wk W (.fieldLink "java/lang/String" 38 "java/lang/String" "COMPACT_STRINGS" "Z")) s1 (fun _ _ h => by rw [hh0]; exact h) (g := (mkF m 0 #[.val (.ref x)] [])) rfl (hb hbytes d0)
  have hh2 := q2.trans hh0
  have c3 : Steps p.tables e below (s₁.setTop (entryFrame m #[.ref x] 1)) (T2.setTop (mkF m 7 #[.val (.ref x)] [.ref x])) := (c1.trans (st2 _ (Steps.refl _))).trans (by
    refine XS.ifNo X2.here hexec rfl (hb hbytes d3) rfl (i0_eq_f hz) ?_
    refine XS.aloadN X2.here hexec rfl (hb hbytes d6) rfl rfl ?_
    exact Steps.refl _)
  obtain ⟨T4, X4, q4, st4⟩ := X2.hget hexec hown (wk W (.fieldLink "java/lang/String" 15 "java/lang/String" "coder" "B")) (hx.mv X2.warmed.alike hh2) (g := (mkF m 7 #[.val (.ref x)] [.ref x])) rfl (rest := []) rfl (hb hbytes d7)
  have c5 : Steps p.tables e below (s₁.setTop (entryFrame m #[.ref x] 1)) (T4.setTop (mkF m 10 #[.val (.ref x)] [.int cd])) := c3.trans (st4 _ (Steps.refl _))
  have c6 : Steps p.tables e below (s₁.setTop (entryFrame m #[.ref x] 1)) (T4.setTop (mkF m 18 #[.val (.ref x)] [.int (1 - cd)])) := by
    rcases hc with rfl | rfl
    · exact c5.trans (by
        refine XS.ifNo X4.here hexec rfl (hb hbytes d10) rfl (i0_ne_f rfl) ?_
        refine iconstV X4.here hexec rfl 1 (hb hbytes d13) (by decide) ?_
        refine XS.goto X4.here hexec rfl (pc0 := 14) rfl (hb hbytes d14) (by decide) rfl ?_
        exact Steps.refl _)
    · exact c5.trans (by
        refine XS.ifYes X4.here hexec rfl (pc0 := 10) rfl (hb hbytes d10) rfl (i0_ne_t (by decide)) (by decide) rfl ?_
        refine iconstV X4.here hexec rfl 0 (hb hbytes d17) (by decide) ?_
        exact Steps.refl _)
  exact ⟨T4, some (.int (1 - cd)), _, _, _, X4, rfl, rfl, rfl, (fun h => by cases h), ⟨rfl, q4.trans hh2⟩, fun fs hl => c6.trans (X4.ireturnOut hexec hret (by rcases hc with rfl | rfl <;> rfl) (Or.inr (Or.inl rfl)) (hb hbytes d18) hl)⟩
end IsL
namespace LChA
def yN : MethodName := ⟨"java/lang/StringLatin1", "charAt", "([BI)C"⟩
abbrev yB : ByteArray := jdk_43_method_2_code
theorem d0 : decode yB 0 = .ok (.iload_n 1, 1) := by decide +kernel
theorem d1 : decode yB 1 = .ok (.aload_n 0, 1) := by decide +kernel
theorem d2 : decode yB 2 = .ok (.arraylength, 1) := by decide +kernel
theorem d3 : decode yB 3 = .ok (.invokestatic 9, 3) := by decide +kernel
theorem d6 : decode yB 6 = .ok (.aload_n 0, 1) := by decide +kernel
theorem d7 : decode yB 7 = .ok (.iload_n 1, 1) := by decide +kernel
theorem d8 : decode yB 8 = .ok (.baload, 1) := by decide +kernel
theorem d9 : decode yB 9 = .ok (.sipush 255, 3) := by decide +kernel
theorem d12 : decode yB 12 = .ok (.iand, 1) := by decide +kernel
theorem d13 : decode yB 13 = .ok (.i2c, 1) := by decide +kernel
theorem d14 : decode yB 14 = .ok (.ireturn, 1) := by decide +kernel
def site : List Cond := [JO.Str_checkIndex.tab] ++ staticW "java/lang/StringLatin1" 9 JO.Str_checkIndex.yN
def tab : Cond := tabOf yN yB 2 (some .char) site
def P (t : Addr) (V : Cell) (i : Nat) (u : Int32) (fm : Value) (args : Array Value) (s : State) : Prop := args = #[.ref t, .int (Int32.ofNat i)] ∧ XT.Arr .byte t V s ∧ V.slots[i]? = some (.int u) ∧ (StaticIs s "jdk/internal/util/Preconditions" "SIOOBE_FORMATTER" "Ljava/util/function/BiFunction;" fm ∧ fm.isRef = true)
def E (u : Int32) (r : Option Value) (s w : State) : Prop := XT.PureE (some (.int (chr8 u))) r s w
theorem law (l : Launch) (t : Addr) (V : Cell) (i : Nat) (u : Int32) (fm : Value) : Law l yN 2 2 2 27 yB 2 (some .char) site (P t V i u fm) (E u) [] 0 0 := by
  refine Law.of_walk (plainFor_of_name (by decide +kernel)) (by decide +kernel) (by decide +kernel) (by decide) (fun _ _ h => by rw [h.1]; rfl) (fun _ U U' hal hh h => ⟨h.1, h.2.1.mv hal hh, h.2.2.1, h.2.2.2.1.there hal hh, h.2.2.2.2⟩) (fun r U U' V V' h1 hal h2 h => XT.PureE.mv r U U' V V' h1 hal h2 h) ?_
  intro p e s m args below meth c s₁ X0 hexec hbytes hml hret hlk hnm hown hh0 W hP
  obtain ⟨rfl, hV, hu, s1, rf⟩ := hP
  have v31 := hV.2.2.2
  have hi : i < V.slots.size := (Array.getElem?_eq_some_iff.mp hu).1
  have c1 : Steps p.tables e below (s₁.setTop (entryFrame m #[.ref t, .int (Int32.ofNat i)] 2)) (s₁.setTop (mkF m 0 #[.val (.ref t), .val (.int (Int32.ofNat i))] [])) := entry rfl
  have c2 : Steps p.tables e below (s₁.setTop (entryFrame m #[.ref t, .int (Int32.ofNat i)] 2)) (s₁.setTop (mkF m 3 #[.val (.ref t), .val (.int (Int32.ofNat i))] [.int (Int32.ofNat V.slots.size), .int (Int32.ofNat i)])) := c1.trans (by
    refine XS.iloadN X0.here hexec rfl (hb hbytes d0) rfl ?_
    refine XS.aloadN X0.here hexec rfl (hb hbytes d1) rfl rfl ?_
    refine X0.alen hexec (hV.mv X0.warmed.alike hh0) rfl rfl (hb hbytes d2) ?_
    exact Steps.refl _)
  obtain ⟨v3, T3, X3, E3, g3⟩ := X0.callS hexec (JO.Str_checkIndex.law l (Int32.ofNat i) (Int32.ofNat V.slots.size) fm) hown (wks W (staticW "java/lang/StringLatin1" 9 JO.Str_checkIndex.yN)) (wk W JO.Str_checkIndex.tab) (W := 0) (Nat.le_of_ble_eq_true rfl) (Nat.le_of_ble_eq_true rfl) (Nat.le_refl _) (Nat.le_refl _) (g := (mkF m 3 #[.val (.ref t), .val (.int (Int32.ofNat i))] [.int (Int32.ofNat V.slots.size), .int (Int32.ofNat i)])) rfl (by rw [hml]; rfl) c2 (argsL := [.int (Int32.ofNat i), .int (Int32.ofNat V.slots.size)]) (rest := []) rfl rfl (by show 2 * 0 + 0 ≤ _; decide) (hb hbytes d3) (⟨rfl, rf, s1.there X0.warmed.alike hh0, Int32.ofNat_not_neg (by omega), lt32 v31 hi⟩)
  obtain ⟨rfl, q3⟩ := E3
  have hh3 := q3.trans hh0
  have c4 : Steps p.tables e below (s₁.setTop (entryFrame m #[.ref t, .int (Int32.ofNat i)] 2)) (T3.setTop (mkF m 14 #[.val (.ref t), .val (.int (Int32.ofNat i))] [.int (chr8 u)])) := Steps.trans g3 (by
    refine XS.aloadN X3.here hexec rfl (hb hbytes d6) rfl rfl ?_
    refine XS.iloadN X3.here hexec rfl (hb hbytes d7) rfl ?_
    refine X3.aget hexec (hV.mv X3.warmed.alike hh3) rfl hu rfl rfl (hb hbytes d8) ?_
    refine sipushV X3.here hexec rfl 255 (hb hbytes d9) (by decide) ?_
    refine XS.iand X3.here hexec rfl (hb hbytes d12) rfl ?_
    refine i2c X3.here hexec rfl (hb hbytes d13) rfl ?_
    exact Steps.refl _)
  exact ⟨T3, some (.int (chr8 u)), _, _, _, X3, rfl, rfl, rfl, (fun h => by cases h), ⟨rfl, hh3⟩, fun fs hl => c4.trans (X3.ireturnOut hexec hret (narrow_c _) (Or.inr (Or.inr (Or.inr (Or.inl rfl)))) (hb hbytes d14) hl)⟩
end LChA
end StrChars
namespace StrChars.Road
open Jvm Sem ClassFile Op Lib Jvm.Stand Jvm.Free Jvm.Free.XT
open Jvm.Lib.Cold (StaticIs)
theorem consq {a : Array Value} {s : State} {c : Jvm.Cond} {L : List Jvm.Cond} (h0 : c.before a s = true) (h : ∀ w ∈ L, w.before a s = true) : ∀ w ∈ c :: L, w.before a s = true := fun w hw => (List.mem_cons.mp hw).elim (fun e => e ▸ h0) (h w)
/-- the bytes of the chars cs, low before high -/
def wideBytes : List Int32 → List Value
  | [] => []
  | c :: cs => .int (lo8 c) :: .int (hi8 c) :: wideBytes cs
theorem wide_lo (d : Value) : ∀ (cs : List Int32) (j : Nat), j < cs.length → (wideBytes cs).getD (2 * j) d = .int (lo8 (cs.getD j 0))
  | [], j, h => absurd h (Nat.not_lt_zero j)
  | c :: cs, 0, _ => rfl
  | c :: cs, j + 1, h => by
    have q := wide_lo d cs j (by simpa using h)
    rw [show 2 * (j + 1) = 2 * j + 1 + 1 from by omega]
    simpa [wideBytes] using q
theorem wide_hi (d : Value) : ∀ (cs : List Int32) (j : Nat), j < cs.length → (wideBytes cs).getD (2 * j + 1) d = .int (hi8 (cs.getD j 0))
  | [], j, h => absurd h (Nat.not_lt_zero j)
  | c :: cs, 0, _ => rfl
  | c :: cs, j + 1, h => by
    have q := wide_hi d cs j (by simpa using h)
    rw [show 2 * (j + 1) + 1 = 2 * j + 1 + 1 + 1 from by omega]
    simpa [wideBytes] using q
theorem low_at (d : Value) (cs : List Int32) (j : Nat) (h : j < cs.length) : (cs.map fun c => Value.int (lo8 c)).getD j d = .int (lo8 (cs.getD j 0)) := by
  simp [List.getD_eq_getElem?_getD, h]
/-- an array of N2 bytes vs codes the chars cs by the coder cd -/
def CodA (cs : List Int32) (cd N2 : Int32) (vs : List Value) : Prop := (cd = 0 ∧ N2 = Int32.ofNat cs.length ∧ vs = (cs.map fun c => Value.int (lo8 c)) ∧ ∀ c ∈ cs, ¬ 255 < c) ∨ (cd = 1 ∧ N2 = Int32.ofNat (2 * cs.length) ∧ vs = wideBytes cs ∧ ∃ c ∈ cs, 255 < c)
theorem CodA.cod {cs : List Int32} {cd N2 : Int32} {vs : List Value} {V : Cell} (h : CodA cs cd N2 vs) (hn : 2 * cs.length < 2 ^ 31) (hs : V.slots.size = N2.toNatClampNeg) (hv : RoadKit.Has V vs (.int 0)) : Cod cd cs.length (fun j => cs.getD j 0) V := by
  rcases h with ⟨rfl, rfl, rfl, h⟩ | ⟨rfl, rfl, rfl, c, hc, hw⟩
  · rw [n32 (by omega)] at hs
    exact Or.inl ⟨rfl, hs, fun j hj => ⟨by rw [hv j (by omega), low_at _ _ _ hj], by
      have e : cs.getD j 0 = cs[j] := by simp [List.getD_eq_getElem?_getD, hj]
      show ¬ 255 < cs.getD j 0
      rw [e]; exact h _ (List.getElem_mem _)⟩⟩
  · rw [n32 (by omega)] at hs
    obtain ⟨j, hj, rfl⟩ := List.getElem_of_mem hc
    exact Or.inr ⟨rfl, hs, fun j hj => ⟨by rw [hv _ (by omega), wide_lo _ _ _ hj], by rw [hv _ (by omega), wide_hi _ _ _ hj]⟩, j, hj, by
      have e : cs.getD j 0 = cs[j] := by simp [List.getD_eq_getElem?_getD, hj]
      show 255 < cs.getD j 0
      rw [e]; exact hw⟩
/-- an object of exactly java/lang/String, its two fields found: as the laws ask it -/
theorem strObj {Z U : State} {a0 : Array Value} {kI : Nat} (wi : (Jvm.Cond.instantiable ST kI).before a0 Z = true) (al : Z.vm.Alike U.vm) {x : Addr} {v0 c0 : Value} (E : RoadKit.Exa Z U.heap x ST) (V : RoadKit.Fld Z U.heap x ST "value" "[B" v0) (C : RoadKit.Fld Z U.heap x ST "coder" "B" c0) :
    ∃ (D : Cell) (fV fC : Field), Blank ST x D U ∧ Found ST "value" "[B" fV U ∧ Found ST "coder" "B" fC U ∧ D.slots[fV.slot]? = some v0 ∧ D.slots[fC.slot]? = some c0 ∧ RoadKit.slotOf Z ST "value" "[B" = fV.slot ∧ RoadKit.slotOf Z ST "coder" "B" = fC.slot := by
  obtain ⟨D, cfV, kV, iV, fV, hD, gV, stV, knV, obV, asV, slV⟩ := V
  obtain ⟨D', cfC, kC, iC, fC, hD', gC, stC, -, -, asC, slC⟩ := C
  cases hD.symm.trans hD'
  obtain ⟨D2, kD, e1, e2, e3, e4, e5⟩ := E
  cases hD.symm.trans e1
  obtain ⟨c2, k2, i1, i2, i3, -⟩ := Cond.instantiable_spec wi
  cases e2.symm.trans i1
  cases e3.symm.trans i2
  obtain ⟨kU, u1, u2⟩ := al.2.2 _ _ e3
  exact ⟨D, fV, fC, ⟨hD, ⟨knV, fun q hq => by rw [hq] at obV; cases obV⟩, by rw [al.findClass]; exact e2, kU, u1, by rw [u2]; exact i3, by rw [u2]; exact e5 i3⟩, ⟨SBG.found_only al ⟨cfV, kV, iV, gV⟩, stV⟩, ⟨SBG.found_only al ⟨cfC, kC, iC, gC⟩, stC⟩, slV, slC, by simp [RoadKit.slotOf, gV], by simp [RoadKit.slotOf, gC]⟩
theorem sta_is {Z U : State} (al : Z.vm.Alike U.vm) {C n d : String} {v : Value} (S : RoadKit.Sta Z U.heap C n d v) : StaticIs U C n d v := by
  obtain ⟨cfS, iS, kS, fS, st, cS, t1, t2, t3, t4, t5, t6, t7⟩ := S
  exact StaticIs.there (s := { Z with heap := U.heap }) ⟨cfS, iS, kS, fS, st, cS, t1, t2, t3, t4, t5, (fun q => by rw [q] at t6; cases t6), t7⟩ al rfl
end StrChars.Road
namespace StrChars.Road
open Jvm Sem ClassFile Op Lib Jvm.Stand Jvm.Free Jvm.Free.XT
open Jvm.Lib.Cold (StaticIs)
/-- the road's facts of a String, as the laws ask it -/
theorem txt_of {Z U : State} {a0 : Array Value} {kI : Nat} (wi : (Jvm.Cond.instantiable ST kI).before a0 Z = true) (al : Z.vm.Alike U.vm) {x t : Addr} {kb : ClassId} {cs : List Int32} {cd N2 : Int32} {vs : List Value} (E : RoadKit.Exa Z U.heap x ST) (V : RoadKit.Fld Z U.heap x ST "value" "[B" (.ref t)) (C : RoadKit.Fld Z U.heap x ST "coder" "B" (.int cd)) (K : RoadKit.Arv Z U.heap t kb .byte N2 vs (.int 0)) (hc : CodA cs cd N2 vs) (hb : ∀ c ∈ cs, ¬ c < 0 ∧ ¬ (65535 : Int32) < c) (l2 : cs.length ≤ 4000) :
    ∃ A, Txt x t A cd cs.length (fun j => cs.getD j 0) U := by
  obtain ⟨A, K1, K2, K3, K4, K5, K6⟩ := K
  have hcod := hc.cod (by omega) K3 K5
  obtain ⟨D, fV, fC, hB, F1, F2, g1, g2, -, -⟩ := strObj wi al E V C
  exact ⟨A, ⟨_, hB.2.2.1, D, hB.1, rfl, by cases q : D.vm <;> first | rfl | exact absurd q (hB.2.1.2 _)⟩, Has.of hB F1 g1, Has.of hB F2 g2, ⟨K1.1, State.isArrayOf_alike al K1.2.1, K1.2.2, by rcases hcod with ⟨-, q, -⟩ | ⟨-, q, -⟩ <;> omega⟩, hcod, fun j hj => by
    have e : cs.getD j 0 = cs[j] := by simp [List.getD_eq_getElem?_getD, hj]
    show ¬ cs.getD j 0 < 0 ∧ ¬ 65535 < cs.getD j 0
    rw [e]; exact hb _ (List.getElem_mem _)⟩
end StrChars.Road
namespace StrChars
open Jvm Sem ClassFile Op Lib Jvm.Stand Jvm.Free.XT Jvm.Free.ALB Jvm.Free.JM Jvm.Free
open Jvm.Lib.Cold (StaticIs)
namespace ChN
def yN : MethodName := ⟨"java/lang/String", "charAt", "(I)C"⟩
abbrev yB : ByteArray := jdk_42_method_56_code
theorem d0 : decode yB 0 = .ok (.aload_n 0, 1) := by decide +kernel
theorem d1 : decode yB 1 = .ok (.invokevirtual 492, 3) := by decide +kernel
theorem d4 : decode yB 4 = .ok (.ifCond (.eq) 12, 3) := by decide +kernel
theorem d7 : decode yB 7 = .ok (.aload_n 0, 1) := by decide +kernel
theorem d8 : decode yB 8 = .ok (.getfield 9, 3) := by decide +kernel
theorem d11 : decode yB 11 = .ok (.iload_n 1, 1) := by decide +kernel
theorem d12 : decode yB 12 = .ok (.invokestatic 495, 3) := by decide +kernel
theorem d15 : decode yB 15 = .ok (.ireturn, 1) := by decide +kernel
def site : List Cond := [.fieldLink "java/lang/String" 9 "java/lang/String" "value" "[B", IsL.tab, LChA.tab] ++ virtW "java/lang/String" 492 "java/lang/String" IsL.yN IsL.yN ++ staticW "java/lang/String" 495 LChA.yN
def tab : Cond := tabOf yN yB 2 (some .char) site
def P (x t : Addr) (V : Cell) (n : Nat) (f : Nat → Int32) (z : Int32) (fm : Value) (i : Nat) (args : Array Value) (s : State) : Prop := args = #[.ref x, .int (Int32.ofNat i)] ∧ Txt x t V 0 n f s ∧ i < n ∧ StaticIs s "java/lang/String" "COMPACT_STRINGS" "Z" (.int z) ∧ ¬ z = 0 ∧ StaticIs s "jdk/internal/util/Preconditions" "SIOOBE_FORMATTER" "Ljava/util/function/BiFunction;" fm ∧ fm.isRef = true
def E (f : Nat → Int32) (i : Nat) (r : Option Value) (s u : State) : Prop := XT.PureE (some (.int (f i))) r s u
/-- charAt(i) of a Latin-1 String of n chars, i < n: f i -/
theorem law (l : Launch) (x t : Addr) (V : Cell) (n : Nat) (f : Nat → Int32) (z : Int32) (fm : Value) (i : Nat) : Law l yN 2 1 3 40 yB 2 (some .char) site (P x t V n f z fm i) (E f i) [] 0 0 := by
  refine Law.of_walk (plainFor_of_name (by decide +kernel)) (by decide +kernel) (by decide +kernel) (by decide) (fun _ _ h => by rw [h.1]; rfl) (fun _ U U' hal hh h => ⟨h.1, h.2.1.mv hal hh, h.2.2.1, h.2.2.2.1.there hal hh, h.2.2.2.2.1, h.2.2.2.2.2.1.there hal hh, h.2.2.2.2.2.2⟩) (fun r U U' V V' h1 hal h2 h => XT.PureE.mv r U U' V V' h1 hal h2 h) ?_
  intro p e s m args below meth c s₁ X0 hexec hbytes hml hret hlk hnm hown hh0 W hP
  obtain ⟨rfl, hx, hi, s1, hz, s3, rf⟩ := hP
  have v31 := hx.2.2.2.1.2.2.2
  have hr := hx.2.2.2.2.2 i hi
  have hx0 := hx.mv X0.warmed.alike hh0
  have c1 : Steps p.tables e below (s₁.setTop (entryFrame m #[.ref x, .int (Int32.ofNat i)] 2)) (s₁.setTop (mkF m 1 #[.val (.ref x), .val (.int (Int32.ofNat i))] [.ref x])) := Steps.trans (entry rfl) (by
    show Steps p.tables e below (s₁.setTop (mkF m 0 #[.val (.ref x), .val (.int (Int32.ofNat i))] [])) _
    refine XS.aloadN X0.here hexec rfl (hb hbytes d0) rfl rfl ?_
    exact Steps.refl _)
  obtain ⟨v2, T2, X2, E2, g2⟩ := X0.callV hexec (IsL.law l x 0 z) hown (wks W (virtW "java/lang/String" 492 "java/lang/String" IsL.yN IsL.yN)) rfl (by decide) (wk W IsL.tab) (W := 0) (Nat.le_of_ble_eq_true rfl) (Nat.le_of_ble_eq_true rfl) (Nat.le_refl _) (Nat.le_refl _) (hx0.1.fc X0.warmed.alike) hx0.1.is (g := (mkF m 1 #[.val (.ref x), .val (.int (Int32.ofNat i))] [.ref x])) rfl (by rw [hml]; rfl) c1 (argsL := []) (rest := []) rfl rfl (by show 2 * 0 + 0 ≤ _; decide) (hb hbytes d1) (⟨rfl, hx0.2.2.1, hx.2.2.2.2.1.cd, s1.there X0.warmed.alike hh0, hz⟩)
  obtain ⟨rfl, q2⟩ := E2
  have hh2 := q2.trans hh0
  have hx2 := hx.mv X2.warmed.alike hh2
  obtain ⟨-, k1, k2⟩ | ⟨k0, -⟩ := hx.2.2.2.2.1
  · have c3 : Steps p.tables e below (s₁.setTop (entryFrame m #[.ref x, .int (Int32.ofNat i)] 2)) (T2.setTop (mkF m 8 #[.val (.ref x), .val (.int (Int32.ofNat i))] [.ref x])) := Steps.trans g2 (by
      refine XS.ifNo X2.here hexec rfl (hb hbytes d4) rfl (i0_eq_f (by decide)) ?_
      refine XS.aloadN X2.here hexec rfl (hb hbytes d7) rfl rfl ?_
      exact Steps.refl _)
    obtain ⟨T4, X4, q4, st4⟩ := X2.hget hexec hown (wk W (.fieldLink "java/lang/String" 9 "java/lang/String" "value" "[B")) hx2.2.1 (g := (mkF m 8 #[.val (.ref x), .val (.int (Int32.ofNat i))] [.ref x])) rfl (rest := []) rfl (hb hbytes d8)
    have hh4 := q4.trans hh2
    have c5 : Steps p.tables e below (s₁.setTop (entryFrame m #[.ref x, .int (Int32.ofNat i)] 2)) (T4.setTop (mkF m 12 #[.val (.ref x), .val (.int (Int32.ofNat i))] [.int (Int32.ofNat i), .ref t])) := (c3.trans (st4 _ (Steps.refl _))).trans (by
      refine XS.iloadN X4.here hexec rfl (hb hbytes d11) rfl ?_
      exact Steps.refl _)
    obtain ⟨v6, T6, X6, E6, g6⟩ := X4.callS hexec (LChA.law l t V i (lo8 (f i)) fm) hown (wks W (staticW "java/lang/String" 495 LChA.yN)) (wk W LChA.tab) (W := 0) (Nat.le_of_ble_eq_true rfl) (Nat.le_of_ble_eq_true rfl) (Nat.le_refl _) (Nat.le_refl _) (g := (mkF m 12 #[.val (.ref x), .val (.int (Int32.ofNat i))] [.int (Int32.ofNat i), .ref t])) rfl (by rw [hml]; rfl) c5 (argsL := [.ref t, .int (Int32.ofNat i)]) (rest := []) rfl rfl (by show 2 * 0 + 0 ≤ _; decide) (hb hbytes d12) (⟨rfl, hx.2.2.2.1.mv X4.warmed.alike hh4, (k2 i hi).1, s3.there X4.warmed.alike hh4, rf⟩)
    obtain ⟨rfl, q6⟩ := E6
    rw [chr8_lo8 hr.1 (k2 i hi).2] at g6
    exact ⟨T6, some (.int (f i)), _, _, _, X6, rfl, rfl, rfl, (fun h => by cases h), ⟨rfl, q6.trans hh4⟩, fun fs hl => Steps.trans g6 (X6.ireturnOut hexec hret (narrow_ch hr.1 hr.2) (Or.inr (Or.inr (Or.inr (Or.inl rfl)))) (hb hbytes d15) hl)⟩
  · exact absurd k0 (by decide)
theorem pays {l : Launch} {R : Room} {p : Program} {e : Env} {below : List Frame} {s : State} {sargs : Array Value} {len W : Nat} (x t : Addr) (V : Cell) (n : Nat) (f : Nat → Int32) (z : Int32) (fm : Value) (i : Nat) (htab : tab.before sargs s = true) (hfr : 4 ≤ R.frames) (hlo : W + 53 ≤ R.locals) :
    Back l R p e below s sargs yN len W (fun A₁ a₁ => A₁.cells + 0 ≤ R.cells ∧ A₁.slots + 0 ≤ R.slots ∧ P x t V n f z fm i a₁ A₁.U) (fun A₁ _ v₁ B₁ => E f i v₁ A₁.U B₁.U ∧ B₁.locs = A₁.locs ++ [] ∧ B₁.cells = A₁.cells + 0 ∧ B₁.slots = A₁.slots + 0) :=
  (law l x t V n f z fm i).pays htab hfr (by omega)
end ChN
end StrChars
namespace StrChars.Road
open Jvm Sem ClassFile Op Lib Jvm.Stand Jvm.Free Jvm.Free.XT
open Jvm.Lib.Cold (StaticIs)
/-- the words of String.charAt(int), the Latin-1 road alone -/
abbrev wordsChN : List Jvm.Cond := [.code ChN.yN ChN.yB 2 (some .char), .initialized ST, .fieldLink ST 9 ST "value" "[B", .fieldLink ST 38 ST "COMPACT_STRINGS" "Z", .fieldLink ST 15 ST "coder" "B", .code IsL.yN IsL.yB 1 (some .boolean), .methodLink ST 492 IsL.yN, .declares IsL.yN, .selects ST IsL.yN IsL.yN, .instanceMethod IsL.yN,
  .methodLink ST 495 LChA.yN, .static LChA.yN, .code LChA.yN LChA.yB 2 (some .char), .initialized "java/lang/StringLatin1", .methodLink "java/lang/StringLatin1" 9 JO.Str_checkIndex.yN, .static JO.Str_checkIndex.yN, .code JO.Str_checkIndex.yN JO.Str_checkIndex.yB 2 none,
  .fieldLink ST 1053 "jdk/internal/util/Preconditions" "SIOOBE_FORMATTER" "Ljava/util/function/BiFunction;", .methodLink ST 1059 JC.PreCheck.yN, .static JC.PreCheck.yN, .code JC.PreCheck.yN JC.PreCheck.yB 3 (some .int), .initialized "jdk/internal/util/Preconditions"]
theorem tabChN_of {a : Array Value} {s : State} (h : ∀ w ∈ wordsChN, w.before a s = true) : ChN.tab.before a s = true := by
  have hp : JC.PreCheck.tab.before a s = true := unparts (wk h (.code JC.PreCheck.yN JC.PreCheck.yB 3 (some .int))) (wks h (.initialized JC.PreCheck.yN.cls :: JC.PreCheck.site))
  have qk := consq hp h
  have hk : JO.Str_checkIndex.tab.before a s = true := unparts (wk qk (.code JO.Str_checkIndex.yN JO.Str_checkIndex.yB 2 none)) (wks qk (.initialized JO.Str_checkIndex.yN.cls :: JO.Str_checkIndex.site))
  have ql := consq hk h
  have hl : LChA.tab.before a s = true := unparts (wk ql (.code LChA.yN LChA.yB 2 (some .char))) (wks ql (.initialized LChA.yN.cls :: LChA.site))
  have hi : IsL.tab.before a s = true := unparts (wk h (.code IsL.yN IsL.yB 1 (some .boolean))) (wks h (.initialized IsL.yN.cls :: IsL.site))
  have q := consq hi (consq hl h)
  exact unparts (wk q (.code ChN.yN ChN.yB 2 (some .char))) (wks q (.initialized ChN.yN.cls :: ChN.site))
theorem movedChN {Z s : State} {a0 args : Array Value} (hZ : Z.Warmed39 s.vm) (hw : ∀ d ∈ wordsChN, d.before a0 Z = true) : ∀ d ∈ wordsChN, d.before args s = true := fun d hd => by
  have t : ∀ d ∈ wordsChN, (d.onTables && d.keepsFace) = true := by decide +kernel
  exact RoadKit.mv hZ (hw d hd) (t d hd)
/-- **charAt(i) OF A LATIN-1 STRING**, i < n: the char -/
theorem chN {p : Program} {l : Launch} {e : Env} {R : Room} {s : State} {args : Array Value} {below : List Frame} {len W : Nat} {Z : State} {a0 : Array Value} {h : Heap} (hZ : Z.Warmed39 s.vm) (hw : ∀ d ∈ wordsChN, d.before a0 Z = true) {kI : Nat} (wi : (Jvm.Cond.instantiable ST kI).before a0 Z = true)
    {x t : Addr} {kb : ClassId} {cs : List Int32} {N2 z : Int32} {vs : List Value} {fm : Value} {i : Nat} {j : Int32} (E : RoadKit.Exa Z h x ST) (V : RoadKit.Fld Z h x ST "value" "[B" (.ref t)) (C : RoadKit.Fld Z h x ST "coder" "B" (.int 0)) (K : RoadKit.Arv Z h t kb .byte N2 vs (.int 0)) (hc : CodA cs 0 N2 vs) (hb : ∀ c ∈ cs, ¬ c < 0 ∧ ¬ (65535 : Int32) < c)
    (S : RoadKit.Sta Z h ST "COMPACT_STRINGS" "Z" (.int z)) (hz : ¬ z = 0) (F : RoadKit.Sta Z h "jdk/internal/util/Preconditions" "SIOOBE_FORMATTER" "Ljava/util/function/BiFunction;" fm) (rf : fm.isRef = true) (l2 : cs.length ≤ 4000) (hi : i < cs.length) (hj : j = Int32.ofNat i) (hfr : 4 ≤ R.frames) (hlo : W + 53 ≤ R.locals) :
    Back l R p e below s args (⟨"java/lang/String", "charAt", "(I)C"⟩ : MethodName) len W (fun P a => a = #[.ref x, .int j] ∧ P.U.heap = h ∧ P.cells + 0 ≤ R.cells ∧ P.slots + 0 ≤ R.slots)
      (fun P _ v B => ∃ L, (v = some (.int (cs.getD i 0)) ∧ L = [] ∧ B.U.heap = h) ∧ B.locs = P.locs ++ L ∧ B.cells = P.cells + 0 ∧ B.slots = P.slots + 0) := by
  subst hj
  intro m meth c P g ig mk a X hg hsize hdg hW hn hp'
  obtain ⟨rfl, rfl, r1, r2⟩ := hp'
  have al : Z.vm.Alike P.U.vm := hZ.alike.trans X.warmed.alike
  obtain ⟨A, hx⟩ := txt_of wi al E V C K hc hb l2
  obtain ⟨v, B, X', ⟨⟨hv, hh⟩, hl, hk, hs⟩, st⟩ := ChN.pays x t A cs.length (fun j => cs.getD j 0) z fm i (tabChN_of (movedChN hZ hw)) hfr hlo m meth c P g ig mk _ X hg hsize hdg hW hn ⟨r1, r2, rfl, hx, hi, sta_is al S, hz, sta_is al F, rf⟩
  exact ⟨v, B, X', ⟨[], ⟨hv, rfl, hh⟩, hl, hk, hs⟩, st⟩
/-- what backV says of its String, as the contracts of this text ask it: cs's low bytes, coder 0 -/
theorem codOf {cs : List Int32} {n : Nat} (hn : cs.length = n) (hb : ∀ c ∈ cs, ¬ 255 < c) : CodA cs 0 (Int32.ofNat n) ((cs.map lo8).map Value.int) := Or.inl ⟨rfl, by rw [hn], by simp [List.map_map, Function.comp_def], hb⟩
end StrChars.Road
end Jvm.Pilot.@@N@@

namespace Jvm.Pilot.@@N@@
open Jvm Jvm.ClassFile Sem Op Lib Jvm.Free Jvm.Stand Jvm.LawKit Jvm.RoadKit Bundle Jvm.Pilot.@@N@@.Jvm.D
abbrev cn_0 : String := "com/example/refmint/refmint/bibtex/LatexClosingPinLaw"
abbrev cn_1 : String := "java/lang/String"
abbrev cn_2 : String := "com/example/refmint/refmint/bibtex/Latex"
abbrev cn_3 : String := "(Ljava/lang/String;II)I"
def own_St (Z : State) (w_COMPACT_STRINGS : Int32) (w_SIOOBE_FORMATTER : Value) : Prop := (Sta Z Z.heap cn_1 "COMPACT_STRINGS" "Z" (.int w_COMPACT_STRINGS)) ∧ (Sta Z Z.heap "jdk/internal/util/Preconditions" "SIOOBE_FORMATTER" "Ljava/util/function/BiFunction;" w_SIOOBE_FORMATTER) ∧ (w_SIOOBE_FORMATTER.isRef = true) ∧ (¬ w_COMPACT_STRINGS = (0 : Int32))
theorem own_St.k0 {Z : State} {w_COMPACT_STRINGS : Int32} {w_SIOOBE_FORMATTER : Value} (ST : own_St Z w_COMPACT_STRINGS w_SIOOBE_FORMATTER) : Sta Z Z.heap cn_1 "COMPACT_STRINGS" "Z" (.int w_COMPACT_STRINGS) := ST.1
theorem own_St.k1 {Z : State} {w_COMPACT_STRINGS : Int32} {w_SIOOBE_FORMATTER : Value} (ST : own_St Z w_COMPACT_STRINGS w_SIOOBE_FORMATTER) : Sta Z Z.heap "jdk/internal/util/Preconditions" "SIOOBE_FORMATTER" "Ljava/util/function/BiFunction;" w_SIOOBE_FORMATTER := ST.2.1
theorem own_St.k2 {Z : State} {w_COMPACT_STRINGS : Int32} {w_SIOOBE_FORMATTER : Value} (ST : own_St Z w_COMPACT_STRINGS w_SIOOBE_FORMATTER) : w_SIOOBE_FORMATTER.isRef = true := ST.2.2.1
theorem own_St.k3 {Z : State} {w_COMPACT_STRINGS : Int32} {w_SIOOBE_FORMATTER : Value} (ST : own_St Z w_COMPACT_STRINGS w_SIOOBE_FORMATTER) : ¬ w_COMPACT_STRINGS = (0 : Int32) := ST.2.2.2
theorem own_hwV {Z : State} {a0 : Array Value} (hw : ∀ d ∈ tables_1, d.before a0 Z = true) : ∀ d ∈ StrChars.Road.words, d.before a0 Z = true := fun d hd => hw d ((by decide +kernel : ∀ d ∈ StrChars.Road.words, d ∈ tables_1) d hd)
theorem own_hwC {Z : State} {a0 : Array Value} (hw : ∀ d ∈ tables_1, d.before a0 Z = true) : ∀ d ∈ StrChars.Road.wordsChN, d.before a0 Z = true := fun d hd => hw d ((by decide +kernel : ∀ d ∈ StrChars.Road.wordsChN, d ∈ tables_1) d hd)
theorem own_up {cs : List Int32} (h : ∀ c ∈ cs, ¬ c < 0 ∧ ¬ (255 : Int32) < c) : ∀ c ∈ cs, ¬ c < 0 ∧ ¬ (65535 : Int32) < c := fun c hc => ⟨(h c hc).1, fun q => (h c hc).2 (Int32.lt_trans (by decide) q)⟩
theorem own_cod (cs : List Int32) (n : Nat) (hn : cs.length = n) (h : ∀ c ∈ cs, ¬ c < 0 ∧ ¬ (255 : Int32) < c) : StrChars.Road.CodA cs 0 (Int32.ofNat n) ((cs.map StrChars.lo8).map Value.int) := StrChars.Road.codOf hn (fun c hc => (h c hc).2)
theorem d0_0 : decode method_2_code 0 = .ok (.iload_n 0, 1) := by decide +kernel
theorem d0_1 : decode method_2_code 1 = .ok (.iconst 2, 1) := by decide +kernel
theorem d0_2 : decode method_2_code 2 = .ok (.iload_n 3, 1) := by decide +kernel
theorem d0_3 : decode method_2_code 3 = .ok (.imul, 1) := by decide +kernel
theorem d0_4 : decode method_2_code 4 = .ok (.iushr, 1) := by decide +kernel
theorem d0_5 : decode method_2_code 5 = .ok (.iconst 3, 1) := by decide +kernel
theorem d0_6 : decode method_2_code 6 = .ok (.iand, 1) := by decide +kernel
theorem d0_7 : decode method_2_code 7 = .ok (.istore 4, 2) := by decide +kernel
theorem d0_9 : decode method_2_code 9 = .ok (.iload 4, 2) := by decide +kernel
theorem d0_11 : decode method_2_code 11 = .ok (.ifCond .ne 6, 3) := by decide +kernel
theorem d0_14 : decode method_2_code 14 = .ok (.bipush 123, 2) := by decide +kernel
theorem d0_16 : decode method_2_code 16 = .ok (.ireturn, 1) := by decide +kernel
theorem d0_17 : decode method_2_code 17 = .ok (.iload 4, 2) := by decide +kernel
theorem d0_19 : decode method_2_code 19 = .ok (.iconst 1, 1) := by decide +kernel
theorem d0_20 : decode method_2_code 20 = .ok (.if_icmp .ne 6, 3) := by decide +kernel
theorem d0_23 : decode method_2_code 23 = .ok (.bipush 125, 2) := by decide +kernel
theorem d0_25 : decode method_2_code 25 = .ok (.ireturn, 1) := by decide +kernel
theorem d0_26 : decode method_2_code 26 = .ok (.iload 4, 2) := by decide +kernel
theorem d0_28 : decode method_2_code 28 = .ok (.iconst 2, 1) := by decide +kernel
theorem d0_29 : decode method_2_code 29 = .ok (.if_icmp .ne 6, 3) := by decide +kernel
theorem d0_32 : decode method_2_code 32 = .ok (.bipush 92, 2) := by decide +kernel
theorem d0_34 : decode method_2_code 34 = .ok (.ireturn, 1) := by decide +kernel
theorem d0_35 : decode method_2_code 35 = .ok (.lload_n 1, 1) := by decide +kernel
theorem d0_36 : decode method_2_code 36 = .ok (.bipush 8, 2) := by decide +kernel
theorem d0_38 : decode method_2_code 38 = .ok (.iload_n 3, 1) := by decide +kernel
theorem d0_39 : decode method_2_code 39 = .ok (.imul, 1) := by decide +kernel
theorem d0_40 : decode method_2_code 40 = .ok (.lushr, 1) := by decide +kernel
theorem d0_41 : decode method_2_code 41 = .ok (.ldc2_w 7, 3) := by decide +kernel
theorem ww45 {Z : State} {a0 : Array Value} (hw : ∀ d ∈ tables_1, d.before a0 Z = true) : Jvm.Cond.before (Jvm.Cond.constantLong cn_0 (7 : Nat) (255 : Int64)) a0 Z = true := hw _ (List.mem_of_getElem? (i := 45) rfl)
theorem d0_44 : decode method_2_code 44 = .ok (.land, 1) := by decide +kernel
theorem d0_45 : decode method_2_code 45 = .ok (.l2i, 1) := by decide +kernel
theorem d0_46 : decode method_2_code 46 = .ok (.i2c, 1) := by decide +kernel
theorem d0_47 : decode method_2_code 47 = .ok (.ireturn, 1) := by decide +kernel
abbrev rr_pick : Room := { frames := 0, cells := 0, slots := 0, locals := 0 }
abbrev y_0 : MethodName := ⟨cn_0, "pick", "(IJI)C"⟩
theorem pn_0 : plainName cn_0 = true := by first | (simp [plainName, overriddenIn]; done) | decide +kernel
theorem ef_pick (m : MethodId) (p0 : Int32) (q1 : Int64) (p2 : Int32) : entryFrame m #[(.int p0), (.long q1), (.int p2)] 5 = mkF m 0 #[.val (.int p0), .val (.long q1), .second, .val (.int p2), .unset] [] := by first | (simp [entryFrame, mkF, argsToLocals, Value.category]; done) | rfl
def f_pick (w_COMPACT_STRINGS : Int32) (w_SIOOBE_FORMATTER : Value) (p0 : Int32) (q1 : Int64) (p2 : Int32) : Int32 := (if (((p0.toUInt32 >>> (((2 : Int32) * p2) &&& 31).toUInt32).toInt32) &&& (3 : Int32)) = (0 : Int32) then (123 : Int32) else (if (((p0.toUInt32 >>> (((2 : Int32) * p2) &&& 31).toUInt32).toInt32) &&& (3 : Int32)) = (1 : Int32) then (125 : Int32) else (if (((p0.toUInt32 >>> (((2 : Int32) * p2) &&& 31).toUInt32).toInt32) &&& (3 : Int32)) = (2 : Int32) then (92 : Int32) else ((((q1.toUInt64 >>> (((8 : Int32) * p2) &&& 0x3f).toInt64.toUInt64).toInt64) &&& (255 : Int64)).toInt32))))
def Q_pick (Z : State) (w_COMPACT_STRINGS : Int32) (w_SIOOBE_FORMATTER : Value) (p0 : Int32) (q1 : Int64) (p2 : Int32) (h0 : Heap) (n0 : Nat) (v : Option Value) (h : Heap) (L : List Loc) : Prop := v = some (.int (f_pick w_COMPACT_STRINGS w_SIOOBE_FORMATTER p0 q1 p2)) ∧ Fr n0 L ∧ h = h0
set_option maxRecDepth 65536 in
set_option maxHeartbeats 40000000 in
theorem rm_pick (l : Launch) (Z : State) (a0 : Array Value) (hw : ∀ d ∈ tables_1, d.before a0 Z = true) (ws : List Jvm.Cond) (w_COMPACT_STRINGS : Int32) (w_SIOOBE_FORMATTER : Value) (p0 : Int32) (q1 : Int64) (p2 : Int32) (h0 : Heap) (n0 : Nat) (Z0 : n0 ≤ h0.size) (ST : own_St Z w_COMPACT_STRINGS w_SIOOBE_FORMATTER) (O0 : Old Z n0 h0) :
    MetFree l y_0 (head1 (Jvm.Cond.code y_0 method_2_code 5 (some .char) :: ws) rr_pick) (fun a U => a = #[(.int p0), (.long q1), (.int p2)] ∧ Z.Warmed39 U.vm ∧ U.heap = h0) (fun _ _ _ _ _ => True) (fun _ U o U' => ∃ v L, o = .returned v ∧ Q_pick Z w_COMPACT_STRINGS w_SIOOBE_FORMATTER p0 q1 p2 h0 n0 v U'.heap L ∧ FrameEnd U o U' L rr_pick.cells rr_pick.slots) := by
  refine MetFree.of_bodySF (plainFor_of_name pn_0) hisR ?_
  intro p e s m args below meth c s₁ Bd hml0 hP hK
  obtain ⟨rfl, hZ, hh⟩ := hP
  have hx := Bd.exec
  have hby := Bd.bytes
  have hml : c.maxLocals = 5 := hml0
  have hown : s.vm.findClass cn_0 = some m.cls := findClass_of_methodNamed Bd.named
  have hnm := (name_of_methodNamed Bd.named Bd.method).1
  have X0 : Stand p l e rr_pick s m #[(.int p0), (.long q1), (.int p2)] below meth c s₁ [] 0 0 := Stand.of_body Bd
  have e0 : s₁.heap = h0 := by rw [← hh, Bd.state]; rfl
  have N0 := Fr.nil n0
  obtain ⟨G, step, ret, fin⟩ := own_open (p := p) (l := l) (e := e) (R := rr_pick) (s := s) (m := m) (args := #[(.int p0), (.long q1), (.int p2)]) (below := below) (meth := meth) (c := c) (rr_pick.cells) (rr_pick.slots) (Q_pick Z w_COMPACT_STRINGS w_SIOOBE_FORMATTER p0 q1 p2 h0 n0) Bd.notSynchronized
  refine fin (g := entryFrame m #[(.int p0), (.long q1), (.int p2)] 5) ?_
  rw [ef_pick m p0 q1 p2]
  show G s₁ (mkF m 0 #[.val (.int p0), .val (.long q1), .second, .val (.int p2), .unset] [])
  refine step (fun t k => XS.iloadN X0.here hx rfl (hb hby d0_0) rfl k) ?_
  show G s₁ (mkF m 1 #[.val (.int p0), .val (.long q1), .second, .val (.int p2), .unset] [(.int p0)])
  refine step (fun t k => XS.iconst X0.here hx rfl (hb hby d0_1) k) ?_
  show G s₁ (mkF m 2 #[.val (.int p0), .val (.long q1), .second, .val (.int p2), .unset] [(.int 2), (.int p0)])
  refine step (fun t k => XS.iloadN X0.here hx rfl (hb hby d0_2) rfl k) ?_
  show G s₁ (mkF m 3 #[.val (.int p0), .val (.long q1), .second, .val (.int p2), .unset] [(.int p2), (.int 2), (.int p0)])
  refine step (fun t k => XS.imul X0.here hx rfl (hb hby d0_3) rfl k) ?_
  show G s₁ (mkF m 4 #[.val (.int p0), .val (.long q1), .second, .val (.int p2), .unset] [(.int ((2 : Int32) * p2)), (.int p0)])
  refine step (fun t k => XS.iushr X0.here hx rfl (hb hby d0_4) rfl k) ?_
  show G s₁ (mkF m 5 #[.val (.int p0), .val (.long q1), .second, .val (.int p2), .unset] [(.int ((p0.toUInt32 >>> (((2 : Int32) * p2) &&& 31).toUInt32).toInt32))])
  refine step (fun t k => XS.iconst X0.here hx rfl (hb hby d0_5) k) ?_
  show G s₁ (mkF m 6 #[.val (.int p0), .val (.long q1), .second, .val (.int p2), .unset] [(.int 3), (.int ((p0.toUInt32 >>> (((2 : Int32) * p2) &&& 31).toUInt32).toInt32))])
  refine step (fun t k => XS.iand X0.here hx rfl (hb hby d0_6) rfl k) ?_
  show G s₁ (mkF m 7 #[.val (.int p0), .val (.long q1), .second, .val (.int p2), .unset] [(.int (((p0.toUInt32 >>> (((2 : Int32) * p2) &&& 31).toUInt32).toInt32) &&& (3 : Int32)))])
  refine step (fun t k => XS.istore X0.here hx rfl (hb hby d0_7) rfl (l' := #[.val (.int p0), .val (.long q1), .second, .val (.int p2), .val (.int (((p0.toUInt32 >>> (((2 : Int32) * p2) &&& 31).toUInt32).toInt32) &&& (3 : Int32)))]) rfl k) ?_
  show G s₁ (mkF m 9 #[.val (.int p0), .val (.long q1), .second, .val (.int p2), .val (.int (((p0.toUInt32 >>> (((2 : Int32) * p2) &&& 31).toUInt32).toInt32) &&& (3 : Int32)))] [])
  refine step (fun t k => XS.iload X0.here hx rfl (hb hby d0_9) rfl k) ?_
  show G s₁ (mkF m 11 #[.val (.int p0), .val (.long q1), .second, .val (.int p2), .val (.int (((p0.toUInt32 >>> (((2 : Int32) * p2) &&& 31).toUInt32).toInt32) &&& (3 : Int32)))] [(.int (((p0.toUInt32 >>> (((2 : Int32) * p2) &&& 31).toUInt32).toInt32) &&& (3 : Int32)))])
  by_cases hc1 : (((p0.toUInt32 >>> (((2 : Int32) * p2) &&& 31).toUInt32).toInt32) &&& (3 : Int32)) = (0 : Int32)
  · skip
    refine step (fun t k => XS.ifNo X0.here hx rfl (hb hby d0_11) rfl ((if0 _ _).trans (teq hc1).2) k) ?_
    show G s₁ (mkF m 14 #[.val (.int p0), .val (.long q1), .second, .val (.int p2), .val (.int (((p0.toUInt32 >>> (((2 : Int32) * p2) &&& 31).toUInt32).toInt32) &&& (3 : Int32)))] [])
    refine step (fun t k => XS.bipush X0.here hx rfl (hb hby d0_14) k) ?_
    show G s₁ (mkF m 16 #[.val (.int p0), .val (.long q1), .second, .val (.int p2), .val (.int (((p0.toUInt32 >>> (((2 : Int32) * p2) &&& 31).toUInt32).toInt32) &&& (3 : Int32)))] [(.int 123)])
    exact ret (v := some (.int 123)) X0 (fun h => by rw [Bd.returns] at h; cases h) (fun fs hr => retN X0 hx (t := .char) Bd.returns (by simp) (hb hby d0_16) hr) e0 ⟨by unfold f_pick; rw [if_pos hc1], N0, rfl⟩ (by decide) (by decide)
  · skip
    refine step (fun t k => XS.ifYes X0.here hx rfl (pc0 := 11) (pc' := 17) rfl (hb hby d0_11) rfl ((if0 _ _).trans (feq hc1).2) (by decide) (by decide) k) ?_
    show G s₁ (mkF m 17 #[.val (.int p0), .val (.long q1), .second, .val (.int p2), .val (.int (((p0.toUInt32 >>> (((2 : Int32) * p2) &&& 31).toUInt32).toInt32) &&& (3 : Int32)))] [])
    refine step (fun t k => XS.iload X0.here hx rfl (hb hby d0_17) rfl k) ?_
    show G s₁ (mkF m 19 #[.val (.int p0), .val (.long q1), .second, .val (.int p2), .val (.int (((p0.toUInt32 >>> (((2 : Int32) * p2) &&& 31).toUInt32).toInt32) &&& (3 : Int32)))] [(.int (((p0.toUInt32 >>> (((2 : Int32) * p2) &&& 31).toUInt32).toInt32) &&& (3 : Int32)))])
    refine step (fun t k => XS.iconst X0.here hx rfl (hb hby d0_19) k) ?_
    show G s₁ (mkF m 20 #[.val (.int p0), .val (.long q1), .second, .val (.int p2), .val (.int (((p0.toUInt32 >>> (((2 : Int32) * p2) &&& 31).toUInt32).toInt32) &&& (3 : Int32)))] [(.int 1), (.int (((p0.toUInt32 >>> (((2 : Int32) * p2) &&& 31).toUInt32).toInt32) &&& (3 : Int32)))])
    by_cases hc2 : (((p0.toUInt32 >>> (((2 : Int32) * p2) &&& 31).toUInt32).toInt32) &&& (3 : Int32)) = (1 : Int32)
    · skip
      refine step (fun t k => XS.icmpNo X0.here hx rfl (hb hby d0_20) rfl (teq hc2).2 k) ?_
      show G s₁ (mkF m 23 #[.val (.int p0), .val (.long q1), .second, .val (.int p2), .val (.int (((p0.toUInt32 >>> (((2 : Int32) * p2) &&& 31).toUInt32).toInt32) &&& (3 : Int32)))] [])
      refine step (fun t k => XS.bipush X0.here hx rfl (hb hby d0_23) k) ?_
      show G s₁ (mkF m 25 #[.val (.int p0), .val (.long q1), .second, .val (.int p2), .val (.int (((p0.toUInt32 >>> (((2 : Int32) * p2) &&& 31).toUInt32).toInt32) &&& (3 : Int32)))] [(.int 125)])
      exact ret (v := some (.int 125)) X0 (fun h => by rw [Bd.returns] at h; cases h) (fun fs hr => retN X0 hx (t := .char) Bd.returns (by simp) (hb hby d0_25) hr) e0 ⟨by unfold f_pick; rw [if_neg hc1, if_pos hc2], N0, rfl⟩ (by decide) (by decide)
    · skip
      refine step (fun t k => XS.icmpYes X0.here hx rfl (pc0 := 20) (pc' := 26) rfl (hb hby d0_20) rfl (feq hc2).2 (by decide) (by decide) k) ?_
      show G s₁ (mkF m 26 #[.val (.int p0), .val (.long q1), .second, .val (.int p2), .val (.int (((p0.toUInt32 >>> (((2 : Int32) * p2) &&& 31).toUInt32).toInt32) &&& (3 : Int32)))] [])
      refine step (fun t k => XS.iload X0.here hx rfl (hb hby d0_26) rfl k) ?_
      show G s₁ (mkF m 28 #[.val (.int p0), .val (.long q1), .second, .val (.int p2), .val (.int (((p0.toUInt32 >>> (((2 : Int32) * p2) &&& 31).toUInt32).toInt32) &&& (3 : Int32)))] [(.int (((p0.toUInt32 >>> (((2 : Int32) * p2) &&& 31).toUInt32).toInt32) &&& (3 : Int32)))])
      refine step (fun t k => XS.iconst X0.here hx rfl (hb hby d0_28) k) ?_
      show G s₁ (mkF m 29 #[.val (.int p0), .val (.long q1), .second, .val (.int p2), .val (.int (((p0.toUInt32 >>> (((2 : Int32) * p2) &&& 31).toUInt32).toInt32) &&& (3 : Int32)))] [(.int 2), (.int (((p0.toUInt32 >>> (((2 : Int32) * p2) &&& 31).toUInt32).toInt32) &&& (3 : Int32)))])
      by_cases hc3 : (((p0.toUInt32 >>> (((2 : Int32) * p2) &&& 31).toUInt32).toInt32) &&& (3 : Int32)) = (2 : Int32)
      · skip
        refine step (fun t k => XS.icmpNo X0.here hx rfl (hb hby d0_29) rfl (teq hc3).2 k) ?_
        show G s₁ (mkF m 32 #[.val (.int p0), .val (.long q1), .second, .val (.int p2), .val (.int (((p0.toUInt32 >>> (((2 : Int32) * p2) &&& 31).toUInt32).toInt32) &&& (3 : Int32)))] [])
        refine step (fun t k => XS.bipush X0.here hx rfl (hb hby d0_32) k) ?_
        show G s₁ (mkF m 34 #[.val (.int p0), .val (.long q1), .second, .val (.int p2), .val (.int (((p0.toUInt32 >>> (((2 : Int32) * p2) &&& 31).toUInt32).toInt32) &&& (3 : Int32)))] [(.int 92)])
        exact ret (v := some (.int 92)) X0 (fun h => by rw [Bd.returns] at h; cases h) (fun fs hr => retN X0 hx (t := .char) Bd.returns (by simp) (hb hby d0_34) hr) e0 ⟨by unfold f_pick; rw [if_neg hc1, if_neg hc2, if_pos hc3], N0, rfl⟩ (by decide) (by decide)
      · skip
        refine step (fun t k => XS.icmpYes X0.here hx rfl (pc0 := 29) (pc' := 35) rfl (hb hby d0_29) rfl (feq hc3).2 (by decide) (by decide) k) ?_
        show G s₁ (mkF m 35 #[.val (.int p0), .val (.long q1), .second, .val (.int p2), .val (.int (((p0.toUInt32 >>> (((2 : Int32) * p2) &&& 31).toUInt32).toInt32) &&& (3 : Int32)))] [])
        refine step (fun t k => XS.lloadN X0.here hx rfl (hb hby d0_35) rfl k) ?_
        show G s₁ (mkF m 36 #[.val (.int p0), .val (.long q1), .second, .val (.int p2), .val (.int (((p0.toUInt32 >>> (((2 : Int32) * p2) &&& 31).toUInt32).toInt32) &&& (3 : Int32)))] [(.long q1)])
        refine step (fun t k => XS.bipush X0.here hx rfl (hb hby d0_36) k) ?_
        show G s₁ (mkF m 38 #[.val (.int p0), .val (.long q1), .second, .val (.int p2), .val (.int (((p0.toUInt32 >>> (((2 : Int32) * p2) &&& 31).toUInt32).toInt32) &&& (3 : Int32)))] [(.int 8), (.long q1)])
        refine step (fun t k => XS.iloadN X0.here hx rfl (hb hby d0_38) rfl k) ?_
        show G s₁ (mkF m 39 #[.val (.int p0), .val (.long q1), .second, .val (.int p2), .val (.int (((p0.toUInt32 >>> (((2 : Int32) * p2) &&& 31).toUInt32).toInt32) &&& (3 : Int32)))] [(.int p2), (.int 8), (.long q1)])
        refine step (fun t k => XS.imul X0.here hx rfl (hb hby d0_39) rfl k) ?_
        show G s₁ (mkF m 40 #[.val (.int p0), .val (.long q1), .second, .val (.int p2), .val (.int (((p0.toUInt32 >>> (((2 : Int32) * p2) &&& 31).toUInt32).toInt32) &&& (3 : Int32)))] [(.int ((8 : Int32) * p2)), (.long q1)])
        refine step (fun t k => XS.lushr X0.here hx rfl (hb hby d0_40) rfl k) ?_
        show G s₁ (mkF m 41 #[.val (.int p0), .val (.long q1), .second, .val (.int p2), .val (.int (((p0.toUInt32 >>> (((2 : Int32) * p2) &&& 31).toUInt32).toInt32) &&& (3 : Int32)))] [(.long ((q1.toUInt64 >>> (((8 : Int32) * p2) &&& 0x3f).toInt64.toUInt64).toInt64))])
        have q4 := X0.ldc2Long hx hown (mvT hZ (ww45 hw)) (g := (mkF m 41 #[.val (.int p0), .val (.long q1), .second, .val (.int p2), .val (.int (((p0.toUInt32 >>> (((2 : Int32) * p2) &&& 31).toUInt32).toInt32) &&& (3 : Int32)))] [(.long ((q1.toUInt64 >>> (((8 : Int32) * p2) &&& 0x3f).toInt64.toUInt64).toInt64))])) rfl (hb hby d0_41)
        refine step q4 ?_
        show G s₁ (mkF m 44 #[.val (.int p0), .val (.long q1), .second, .val (.int p2), .val (.int (((p0.toUInt32 >>> (((2 : Int32) * p2) &&& 31).toUInt32).toInt32) &&& (3 : Int32)))] [(.long 255), (.long ((q1.toUInt64 >>> (((8 : Int32) * p2) &&& 0x3f).toInt64.toUInt64).toInt64))])
        refine step (fun t k => XS.land X0.here hx rfl (hb hby d0_44) rfl k) ?_
        show G s₁ (mkF m 45 #[.val (.int p0), .val (.long q1), .second, .val (.int p2), .val (.int (((p0.toUInt32 >>> (((2 : Int32) * p2) &&& 31).toUInt32).toInt32) &&& (3 : Int32)))] [(.long (((q1.toUInt64 >>> (((8 : Int32) * p2) &&& 0x3f).toInt64.toUInt64).toInt64) &&& (255 : Int64)))])
        refine step (fun t k => XS.l2i X0.here hx rfl (hb hby d0_45) rfl k) ?_
        show G s₁ (mkF m 46 #[.val (.int p0), .val (.long q1), .second, .val (.int p2), .val (.int (((p0.toUInt32 >>> (((2 : Int32) * p2) &&& 31).toUInt32).toInt32) &&& (3 : Int32)))] [(.int ((((q1.toUInt64 >>> (((8 : Int32) * p2) &&& 0x3f).toInt64.toUInt64).toInt64) &&& (255 : Int64)).toInt32))])
        refine step (fun t k => XS.i2c X0.here hx rfl (hb hby d0_46) rfl k) ?_
        show G s₁ (mkF m 47 #[.val (.int p0), .val (.long q1), .second, .val (.int p2), .val (.int (((p0.toUInt32 >>> (((2 : Int32) * p2) &&& 31).toUInt32).toInt32) &&& (3 : Int32)))] [(.int (((((q1.toUInt64 >>> (((8 : Int32) * p2) &&& 0x3f).toInt64.toUInt64).toInt64) &&& (255 : Int64)).toInt32).toUInt32.toUInt16.toUInt32.toInt32))])
        rw [own_i2c (own_l255 ((q1.toUInt64 >>> (((8 : Int32) * p2) &&& 0x3f).toInt64.toUInt64).toInt64))]
        show G s₁ (mkF m 47 #[.val (.int p0), .val (.long q1), .second, .val (.int p2), .val (.int (((p0.toUInt32 >>> (((2 : Int32) * p2) &&& 31).toUInt32).toInt32) &&& (3 : Int32)))] [(.int ((((q1.toUInt64 >>> (((8 : Int32) * p2) &&& 0x3f).toInt64.toUInt64).toInt64) &&& (255 : Int64)).toInt32))])
        exact ret (v := some (.int ((((q1.toUInt64 >>> (((8 : Int32) * p2) &&& 0x3f).toInt64.toUInt64).toInt64) &&& (255 : Int64)).toInt32))) X0 (fun h => by rw [Bd.returns] at h; cases h) (fun fs hr => retN X0 hx (t := .char) Bd.returns (by simp) (hb hby d0_47) (by rw [own_narc (own_l255 ((q1.toUInt64 >>> (((8 : Int32) * p2) &&& 0x3f).toInt64.toUInt64).toInt64))]; exact hr)) e0 ⟨by unfold f_pick; rw [if_neg hc1, if_neg hc2, if_neg hc3], N0, rfl⟩ (by decide) (by decide)
theorem own_latpick {w_COMPACT_STRINGS : Int32} {w_SIOOBE_FORMATTER : Value} (p0 : Int32) (q1 : Int64) (p2 : Int32) : ¬ (f_pick w_COMPACT_STRINGS w_SIOOBE_FORMATTER p0 q1 p2) < 0 ∧ ¬ (255 : Int32) < (f_pick w_COMPACT_STRINGS w_SIOOBE_FORMATTER p0 q1 p2) := by
  unfold f_pick
  repeat' split
  all_goals first | decide | exact own_l255 _
theorem d1_0 : decode method_3_code 0 = .ok (.iload_n 1, 1) := by decide +kernel
theorem d1_1 : decode method_3_code 1 = .ok (.iload_n 2, 1) := by decide +kernel
theorem d1_2 : decode method_3_code 2 = .ok (.if_icmp .ge 5, 3) := by decide +kernel
theorem d1_5 : decode method_3_code 5 = .ok (.iconst 0, 1) := by decide +kernel
theorem d1_6 : decode method_3_code 6 = .ok (.ireturn, 1) := by decide +kernel
theorem d1_7 : decode method_3_code 7 = .ok (.aload_n 0, 1) := by decide +kernel
theorem d1_8 : decode method_3_code 8 = .ok (.iload_n 1, 1) := by decide +kernel
theorem d1_9 : decode method_3_code 9 = .ok (.caload, 1) := by decide +kernel
theorem d1_10 : decode method_3_code 10 = .ok (.bipush 123, 2) := by decide +kernel
theorem d1_12 : decode method_3_code 12 = .ok (.if_icmp .ne 5, 3) := by decide +kernel
theorem d1_15 : decode method_3_code 15 = .ok (.iconst 1, 1) := by decide +kernel
theorem d1_16 : decode method_3_code 16 = .ok (.ireturn, 1) := by decide +kernel
theorem d1_17 : decode method_3_code 17 = .ok (.aload_n 0, 1) := by decide +kernel
theorem d1_18 : decode method_3_code 18 = .ok (.iload_n 1, 1) := by decide +kernel
theorem d1_19 : decode method_3_code 19 = .ok (.caload, 1) := by decide +kernel
theorem d1_20 : decode method_3_code 20 = .ok (.bipush 125, 2) := by decide +kernel
theorem d1_22 : decode method_3_code 22 = .ok (.if_icmp .ne 5, 3) := by decide +kernel
theorem d1_25 : decode method_3_code 25 = .ok (.iconst (-1), 1) := by decide +kernel
theorem d1_26 : decode method_3_code 26 = .ok (.ireturn, 1) := by decide +kernel
theorem d1_27 : decode method_3_code 27 = .ok (.iconst 0, 1) := by decide +kernel
theorem d1_28 : decode method_3_code 28 = .ok (.ireturn, 1) := by decide +kernel
abbrev rr_v0 : Room := { frames := 0, cells := 0, slots := 0, locals := 0 }
abbrev y_1 : MethodName := ⟨cn_0, "v", "([CII)I"⟩
theorem ef_v0 (m : MethodId) (o0 : Addr) (p2 : Int32) : entryFrame m #[(.ref o0), (.int 0), (.int p2)] 3 = mkF m 0 #[.val (.ref o0), .val (.int 0), .val (.int p2)] [] := by first | (simp [entryFrame, mkF, argsToLocals, Value.category]; done) | rfl
def f_v0 (w_COMPACT_STRINGS : Int32) (w_SIOOBE_FORMATTER : Value) (o0 : Addr) (p2 : Int32) (ka : ClassId) (x0 : Int32) (x1 : Int32) (x2 : Int32) (x3 : Int32) (x4 : Int32) (x5 : Int32) : Int32 := (if (0 : Int32) < p2 then (0 : Int32) else (if x0 = (123 : Int32) then (1 : Int32) else (if x0 = (125 : Int32) then (-1 : Int32) else (0 : Int32))))
def Q_v0 (Z : State) (w_COMPACT_STRINGS : Int32) (w_SIOOBE_FORMATTER : Value) (o0 : Addr) (p2 : Int32) (ka : ClassId) (x0 : Int32) (x1 : Int32) (x2 : Int32) (x3 : Int32) (x4 : Int32) (x5 : Int32) (h0 : Heap) (n0 : Nat) (v : Option Value) (h : Heap) (L : List Loc) : Prop := v = some (.int (f_v0 w_COMPACT_STRINGS w_SIOOBE_FORMATTER o0 p2 ka x0 x1 x2 x3 x4 x5)) ∧ Fr n0 L ∧ h = h0
set_option maxRecDepth 65536 in
set_option maxHeartbeats 40000000 in
theorem rm_v0 (l : Launch) (Z : State) (a0 : Array Value) (hw : ∀ d ∈ tables_1, d.before a0 Z = true) (ws : List Jvm.Cond) (w_COMPACT_STRINGS : Int32) (w_SIOOBE_FORMATTER : Value) (o0 : Addr) (p2 : Int32) (ka : ClassId) (x0 : Int32) (x1 : Int32) (x2 : Int32) (x3 : Int32) (x4 : Int32) (x5 : Int32) (h0 : Heap) (n0 : Nat) (Z0 : n0 ≤ h0.size) (ST : own_St Z w_COMPACT_STRINGS w_SIOOBE_FORMATTER) (O0 : Old Z n0 h0) (Va : Arv Z h0 o0 ka .char (6 : Int32) [(.int x0), (.int x1), (.int x2), (.int x3), (.int x4), (.int x5)] (.int 0)) :
    MetFree l y_1 (head1 (Jvm.Cond.code y_1 method_3_code 3 (some .int) :: ws) rr_v0) (fun a U => a = #[(.ref o0), (.int 0), (.int p2)] ∧ Z.Warmed39 U.vm ∧ U.heap = h0) (fun _ _ _ _ _ => True) (fun _ U o U' => ∃ v L, o = .returned v ∧ Q_v0 Z w_COMPACT_STRINGS w_SIOOBE_FORMATTER o0 p2 ka x0 x1 x2 x3 x4 x5 h0 n0 v U'.heap L ∧ FrameEnd U o U' L rr_v0.cells rr_v0.slots) := by
  refine MetFree.of_bodySF (plainFor_of_name pn_0) hisR ?_
  intro p e s m args below meth c s₁ Bd hml0 hP hK
  obtain ⟨rfl, hZ, hh⟩ := hP
  have hx := Bd.exec
  have hby := Bd.bytes
  have hml : c.maxLocals = 3 := hml0
  have hown : s.vm.findClass cn_0 = some m.cls := findClass_of_methodNamed Bd.named
  have hnm := (name_of_methodNamed Bd.named Bd.method).1
  have X0 : Stand p l e rr_v0 s m #[(.ref o0), (.int 0), (.int p2)] below meth c s₁ [] 0 0 := Stand.of_body Bd
  have e0 : s₁.heap = h0 := by rw [← hh, Bd.state]; rfl
  have N0 := Fr.nil n0
  obtain ⟨G, step, ret, fin⟩ := own_open (p := p) (l := l) (e := e) (R := rr_v0) (s := s) (m := m) (args := #[(.ref o0), (.int 0), (.int p2)]) (below := below) (meth := meth) (c := c) (rr_v0.cells) (rr_v0.slots) (Q_v0 Z w_COMPACT_STRINGS w_SIOOBE_FORMATTER o0 p2 ka x0 x1 x2 x3 x4 x5 h0 n0) Bd.notSynchronized
  refine fin (g := entryFrame m #[(.ref o0), (.int 0), (.int p2)] 3) ?_
  rw [ef_v0 m o0 p2]
  show G s₁ (mkF m 0 #[.val (.ref o0), .val (.int 0), .val (.int p2)] [])
  refine step (fun t k => XS.iloadN X0.here hx rfl (hb hby d1_0) rfl k) ?_
  show G s₁ (mkF m 1 #[.val (.ref o0), .val (.int 0), .val (.int p2)] [(.int 0)])
  refine step (fun t k => XS.iloadN X0.here hx rfl (hb hby d1_1) rfl k) ?_
  show G s₁ (mkF m 2 #[.val (.ref o0), .val (.int 0), .val (.int p2)] [(.int p2), (.int 0)])
  by_cases hc1 : (0 : Int32) < p2
  · skip
    refine step (fun t k => XS.icmpNo X0.here hx rfl (hb hby d1_2) rfl (tlt hc1).2.1 k) ?_
    show G s₁ (mkF m 5 #[.val (.ref o0), .val (.int 0), .val (.int p2)] [])
    refine step (fun t k => XS.iconst X0.here hx rfl (hb hby d1_5) k) ?_
    show G s₁ (mkF m 6 #[.val (.ref o0), .val (.int 0), .val (.int p2)] [(.int 0)])
    exact ret (v := some (.int 0)) X0 (fun h => by rw [Bd.returns] at h; cases h) (fun fs hr => retI X0 hx Bd.returns (hb hby d1_6) hr) e0 ⟨by unfold f_v0; rw [if_pos hc1], N0, rfl⟩ (by decide) (by decide)
  · skip
    refine step (fun t k => XS.icmpYes X0.here hx rfl (pc0 := 2) (pc' := 7) rfl (hb hby d1_2) rfl (flt hc1).2.1 (by decide) (by decide) k) ?_
    show G s₁ (mkF m 7 #[.val (.ref o0), .val (.int 0), .val (.int p2)] [])
    refine step (fun t k => XS.aloadN X0.here hx rfl (hb hby d1_7) rfl rfl k) ?_
    show G s₁ (mkF m 8 #[.val (.ref o0), .val (.int 0), .val (.int p2)] [(.ref o0)])
    refine step (fun t k => XS.iloadN X0.here hx rfl (hb hby d1_8) rfl k) ?_
    show G s₁ (mkF m 9 #[.val (.ref o0), .val (.int 0), .val (.int p2)] [(.int 0), (.ref o0)])
    have q2 := own_ldC X0 hx hZ e0 Va (j := (0 : Int32)) (v := (.int x0)) (by decide) (own_at (i := 0) rfl rfl) (g := (mkF m 9 #[.val (.ref o0), .val (.int 0), .val (.int p2)] [(.int 0), (.ref o0)])) rfl rfl (hb hby d1_9)
    refine step q2 ?_
    show G s₁ (mkF m 10 #[.val (.ref o0), .val (.int 0), .val (.int p2)] [(.int x0)])
    refine step (fun t k => XS.bipush X0.here hx rfl (hb hby d1_10) k) ?_
    show G s₁ (mkF m 12 #[.val (.ref o0), .val (.int 0), .val (.int p2)] [(.int 123), (.int x0)])
    by_cases hc3 : x0 = (123 : Int32)
    · skip
      refine step (fun t k => XS.icmpNo X0.here hx rfl (hb hby d1_12) rfl (teq hc3).2 k) ?_
      show G s₁ (mkF m 15 #[.val (.ref o0), .val (.int 0), .val (.int p2)] [])
      refine step (fun t k => XS.iconst X0.here hx rfl (hb hby d1_15) k) ?_
      show G s₁ (mkF m 16 #[.val (.ref o0), .val (.int 0), .val (.int p2)] [(.int 1)])
      exact ret (v := some (.int 1)) X0 (fun h => by rw [Bd.returns] at h; cases h) (fun fs hr => retI X0 hx Bd.returns (hb hby d1_16) hr) e0 ⟨by unfold f_v0; rw [if_neg hc1, if_pos hc3], N0, rfl⟩ (by decide) (by decide)
    · skip
      refine step (fun t k => XS.icmpYes X0.here hx rfl (pc0 := 12) (pc' := 17) rfl (hb hby d1_12) rfl (feq hc3).2 (by decide) (by decide) k) ?_
      show G s₁ (mkF m 17 #[.val (.ref o0), .val (.int 0), .val (.int p2)] [])
      refine step (fun t k => XS.aloadN X0.here hx rfl (hb hby d1_17) rfl rfl k) ?_
      show G s₁ (mkF m 18 #[.val (.ref o0), .val (.int 0), .val (.int p2)] [(.ref o0)])
      refine step (fun t k => XS.iloadN X0.here hx rfl (hb hby d1_18) rfl k) ?_
      show G s₁ (mkF m 19 #[.val (.ref o0), .val (.int 0), .val (.int p2)] [(.int 0), (.ref o0)])
      have q4 := own_ldC X0 hx hZ e0 Va (j := (0 : Int32)) (v := (.int x0)) (by decide) (own_at (i := 0) rfl rfl) (g := (mkF m 19 #[.val (.ref o0), .val (.int 0), .val (.int p2)] [(.int 0), (.ref o0)])) rfl rfl (hb hby d1_19)
      refine step q4 ?_
      show G s₁ (mkF m 20 #[.val (.ref o0), .val (.int 0), .val (.int p2)] [(.int x0)])
      refine step (fun t k => XS.bipush X0.here hx rfl (hb hby d1_20) k) ?_
      show G s₁ (mkF m 22 #[.val (.ref o0), .val (.int 0), .val (.int p2)] [(.int 125), (.int x0)])
      by_cases hc5 : x0 = (125 : Int32)
      · skip
        refine step (fun t k => XS.icmpNo X0.here hx rfl (hb hby d1_22) rfl (teq hc5).2 k) ?_
        show G s₁ (mkF m 25 #[.val (.ref o0), .val (.int 0), .val (.int p2)] [])
        refine step (fun t k => XS.iconst X0.here hx rfl (hb hby d1_25) k) ?_
        show G s₁ (mkF m 26 #[.val (.ref o0), .val (.int 0), .val (.int p2)] [(.int (-1))])
        exact ret (v := some (.int (-1))) X0 (fun h => by rw [Bd.returns] at h; cases h) (fun fs hr => retI X0 hx Bd.returns (hb hby d1_26) hr) e0 ⟨by unfold f_v0; rw [if_neg hc1, if_neg hc3, if_pos hc5], N0, rfl⟩ (by decide) (by decide)
      · skip
        refine step (fun t k => XS.icmpYes X0.here hx rfl (pc0 := 22) (pc' := 27) rfl (hb hby d1_22) rfl (feq hc5).2 (by decide) (by decide) k) ?_
        show G s₁ (mkF m 27 #[.val (.ref o0), .val (.int 0), .val (.int p2)] [])
        refine step (fun t k => XS.iconst X0.here hx rfl (hb hby d1_27) k) ?_
        show G s₁ (mkF m 28 #[.val (.ref o0), .val (.int 0), .val (.int p2)] [(.int 0)])
        exact ret (v := some (.int 0)) X0 (fun h => by rw [Bd.returns] at h; cases h) (fun fs hr => retI X0 hx Bd.returns (hb hby d1_28) hr) e0 ⟨by unfold f_v0; rw [if_neg hc1, if_neg hc3, if_neg hc5], N0, rfl⟩ (by decide) (by decide)
theorem d2_0 : decode method_4_code 0 = .ok (.iload_n 1, 1) := by decide +kernel
theorem d2_1 : decode method_4_code 1 = .ok (.iload_n 2, 1) := by decide +kernel
theorem d2_2 : decode method_4_code 2 = .ok (.if_icmp .lt 25, 3) := by decide +kernel
theorem d2_27 : decode method_4_code 27 = .ok (.iconst 0, 1) := by decide +kernel
theorem d2_28 : decode method_4_code 28 = .ok (.ireturn, 1) := by decide +kernel
theorem d2_5 : decode method_4_code 5 = .ok (.iload_n 1, 1) := by decide +kernel
theorem d2_6 : decode method_4_code 6 = .ok (.iload_n 3, 1) := by decide +kernel
theorem d2_7 : decode method_4_code 7 = .ok (.if_icmp .ge 20, 3) := by decide +kernel
theorem d2_10 : decode method_4_code 10 = .ok (.aload_n 0, 1) := by decide +kernel
theorem d2_11 : decode method_4_code 11 = .ok (.iload_n 1, 1) := by decide +kernel
theorem d2_12 : decode method_4_code 12 = .ok (.caload, 1) := by decide +kernel
theorem d2_13 : decode method_4_code 13 = .ok (.bipush 125, 2) := by decide +kernel
theorem d2_15 : decode method_4_code 15 = .ok (.if_icmp .ne 12, 3) := by decide +kernel
theorem d2_18 : decode method_4_code 18 = .ok (.iload 4, 2) := by decide +kernel
theorem d2_20 : decode method_4_code 20 = .ok (.ifCond .ne 7, 3) := by decide +kernel
theorem d2_23 : decode method_4_code 23 = .ok (.iconst 1, 1) := by decide +kernel
theorem d2_24 : decode method_4_code 24 = .ok (.goto 4, 3) := by decide +kernel
abbrev rr_h0 : Room := { frames := 0, cells := 0, slots := 0, locals := 0 }
abbrev y_2 : MethodName := ⟨cn_0, "hit", "([CIIII)Z"⟩
theorem ef_h0 (m : MethodId) (o0 : Addr) (p2 : Int32) (p3 : Int32) (p4 : Int32) : entryFrame m #[(.ref o0), (.int 0), (.int p2), (.int p3), (.int p4)] 5 = mkF m 0 #[.val (.ref o0), .val (.int 0), .val (.int p2), .val (.int p3), .val (.int p4)] [] := by first | (simp [entryFrame, mkF, argsToLocals, Value.category]; done) | rfl
def f_h0 (w_COMPACT_STRINGS : Int32) (w_SIOOBE_FORMATTER : Value) (o0 : Addr) (p2 : Int32) (p3 : Int32) (p4 : Int32) (ka : ClassId) (x0 : Int32) (x1 : Int32) (x2 : Int32) (x3 : Int32) (x4 : Int32) (x5 : Int32) : Int32 := (if (0 : Int32) < p2 then (0 : Int32) else (if (0 : Int32) < p3 then (if x0 = (125 : Int32) then (if p4 = (0 : Int32) then (1 : Int32) else (0 : Int32)) else (0 : Int32)) else (0 : Int32)))
def Q_h0 (Z : State) (w_COMPACT_STRINGS : Int32) (w_SIOOBE_FORMATTER : Value) (o0 : Addr) (p2 : Int32) (p3 : Int32) (p4 : Int32) (ka : ClassId) (x0 : Int32) (x1 : Int32) (x2 : Int32) (x3 : Int32) (x4 : Int32) (x5 : Int32) (h0 : Heap) (n0 : Nat) (v : Option Value) (h : Heap) (L : List Loc) : Prop := v = some (.int (f_h0 w_COMPACT_STRINGS w_SIOOBE_FORMATTER o0 p2 p3 p4 ka x0 x1 x2 x3 x4 x5)) ∧ Fr n0 L ∧ h = h0
set_option maxRecDepth 65536 in
set_option maxHeartbeats 40000000 in
theorem rm_h0 (l : Launch) (Z : State) (a0 : Array Value) (hw : ∀ d ∈ tables_1, d.before a0 Z = true) (ws : List Jvm.Cond) (w_COMPACT_STRINGS : Int32) (w_SIOOBE_FORMATTER : Value) (o0 : Addr) (p2 : Int32) (p3 : Int32) (p4 : Int32) (ka : ClassId) (x0 : Int32) (x1 : Int32) (x2 : Int32) (x3 : Int32) (x4 : Int32) (x5 : Int32) (h0 : Heap) (n0 : Nat) (Z0 : n0 ≤ h0.size) (ST : own_St Z w_COMPACT_STRINGS w_SIOOBE_FORMATTER) (O0 : Old Z n0 h0) (Va : Arv Z h0 o0 ka .char (6 : Int32) [(.int x0), (.int x1), (.int x2), (.int x3), (.int x4), (.int x5)] (.int 0)) :
    MetFree l y_2 (head1 (Jvm.Cond.code y_2 method_4_code 5 (some .boolean) :: ws) rr_h0) (fun a U => a = #[(.ref o0), (.int 0), (.int p2), (.int p3), (.int p4)] ∧ Z.Warmed39 U.vm ∧ U.heap = h0) (fun _ _ _ _ _ => True) (fun _ U o U' => ∃ v L, o = .returned v ∧ Q_h0 Z w_COMPACT_STRINGS w_SIOOBE_FORMATTER o0 p2 p3 p4 ka x0 x1 x2 x3 x4 x5 h0 n0 v U'.heap L ∧ FrameEnd U o U' L rr_h0.cells rr_h0.slots) := by
  refine MetFree.of_bodySF (plainFor_of_name pn_0) hisR ?_
  intro p e s m args below meth c s₁ Bd hml0 hP hK
  obtain ⟨rfl, hZ, hh⟩ := hP
  have hx := Bd.exec
  have hby := Bd.bytes
  have hml : c.maxLocals = 5 := hml0
  have hown : s.vm.findClass cn_0 = some m.cls := findClass_of_methodNamed Bd.named
  have hnm := (name_of_methodNamed Bd.named Bd.method).1
  have X0 : Stand p l e rr_h0 s m #[(.ref o0), (.int 0), (.int p2), (.int p3), (.int p4)] below meth c s₁ [] 0 0 := Stand.of_body Bd
  have e0 : s₁.heap = h0 := by rw [← hh, Bd.state]; rfl
  have N0 := Fr.nil n0
  obtain ⟨G, step, ret, fin⟩ := own_open (p := p) (l := l) (e := e) (R := rr_h0) (s := s) (m := m) (args := #[(.ref o0), (.int 0), (.int p2), (.int p3), (.int p4)]) (below := below) (meth := meth) (c := c) (rr_h0.cells) (rr_h0.slots) (Q_h0 Z w_COMPACT_STRINGS w_SIOOBE_FORMATTER o0 p2 p3 p4 ka x0 x1 x2 x3 x4 x5 h0 n0) Bd.notSynchronized
  refine fin (g := entryFrame m #[(.ref o0), (.int 0), (.int p2), (.int p3), (.int p4)] 5) ?_
  rw [ef_h0 m o0 p2 p3 p4]
  show G s₁ (mkF m 0 #[.val (.ref o0), .val (.int 0), .val (.int p2), .val (.int p3), .val (.int p4)] [])
  refine step (fun t k => XS.iloadN X0.here hx rfl (hb hby d2_0) rfl k) ?_
  show G s₁ (mkF m 1 #[.val (.ref o0), .val (.int 0), .val (.int p2), .val (.int p3), .val (.int p4)] [(.int 0)])
  refine step (fun t k => XS.iloadN X0.here hx rfl (hb hby d2_1) rfl k) ?_
  show G s₁ (mkF m 2 #[.val (.ref o0), .val (.int 0), .val (.int p2), .val (.int p3), .val (.int p4)] [(.int p2), (.int 0)])
  by_cases hc1 : (0 : Int32) < p2
  · skip
    refine step (fun t k => XS.icmpYes X0.here hx rfl (pc0 := 2) (pc' := 27) rfl (hb hby d2_2) rfl (tlt hc1).1 (by decide) (by decide) k) ?_
    show G s₁ (mkF m 27 #[.val (.ref o0), .val (.int 0), .val (.int p2), .val (.int p3), .val (.int p4)] [])
    refine step (fun t k => XS.iconst X0.here hx rfl (hb hby d2_27) k) ?_
    show G s₁ (mkF m 28 #[.val (.ref o0), .val (.int 0), .val (.int p2), .val (.int p3), .val (.int p4)] [(.int 0)])
    exact ret (v := some (.int 0)) X0 (fun h => by rw [Bd.returns] at h; cases h) (fun fs hr => retN X0 hx (t := .boolean) Bd.returns (by simp) (hb hby d2_28) hr) e0 ⟨by unfold f_h0; rw [if_pos hc1], N0, rfl⟩ (by decide) (by decide)
  · skip
    refine step (fun t k => XS.icmpNo X0.here hx rfl (hb hby d2_2) rfl (flt hc1).1 k) ?_
    show G s₁ (mkF m 5 #[.val (.ref o0), .val (.int 0), .val (.int p2), .val (.int p3), .val (.int p4)] [])
    refine step (fun t k => XS.iloadN X0.here hx rfl (hb hby d2_5) rfl k) ?_
    show G s₁ (mkF m 6 #[.val (.ref o0), .val (.int 0), .val (.int p2), .val (.int p3), .val (.int p4)] [(.int 0)])
    refine step (fun t k => XS.iloadN X0.here hx rfl (hb hby d2_6) rfl k) ?_
    show G s₁ (mkF m 7 #[.val (.ref o0), .val (.int 0), .val (.int p2), .val (.int p3), .val (.int p4)] [(.int p3), (.int 0)])
    by_cases hc2 : (0 : Int32) < p3
    · skip
      refine step (fun t k => XS.icmpNo X0.here hx rfl (hb hby d2_7) rfl (tlt hc2).2.1 k) ?_
      show G s₁ (mkF m 10 #[.val (.ref o0), .val (.int 0), .val (.int p2), .val (.int p3), .val (.int p4)] [])
      refine step (fun t k => XS.aloadN X0.here hx rfl (hb hby d2_10) rfl rfl k) ?_
      show G s₁ (mkF m 11 #[.val (.ref o0), .val (.int 0), .val (.int p2), .val (.int p3), .val (.int p4)] [(.ref o0)])
      refine step (fun t k => XS.iloadN X0.here hx rfl (hb hby d2_11) rfl k) ?_
      show G s₁ (mkF m 12 #[.val (.ref o0), .val (.int 0), .val (.int p2), .val (.int p3), .val (.int p4)] [(.int 0), (.ref o0)])
      have q3 := own_ldC X0 hx hZ e0 Va (j := (0 : Int32)) (v := (.int x0)) (by decide) (own_at (i := 0) rfl rfl) (g := (mkF m 12 #[.val (.ref o0), .val (.int 0), .val (.int p2), .val (.int p3), .val (.int p4)] [(.int 0), (.ref o0)])) rfl rfl (hb hby d2_12)
      refine step q3 ?_
      show G s₁ (mkF m 13 #[.val (.ref o0), .val (.int 0), .val (.int p2), .val (.int p3), .val (.int p4)] [(.int x0)])
      refine step (fun t k => XS.bipush X0.here hx rfl (hb hby d2_13) k) ?_
      show G s₁ (mkF m 15 #[.val (.ref o0), .val (.int 0), .val (.int p2), .val (.int p3), .val (.int p4)] [(.int 125), (.int x0)])
      by_cases hc4 : x0 = (125 : Int32)
      · skip
        refine step (fun t k => XS.icmpNo X0.here hx rfl (hb hby d2_15) rfl (teq hc4).2 k) ?_
        show G s₁ (mkF m 18 #[.val (.ref o0), .val (.int 0), .val (.int p2), .val (.int p3), .val (.int p4)] [])
        refine step (fun t k => XS.iload X0.here hx rfl (hb hby d2_18) rfl k) ?_
        show G s₁ (mkF m 20 #[.val (.ref o0), .val (.int 0), .val (.int p2), .val (.int p3), .val (.int p4)] [(.int p4)])
        by_cases hc5 : p4 = (0 : Int32)
        · skip
          refine step (fun t k => XS.ifNo X0.here hx rfl (hb hby d2_20) rfl ((if0 _ _).trans (teq hc5).2) k) ?_
          show G s₁ (mkF m 23 #[.val (.ref o0), .val (.int 0), .val (.int p2), .val (.int p3), .val (.int p4)] [])
          refine step (fun t k => XS.iconst X0.here hx rfl (hb hby d2_23) k) ?_
          show G s₁ (mkF m 24 #[.val (.ref o0), .val (.int 0), .val (.int p2), .val (.int p3), .val (.int p4)] [(.int 1)])
          refine step (fun t k => XS.goto X0.here hx rfl (pc0 := 24) (pc' := 28) rfl (hb hby d2_24) (by decide) (by decide) k) ?_
          show G s₁ (mkF m 28 #[.val (.ref o0), .val (.int 0), .val (.int p2), .val (.int p3), .val (.int p4)] [(.int 1)])
          exact ret (v := some (.int 1)) X0 (fun h => by rw [Bd.returns] at h; cases h) (fun fs hr => retN X0 hx (t := .boolean) Bd.returns (by simp) (hb hby d2_28) hr) e0 ⟨by unfold f_h0; rw [if_neg hc1, if_pos hc2, if_pos hc4, if_pos hc5], N0, rfl⟩ (by decide) (by decide)
        · skip
          refine step (fun t k => XS.ifYes X0.here hx rfl (pc0 := 20) (pc' := 27) rfl (hb hby d2_20) rfl ((if0 _ _).trans (feq hc5).2) (by decide) (by decide) k) ?_
          show G s₁ (mkF m 27 #[.val (.ref o0), .val (.int 0), .val (.int p2), .val (.int p3), .val (.int p4)] [])
          refine step (fun t k => XS.iconst X0.here hx rfl (hb hby d2_27) k) ?_
          show G s₁ (mkF m 28 #[.val (.ref o0), .val (.int 0), .val (.int p2), .val (.int p3), .val (.int p4)] [(.int 0)])
          exact ret (v := some (.int 0)) X0 (fun h => by rw [Bd.returns] at h; cases h) (fun fs hr => retN X0 hx (t := .boolean) Bd.returns (by simp) (hb hby d2_28) hr) e0 ⟨by unfold f_h0; rw [if_neg hc1, if_pos hc2, if_pos hc4, if_neg hc5], N0, rfl⟩ (by decide) (by decide)
      · skip
        refine step (fun t k => XS.icmpYes X0.here hx rfl (pc0 := 15) (pc' := 27) rfl (hb hby d2_15) rfl (feq hc4).2 (by decide) (by decide) k) ?_
        show G s₁ (mkF m 27 #[.val (.ref o0), .val (.int 0), .val (.int p2), .val (.int p3), .val (.int p4)] [])
        refine step (fun t k => XS.iconst X0.here hx rfl (hb hby d2_27) k) ?_
        show G s₁ (mkF m 28 #[.val (.ref o0), .val (.int 0), .val (.int p2), .val (.int p3), .val (.int p4)] [(.int 0)])
        exact ret (v := some (.int 0)) X0 (fun h => by rw [Bd.returns] at h; cases h) (fun fs hr => retN X0 hx (t := .boolean) Bd.returns (by simp) (hb hby d2_28) hr) e0 ⟨by unfold f_h0; rw [if_neg hc1, if_pos hc2, if_neg hc4], N0, rfl⟩ (by decide) (by decide)
    · skip
      refine step (fun t k => XS.icmpYes X0.here hx rfl (pc0 := 7) (pc' := 27) rfl (hb hby d2_7) rfl (flt hc2).2.1 (by decide) (by decide) k) ?_
      show G s₁ (mkF m 27 #[.val (.ref o0), .val (.int 0), .val (.int p2), .val (.int p3), .val (.int p4)] [])
      refine step (fun t k => XS.iconst X0.here hx rfl (hb hby d2_27) k) ?_
      show G s₁ (mkF m 28 #[.val (.ref o0), .val (.int 0), .val (.int p2), .val (.int p3), .val (.int p4)] [(.int 0)])
      exact ret (v := some (.int 0)) X0 (fun h => by rw [Bd.returns] at h; cases h) (fun fs hr => retN X0 hx (t := .boolean) Bd.returns (by simp) (hb hby d2_28) hr) e0 ⟨by unfold f_h0; rw [if_neg hc1, if_neg hc2], N0, rfl⟩ (by decide) (by decide)
abbrev rr_v1 : Room := { frames := 0, cells := 0, slots := 0, locals := 0 }
theorem ef_v1 (m : MethodId) (o0 : Addr) (p2 : Int32) : entryFrame m #[(.ref o0), (.int 1), (.int p2)] 3 = mkF m 0 #[.val (.ref o0), .val (.int 1), .val (.int p2)] [] := by first | (simp [entryFrame, mkF, argsToLocals, Value.category]; done) | rfl
def f_v1 (w_COMPACT_STRINGS : Int32) (w_SIOOBE_FORMATTER : Value) (o0 : Addr) (p2 : Int32) (ka : ClassId) (x0 : Int32) (x1 : Int32) (x2 : Int32) (x3 : Int32) (x4 : Int32) (x5 : Int32) : Int32 := (if (1 : Int32) < p2 then (0 : Int32) else (if x1 = (123 : Int32) then (1 : Int32) else (if x1 = (125 : Int32) then (-1 : Int32) else (0 : Int32))))
def Q_v1 (Z : State) (w_COMPACT_STRINGS : Int32) (w_SIOOBE_FORMATTER : Value) (o0 : Addr) (p2 : Int32) (ka : ClassId) (x0 : Int32) (x1 : Int32) (x2 : Int32) (x3 : Int32) (x4 : Int32) (x5 : Int32) (h0 : Heap) (n0 : Nat) (v : Option Value) (h : Heap) (L : List Loc) : Prop := v = some (.int (f_v1 w_COMPACT_STRINGS w_SIOOBE_FORMATTER o0 p2 ka x0 x1 x2 x3 x4 x5)) ∧ Fr n0 L ∧ h = h0
set_option maxRecDepth 65536 in
set_option maxHeartbeats 40000000 in
theorem rm_v1 (l : Launch) (Z : State) (a0 : Array Value) (hw : ∀ d ∈ tables_1, d.before a0 Z = true) (ws : List Jvm.Cond) (w_COMPACT_STRINGS : Int32) (w_SIOOBE_FORMATTER : Value) (o0 : Addr) (p2 : Int32) (ka : ClassId) (x0 : Int32) (x1 : Int32) (x2 : Int32) (x3 : Int32) (x4 : Int32) (x5 : Int32) (h0 : Heap) (n0 : Nat) (Z0 : n0 ≤ h0.size) (ST : own_St Z w_COMPACT_STRINGS w_SIOOBE_FORMATTER) (O0 : Old Z n0 h0) (Va : Arv Z h0 o0 ka .char (6 : Int32) [(.int x0), (.int x1), (.int x2), (.int x3), (.int x4), (.int x5)] (.int 0)) :
    MetFree l y_1 (head1 (Jvm.Cond.code y_1 method_3_code 3 (some .int) :: ws) rr_v1) (fun a U => a = #[(.ref o0), (.int 1), (.int p2)] ∧ Z.Warmed39 U.vm ∧ U.heap = h0) (fun _ _ _ _ _ => True) (fun _ U o U' => ∃ v L, o = .returned v ∧ Q_v1 Z w_COMPACT_STRINGS w_SIOOBE_FORMATTER o0 p2 ka x0 x1 x2 x3 x4 x5 h0 n0 v U'.heap L ∧ FrameEnd U o U' L rr_v1.cells rr_v1.slots) := by
  refine MetFree.of_bodySF (plainFor_of_name pn_0) hisR ?_
  intro p e s m args below meth c s₁ Bd hml0 hP hK
  obtain ⟨rfl, hZ, hh⟩ := hP
  have hx := Bd.exec
  have hby := Bd.bytes
  have hml : c.maxLocals = 3 := hml0
  have hown : s.vm.findClass cn_0 = some m.cls := findClass_of_methodNamed Bd.named
  have hnm := (name_of_methodNamed Bd.named Bd.method).1
  have X0 : Stand p l e rr_v1 s m #[(.ref o0), (.int 1), (.int p2)] below meth c s₁ [] 0 0 := Stand.of_body Bd
  have e0 : s₁.heap = h0 := by rw [← hh, Bd.state]; rfl
  have N0 := Fr.nil n0
  obtain ⟨G, step, ret, fin⟩ := own_open (p := p) (l := l) (e := e) (R := rr_v1) (s := s) (m := m) (args := #[(.ref o0), (.int 1), (.int p2)]) (below := below) (meth := meth) (c := c) (rr_v1.cells) (rr_v1.slots) (Q_v1 Z w_COMPACT_STRINGS w_SIOOBE_FORMATTER o0 p2 ka x0 x1 x2 x3 x4 x5 h0 n0) Bd.notSynchronized
  refine fin (g := entryFrame m #[(.ref o0), (.int 1), (.int p2)] 3) ?_
  rw [ef_v1 m o0 p2]
  show G s₁ (mkF m 0 #[.val (.ref o0), .val (.int 1), .val (.int p2)] [])
  refine step (fun t k => XS.iloadN X0.here hx rfl (hb hby d1_0) rfl k) ?_
  show G s₁ (mkF m 1 #[.val (.ref o0), .val (.int 1), .val (.int p2)] [(.int 1)])
  refine step (fun t k => XS.iloadN X0.here hx rfl (hb hby d1_1) rfl k) ?_
  show G s₁ (mkF m 2 #[.val (.ref o0), .val (.int 1), .val (.int p2)] [(.int p2), (.int 1)])
  by_cases hc1 : (1 : Int32) < p2
  · skip
    refine step (fun t k => XS.icmpNo X0.here hx rfl (hb hby d1_2) rfl (tlt hc1).2.1 k) ?_
    show G s₁ (mkF m 5 #[.val (.ref o0), .val (.int 1), .val (.int p2)] [])
    refine step (fun t k => XS.iconst X0.here hx rfl (hb hby d1_5) k) ?_
    show G s₁ (mkF m 6 #[.val (.ref o0), .val (.int 1), .val (.int p2)] [(.int 0)])
    exact ret (v := some (.int 0)) X0 (fun h => by rw [Bd.returns] at h; cases h) (fun fs hr => retI X0 hx Bd.returns (hb hby d1_6) hr) e0 ⟨by unfold f_v1; rw [if_pos hc1], N0, rfl⟩ (by decide) (by decide)
  · skip
    refine step (fun t k => XS.icmpYes X0.here hx rfl (pc0 := 2) (pc' := 7) rfl (hb hby d1_2) rfl (flt hc1).2.1 (by decide) (by decide) k) ?_
    show G s₁ (mkF m 7 #[.val (.ref o0), .val (.int 1), .val (.int p2)] [])
    refine step (fun t k => XS.aloadN X0.here hx rfl (hb hby d1_7) rfl rfl k) ?_
    show G s₁ (mkF m 8 #[.val (.ref o0), .val (.int 1), .val (.int p2)] [(.ref o0)])
    refine step (fun t k => XS.iloadN X0.here hx rfl (hb hby d1_8) rfl k) ?_
    show G s₁ (mkF m 9 #[.val (.ref o0), .val (.int 1), .val (.int p2)] [(.int 1), (.ref o0)])
    have q2 := own_ldC X0 hx hZ e0 Va (j := (1 : Int32)) (v := (.int x1)) (by decide) (own_at (i := 1) rfl rfl) (g := (mkF m 9 #[.val (.ref o0), .val (.int 1), .val (.int p2)] [(.int 1), (.ref o0)])) rfl rfl (hb hby d1_9)
    refine step q2 ?_
    show G s₁ (mkF m 10 #[.val (.ref o0), .val (.int 1), .val (.int p2)] [(.int x1)])
    refine step (fun t k => XS.bipush X0.here hx rfl (hb hby d1_10) k) ?_
    show G s₁ (mkF m 12 #[.val (.ref o0), .val (.int 1), .val (.int p2)] [(.int 123), (.int x1)])
    by_cases hc3 : x1 = (123 : Int32)
    · skip
      refine step (fun t k => XS.icmpNo X0.here hx rfl (hb hby d1_12) rfl (teq hc3).2 k) ?_
      show G s₁ (mkF m 15 #[.val (.ref o0), .val (.int 1), .val (.int p2)] [])
      refine step (fun t k => XS.iconst X0.here hx rfl (hb hby d1_15) k) ?_
      show G s₁ (mkF m 16 #[.val (.ref o0), .val (.int 1), .val (.int p2)] [(.int 1)])
      exact ret (v := some (.int 1)) X0 (fun h => by rw [Bd.returns] at h; cases h) (fun fs hr => retI X0 hx Bd.returns (hb hby d1_16) hr) e0 ⟨by unfold f_v1; rw [if_neg hc1, if_pos hc3], N0, rfl⟩ (by decide) (by decide)
    · skip
      refine step (fun t k => XS.icmpYes X0.here hx rfl (pc0 := 12) (pc' := 17) rfl (hb hby d1_12) rfl (feq hc3).2 (by decide) (by decide) k) ?_
      show G s₁ (mkF m 17 #[.val (.ref o0), .val (.int 1), .val (.int p2)] [])
      refine step (fun t k => XS.aloadN X0.here hx rfl (hb hby d1_17) rfl rfl k) ?_
      show G s₁ (mkF m 18 #[.val (.ref o0), .val (.int 1), .val (.int p2)] [(.ref o0)])
      refine step (fun t k => XS.iloadN X0.here hx rfl (hb hby d1_18) rfl k) ?_
      show G s₁ (mkF m 19 #[.val (.ref o0), .val (.int 1), .val (.int p2)] [(.int 1), (.ref o0)])
      have q4 := own_ldC X0 hx hZ e0 Va (j := (1 : Int32)) (v := (.int x1)) (by decide) (own_at (i := 1) rfl rfl) (g := (mkF m 19 #[.val (.ref o0), .val (.int 1), .val (.int p2)] [(.int 1), (.ref o0)])) rfl rfl (hb hby d1_19)
      refine step q4 ?_
      show G s₁ (mkF m 20 #[.val (.ref o0), .val (.int 1), .val (.int p2)] [(.int x1)])
      refine step (fun t k => XS.bipush X0.here hx rfl (hb hby d1_20) k) ?_
      show G s₁ (mkF m 22 #[.val (.ref o0), .val (.int 1), .val (.int p2)] [(.int 125), (.int x1)])
      by_cases hc5 : x1 = (125 : Int32)
      · skip
        refine step (fun t k => XS.icmpNo X0.here hx rfl (hb hby d1_22) rfl (teq hc5).2 k) ?_
        show G s₁ (mkF m 25 #[.val (.ref o0), .val (.int 1), .val (.int p2)] [])
        refine step (fun t k => XS.iconst X0.here hx rfl (hb hby d1_25) k) ?_
        show G s₁ (mkF m 26 #[.val (.ref o0), .val (.int 1), .val (.int p2)] [(.int (-1))])
        exact ret (v := some (.int (-1))) X0 (fun h => by rw [Bd.returns] at h; cases h) (fun fs hr => retI X0 hx Bd.returns (hb hby d1_26) hr) e0 ⟨by unfold f_v1; rw [if_neg hc1, if_neg hc3, if_pos hc5], N0, rfl⟩ (by decide) (by decide)
      · skip
        refine step (fun t k => XS.icmpYes X0.here hx rfl (pc0 := 22) (pc' := 27) rfl (hb hby d1_22) rfl (feq hc5).2 (by decide) (by decide) k) ?_
        show G s₁ (mkF m 27 #[.val (.ref o0), .val (.int 1), .val (.int p2)] [])
        refine step (fun t k => XS.iconst X0.here hx rfl (hb hby d1_27) k) ?_
        show G s₁ (mkF m 28 #[.val (.ref o0), .val (.int 1), .val (.int p2)] [(.int 0)])
        exact ret (v := some (.int 0)) X0 (fun h => by rw [Bd.returns] at h; cases h) (fun fs hr => retI X0 hx Bd.returns (hb hby d1_28) hr) e0 ⟨by unfold f_v1; rw [if_neg hc1, if_neg hc3, if_neg hc5], N0, rfl⟩ (by decide) (by decide)
abbrev rr_h1 : Room := { frames := 0, cells := 0, slots := 0, locals := 0 }
theorem ef_h1 (m : MethodId) (o0 : Addr) (p2 : Int32) (p3 : Int32) (p4 : Int32) : entryFrame m #[(.ref o0), (.int 1), (.int p2), (.int p3), (.int p4)] 5 = mkF m 0 #[.val (.ref o0), .val (.int 1), .val (.int p2), .val (.int p3), .val (.int p4)] [] := by first | (simp [entryFrame, mkF, argsToLocals, Value.category]; done) | rfl
def f_h1 (w_COMPACT_STRINGS : Int32) (w_SIOOBE_FORMATTER : Value) (o0 : Addr) (p2 : Int32) (p3 : Int32) (p4 : Int32) (ka : ClassId) (x0 : Int32) (x1 : Int32) (x2 : Int32) (x3 : Int32) (x4 : Int32) (x5 : Int32) : Int32 := (if (1 : Int32) < p2 then (0 : Int32) else (if (1 : Int32) < p3 then (if x1 = (125 : Int32) then (if p4 = (0 : Int32) then (1 : Int32) else (0 : Int32)) else (0 : Int32)) else (0 : Int32)))
def Q_h1 (Z : State) (w_COMPACT_STRINGS : Int32) (w_SIOOBE_FORMATTER : Value) (o0 : Addr) (p2 : Int32) (p3 : Int32) (p4 : Int32) (ka : ClassId) (x0 : Int32) (x1 : Int32) (x2 : Int32) (x3 : Int32) (x4 : Int32) (x5 : Int32) (h0 : Heap) (n0 : Nat) (v : Option Value) (h : Heap) (L : List Loc) : Prop := v = some (.int (f_h1 w_COMPACT_STRINGS w_SIOOBE_FORMATTER o0 p2 p3 p4 ka x0 x1 x2 x3 x4 x5)) ∧ Fr n0 L ∧ h = h0
set_option maxRecDepth 65536 in
set_option maxHeartbeats 40000000 in
theorem rm_h1 (l : Launch) (Z : State) (a0 : Array Value) (hw : ∀ d ∈ tables_1, d.before a0 Z = true) (ws : List Jvm.Cond) (w_COMPACT_STRINGS : Int32) (w_SIOOBE_FORMATTER : Value) (o0 : Addr) (p2 : Int32) (p3 : Int32) (p4 : Int32) (ka : ClassId) (x0 : Int32) (x1 : Int32) (x2 : Int32) (x3 : Int32) (x4 : Int32) (x5 : Int32) (h0 : Heap) (n0 : Nat) (Z0 : n0 ≤ h0.size) (ST : own_St Z w_COMPACT_STRINGS w_SIOOBE_FORMATTER) (O0 : Old Z n0 h0) (Va : Arv Z h0 o0 ka .char (6 : Int32) [(.int x0), (.int x1), (.int x2), (.int x3), (.int x4), (.int x5)] (.int 0)) :
    MetFree l y_2 (head1 (Jvm.Cond.code y_2 method_4_code 5 (some .boolean) :: ws) rr_h1) (fun a U => a = #[(.ref o0), (.int 1), (.int p2), (.int p3), (.int p4)] ∧ Z.Warmed39 U.vm ∧ U.heap = h0) (fun _ _ _ _ _ => True) (fun _ U o U' => ∃ v L, o = .returned v ∧ Q_h1 Z w_COMPACT_STRINGS w_SIOOBE_FORMATTER o0 p2 p3 p4 ka x0 x1 x2 x3 x4 x5 h0 n0 v U'.heap L ∧ FrameEnd U o U' L rr_h1.cells rr_h1.slots) := by
  refine MetFree.of_bodySF (plainFor_of_name pn_0) hisR ?_
  intro p e s m args below meth c s₁ Bd hml0 hP hK
  obtain ⟨rfl, hZ, hh⟩ := hP
  have hx := Bd.exec
  have hby := Bd.bytes
  have hml : c.maxLocals = 5 := hml0
  have hown : s.vm.findClass cn_0 = some m.cls := findClass_of_methodNamed Bd.named
  have hnm := (name_of_methodNamed Bd.named Bd.method).1
  have X0 : Stand p l e rr_h1 s m #[(.ref o0), (.int 1), (.int p2), (.int p3), (.int p4)] below meth c s₁ [] 0 0 := Stand.of_body Bd
  have e0 : s₁.heap = h0 := by rw [← hh, Bd.state]; rfl
  have N0 := Fr.nil n0
  obtain ⟨G, step, ret, fin⟩ := own_open (p := p) (l := l) (e := e) (R := rr_h1) (s := s) (m := m) (args := #[(.ref o0), (.int 1), (.int p2), (.int p3), (.int p4)]) (below := below) (meth := meth) (c := c) (rr_h1.cells) (rr_h1.slots) (Q_h1 Z w_COMPACT_STRINGS w_SIOOBE_FORMATTER o0 p2 p3 p4 ka x0 x1 x2 x3 x4 x5 h0 n0) Bd.notSynchronized
  refine fin (g := entryFrame m #[(.ref o0), (.int 1), (.int p2), (.int p3), (.int p4)] 5) ?_
  rw [ef_h1 m o0 p2 p3 p4]
  show G s₁ (mkF m 0 #[.val (.ref o0), .val (.int 1), .val (.int p2), .val (.int p3), .val (.int p4)] [])
  refine step (fun t k => XS.iloadN X0.here hx rfl (hb hby d2_0) rfl k) ?_
  show G s₁ (mkF m 1 #[.val (.ref o0), .val (.int 1), .val (.int p2), .val (.int p3), .val (.int p4)] [(.int 1)])
  refine step (fun t k => XS.iloadN X0.here hx rfl (hb hby d2_1) rfl k) ?_
  show G s₁ (mkF m 2 #[.val (.ref o0), .val (.int 1), .val (.int p2), .val (.int p3), .val (.int p4)] [(.int p2), (.int 1)])
  by_cases hc1 : (1 : Int32) < p2
  · skip
    refine step (fun t k => XS.icmpYes X0.here hx rfl (pc0 := 2) (pc' := 27) rfl (hb hby d2_2) rfl (tlt hc1).1 (by decide) (by decide) k) ?_
    show G s₁ (mkF m 27 #[.val (.ref o0), .val (.int 1), .val (.int p2), .val (.int p3), .val (.int p4)] [])
    refine step (fun t k => XS.iconst X0.here hx rfl (hb hby d2_27) k) ?_
    show G s₁ (mkF m 28 #[.val (.ref o0), .val (.int 1), .val (.int p2), .val (.int p3), .val (.int p4)] [(.int 0)])
    exact ret (v := some (.int 0)) X0 (fun h => by rw [Bd.returns] at h; cases h) (fun fs hr => retN X0 hx (t := .boolean) Bd.returns (by simp) (hb hby d2_28) hr) e0 ⟨by unfold f_h1; rw [if_pos hc1], N0, rfl⟩ (by decide) (by decide)
  · skip
    refine step (fun t k => XS.icmpNo X0.here hx rfl (hb hby d2_2) rfl (flt hc1).1 k) ?_
    show G s₁ (mkF m 5 #[.val (.ref o0), .val (.int 1), .val (.int p2), .val (.int p3), .val (.int p4)] [])
    refine step (fun t k => XS.iloadN X0.here hx rfl (hb hby d2_5) rfl k) ?_
    show G s₁ (mkF m 6 #[.val (.ref o0), .val (.int 1), .val (.int p2), .val (.int p3), .val (.int p4)] [(.int 1)])
    refine step (fun t k => XS.iloadN X0.here hx rfl (hb hby d2_6) rfl k) ?_
    show G s₁ (mkF m 7 #[.val (.ref o0), .val (.int 1), .val (.int p2), .val (.int p3), .val (.int p4)] [(.int p3), (.int 1)])
    by_cases hc2 : (1 : Int32) < p3
    · skip
      refine step (fun t k => XS.icmpNo X0.here hx rfl (hb hby d2_7) rfl (tlt hc2).2.1 k) ?_
      show G s₁ (mkF m 10 #[.val (.ref o0), .val (.int 1), .val (.int p2), .val (.int p3), .val (.int p4)] [])
      refine step (fun t k => XS.aloadN X0.here hx rfl (hb hby d2_10) rfl rfl k) ?_
      show G s₁ (mkF m 11 #[.val (.ref o0), .val (.int 1), .val (.int p2), .val (.int p3), .val (.int p4)] [(.ref o0)])
      refine step (fun t k => XS.iloadN X0.here hx rfl (hb hby d2_11) rfl k) ?_
      show G s₁ (mkF m 12 #[.val (.ref o0), .val (.int 1), .val (.int p2), .val (.int p3), .val (.int p4)] [(.int 1), (.ref o0)])
      have q3 := own_ldC X0 hx hZ e0 Va (j := (1 : Int32)) (v := (.int x1)) (by decide) (own_at (i := 1) rfl rfl) (g := (mkF m 12 #[.val (.ref o0), .val (.int 1), .val (.int p2), .val (.int p3), .val (.int p4)] [(.int 1), (.ref o0)])) rfl rfl (hb hby d2_12)
      refine step q3 ?_
      show G s₁ (mkF m 13 #[.val (.ref o0), .val (.int 1), .val (.int p2), .val (.int p3), .val (.int p4)] [(.int x1)])
      refine step (fun t k => XS.bipush X0.here hx rfl (hb hby d2_13) k) ?_
      show G s₁ (mkF m 15 #[.val (.ref o0), .val (.int 1), .val (.int p2), .val (.int p3), .val (.int p4)] [(.int 125), (.int x1)])
      by_cases hc4 : x1 = (125 : Int32)
      · skip
        refine step (fun t k => XS.icmpNo X0.here hx rfl (hb hby d2_15) rfl (teq hc4).2 k) ?_
        show G s₁ (mkF m 18 #[.val (.ref o0), .val (.int 1), .val (.int p2), .val (.int p3), .val (.int p4)] [])
        refine step (fun t k => XS.iload X0.here hx rfl (hb hby d2_18) rfl k) ?_
        show G s₁ (mkF m 20 #[.val (.ref o0), .val (.int 1), .val (.int p2), .val (.int p3), .val (.int p4)] [(.int p4)])
        by_cases hc5 : p4 = (0 : Int32)
        · skip
          refine step (fun t k => XS.ifNo X0.here hx rfl (hb hby d2_20) rfl ((if0 _ _).trans (teq hc5).2) k) ?_
          show G s₁ (mkF m 23 #[.val (.ref o0), .val (.int 1), .val (.int p2), .val (.int p3), .val (.int p4)] [])
          refine step (fun t k => XS.iconst X0.here hx rfl (hb hby d2_23) k) ?_
          show G s₁ (mkF m 24 #[.val (.ref o0), .val (.int 1), .val (.int p2), .val (.int p3), .val (.int p4)] [(.int 1)])
          refine step (fun t k => XS.goto X0.here hx rfl (pc0 := 24) (pc' := 28) rfl (hb hby d2_24) (by decide) (by decide) k) ?_
          show G s₁ (mkF m 28 #[.val (.ref o0), .val (.int 1), .val (.int p2), .val (.int p3), .val (.int p4)] [(.int 1)])
          exact ret (v := some (.int 1)) X0 (fun h => by rw [Bd.returns] at h; cases h) (fun fs hr => retN X0 hx (t := .boolean) Bd.returns (by simp) (hb hby d2_28) hr) e0 ⟨by unfold f_h1; rw [if_neg hc1, if_pos hc2, if_pos hc4, if_pos hc5], N0, rfl⟩ (by decide) (by decide)
        · skip
          refine step (fun t k => XS.ifYes X0.here hx rfl (pc0 := 20) (pc' := 27) rfl (hb hby d2_20) rfl ((if0 _ _).trans (feq hc5).2) (by decide) (by decide) k) ?_
          show G s₁ (mkF m 27 #[.val (.ref o0), .val (.int 1), .val (.int p2), .val (.int p3), .val (.int p4)] [])
          refine step (fun t k => XS.iconst X0.here hx rfl (hb hby d2_27) k) ?_
          show G s₁ (mkF m 28 #[.val (.ref o0), .val (.int 1), .val (.int p2), .val (.int p3), .val (.int p4)] [(.int 0)])
          exact ret (v := some (.int 0)) X0 (fun h => by rw [Bd.returns] at h; cases h) (fun fs hr => retN X0 hx (t := .boolean) Bd.returns (by simp) (hb hby d2_28) hr) e0 ⟨by unfold f_h1; rw [if_neg hc1, if_pos hc2, if_pos hc4, if_neg hc5], N0, rfl⟩ (by decide) (by decide)
      · skip
        refine step (fun t k => XS.icmpYes X0.here hx rfl (pc0 := 15) (pc' := 27) rfl (hb hby d2_15) rfl (feq hc4).2 (by decide) (by decide) k) ?_
        show G s₁ (mkF m 27 #[.val (.ref o0), .val (.int 1), .val (.int p2), .val (.int p3), .val (.int p4)] [])
        refine step (fun t k => XS.iconst X0.here hx rfl (hb hby d2_27) k) ?_
        show G s₁ (mkF m 28 #[.val (.ref o0), .val (.int 1), .val (.int p2), .val (.int p3), .val (.int p4)] [(.int 0)])
        exact ret (v := some (.int 0)) X0 (fun h => by rw [Bd.returns] at h; cases h) (fun fs hr => retN X0 hx (t := .boolean) Bd.returns (by simp) (hb hby d2_28) hr) e0 ⟨by unfold f_h1; rw [if_neg hc1, if_pos hc2, if_neg hc4], N0, rfl⟩ (by decide) (by decide)
    · skip
      refine step (fun t k => XS.icmpYes X0.here hx rfl (pc0 := 7) (pc' := 27) rfl (hb hby d2_7) rfl (flt hc2).2.1 (by decide) (by decide) k) ?_
      show G s₁ (mkF m 27 #[.val (.ref o0), .val (.int 1), .val (.int p2), .val (.int p3), .val (.int p4)] [])
      refine step (fun t k => XS.iconst X0.here hx rfl (hb hby d2_27) k) ?_
      show G s₁ (mkF m 28 #[.val (.ref o0), .val (.int 1), .val (.int p2), .val (.int p3), .val (.int p4)] [(.int 0)])
      exact ret (v := some (.int 0)) X0 (fun h => by rw [Bd.returns] at h; cases h) (fun fs hr => retN X0 hx (t := .boolean) Bd.returns (by simp) (hb hby d2_28) hr) e0 ⟨by unfold f_h1; rw [if_neg hc1, if_neg hc2], N0, rfl⟩ (by decide) (by decide)
abbrev rr_v2 : Room := { frames := 0, cells := 0, slots := 0, locals := 0 }
theorem ef_v2 (m : MethodId) (o0 : Addr) (p2 : Int32) : entryFrame m #[(.ref o0), (.int 2), (.int p2)] 3 = mkF m 0 #[.val (.ref o0), .val (.int 2), .val (.int p2)] [] := by first | (simp [entryFrame, mkF, argsToLocals, Value.category]; done) | rfl
def f_v2 (w_COMPACT_STRINGS : Int32) (w_SIOOBE_FORMATTER : Value) (o0 : Addr) (p2 : Int32) (ka : ClassId) (x0 : Int32) (x1 : Int32) (x2 : Int32) (x3 : Int32) (x4 : Int32) (x5 : Int32) : Int32 := (if (2 : Int32) < p2 then (0 : Int32) else (if x2 = (123 : Int32) then (1 : Int32) else (if x2 = (125 : Int32) then (-1 : Int32) else (0 : Int32))))
def Q_v2 (Z : State) (w_COMPACT_STRINGS : Int32) (w_SIOOBE_FORMATTER : Value) (o0 : Addr) (p2 : Int32) (ka : ClassId) (x0 : Int32) (x1 : Int32) (x2 : Int32) (x3 : Int32) (x4 : Int32) (x5 : Int32) (h0 : Heap) (n0 : Nat) (v : Option Value) (h : Heap) (L : List Loc) : Prop := v = some (.int (f_v2 w_COMPACT_STRINGS w_SIOOBE_FORMATTER o0 p2 ka x0 x1 x2 x3 x4 x5)) ∧ Fr n0 L ∧ h = h0
set_option maxRecDepth 65536 in
set_option maxHeartbeats 40000000 in
theorem rm_v2 (l : Launch) (Z : State) (a0 : Array Value) (hw : ∀ d ∈ tables_1, d.before a0 Z = true) (ws : List Jvm.Cond) (w_COMPACT_STRINGS : Int32) (w_SIOOBE_FORMATTER : Value) (o0 : Addr) (p2 : Int32) (ka : ClassId) (x0 : Int32) (x1 : Int32) (x2 : Int32) (x3 : Int32) (x4 : Int32) (x5 : Int32) (h0 : Heap) (n0 : Nat) (Z0 : n0 ≤ h0.size) (ST : own_St Z w_COMPACT_STRINGS w_SIOOBE_FORMATTER) (O0 : Old Z n0 h0) (Va : Arv Z h0 o0 ka .char (6 : Int32) [(.int x0), (.int x1), (.int x2), (.int x3), (.int x4), (.int x5)] (.int 0)) :
    MetFree l y_1 (head1 (Jvm.Cond.code y_1 method_3_code 3 (some .int) :: ws) rr_v2) (fun a U => a = #[(.ref o0), (.int 2), (.int p2)] ∧ Z.Warmed39 U.vm ∧ U.heap = h0) (fun _ _ _ _ _ => True) (fun _ U o U' => ∃ v L, o = .returned v ∧ Q_v2 Z w_COMPACT_STRINGS w_SIOOBE_FORMATTER o0 p2 ka x0 x1 x2 x3 x4 x5 h0 n0 v U'.heap L ∧ FrameEnd U o U' L rr_v2.cells rr_v2.slots) := by
  refine MetFree.of_bodySF (plainFor_of_name pn_0) hisR ?_
  intro p e s m args below meth c s₁ Bd hml0 hP hK
  obtain ⟨rfl, hZ, hh⟩ := hP
  have hx := Bd.exec
  have hby := Bd.bytes
  have hml : c.maxLocals = 3 := hml0
  have hown : s.vm.findClass cn_0 = some m.cls := findClass_of_methodNamed Bd.named
  have hnm := (name_of_methodNamed Bd.named Bd.method).1
  have X0 : Stand p l e rr_v2 s m #[(.ref o0), (.int 2), (.int p2)] below meth c s₁ [] 0 0 := Stand.of_body Bd
  have e0 : s₁.heap = h0 := by rw [← hh, Bd.state]; rfl
  have N0 := Fr.nil n0
  obtain ⟨G, step, ret, fin⟩ := own_open (p := p) (l := l) (e := e) (R := rr_v2) (s := s) (m := m) (args := #[(.ref o0), (.int 2), (.int p2)]) (below := below) (meth := meth) (c := c) (rr_v2.cells) (rr_v2.slots) (Q_v2 Z w_COMPACT_STRINGS w_SIOOBE_FORMATTER o0 p2 ka x0 x1 x2 x3 x4 x5 h0 n0) Bd.notSynchronized
  refine fin (g := entryFrame m #[(.ref o0), (.int 2), (.int p2)] 3) ?_
  rw [ef_v2 m o0 p2]
  show G s₁ (mkF m 0 #[.val (.ref o0), .val (.int 2), .val (.int p2)] [])
  refine step (fun t k => XS.iloadN X0.here hx rfl (hb hby d1_0) rfl k) ?_
  show G s₁ (mkF m 1 #[.val (.ref o0), .val (.int 2), .val (.int p2)] [(.int 2)])
  refine step (fun t k => XS.iloadN X0.here hx rfl (hb hby d1_1) rfl k) ?_
  show G s₁ (mkF m 2 #[.val (.ref o0), .val (.int 2), .val (.int p2)] [(.int p2), (.int 2)])
  by_cases hc1 : (2 : Int32) < p2
  · skip
    refine step (fun t k => XS.icmpNo X0.here hx rfl (hb hby d1_2) rfl (tlt hc1).2.1 k) ?_
    show G s₁ (mkF m 5 #[.val (.ref o0), .val (.int 2), .val (.int p2)] [])
    refine step (fun t k => XS.iconst X0.here hx rfl (hb hby d1_5) k) ?_
    show G s₁ (mkF m 6 #[.val (.ref o0), .val (.int 2), .val (.int p2)] [(.int 0)])
    exact ret (v := some (.int 0)) X0 (fun h => by rw [Bd.returns] at h; cases h) (fun fs hr => retI X0 hx Bd.returns (hb hby d1_6) hr) e0 ⟨by unfold f_v2; rw [if_pos hc1], N0, rfl⟩ (by decide) (by decide)
  · skip
    refine step (fun t k => XS.icmpYes X0.here hx rfl (pc0 := 2) (pc' := 7) rfl (hb hby d1_2) rfl (flt hc1).2.1 (by decide) (by decide) k) ?_
    show G s₁ (mkF m 7 #[.val (.ref o0), .val (.int 2), .val (.int p2)] [])
    refine step (fun t k => XS.aloadN X0.here hx rfl (hb hby d1_7) rfl rfl k) ?_
    show G s₁ (mkF m 8 #[.val (.ref o0), .val (.int 2), .val (.int p2)] [(.ref o0)])
    refine step (fun t k => XS.iloadN X0.here hx rfl (hb hby d1_8) rfl k) ?_
    show G s₁ (mkF m 9 #[.val (.ref o0), .val (.int 2), .val (.int p2)] [(.int 2), (.ref o0)])
    have q2 := own_ldC X0 hx hZ e0 Va (j := (2 : Int32)) (v := (.int x2)) (by decide) (own_at (i := 2) rfl rfl) (g := (mkF m 9 #[.val (.ref o0), .val (.int 2), .val (.int p2)] [(.int 2), (.ref o0)])) rfl rfl (hb hby d1_9)
    refine step q2 ?_
    show G s₁ (mkF m 10 #[.val (.ref o0), .val (.int 2), .val (.int p2)] [(.int x2)])
    refine step (fun t k => XS.bipush X0.here hx rfl (hb hby d1_10) k) ?_
    show G s₁ (mkF m 12 #[.val (.ref o0), .val (.int 2), .val (.int p2)] [(.int 123), (.int x2)])
    by_cases hc3 : x2 = (123 : Int32)
    · skip
      refine step (fun t k => XS.icmpNo X0.here hx rfl (hb hby d1_12) rfl (teq hc3).2 k) ?_
      show G s₁ (mkF m 15 #[.val (.ref o0), .val (.int 2), .val (.int p2)] [])
      refine step (fun t k => XS.iconst X0.here hx rfl (hb hby d1_15) k) ?_
      show G s₁ (mkF m 16 #[.val (.ref o0), .val (.int 2), .val (.int p2)] [(.int 1)])
      exact ret (v := some (.int 1)) X0 (fun h => by rw [Bd.returns] at h; cases h) (fun fs hr => retI X0 hx Bd.returns (hb hby d1_16) hr) e0 ⟨by unfold f_v2; rw [if_neg hc1, if_pos hc3], N0, rfl⟩ (by decide) (by decide)
    · skip
      refine step (fun t k => XS.icmpYes X0.here hx rfl (pc0 := 12) (pc' := 17) rfl (hb hby d1_12) rfl (feq hc3).2 (by decide) (by decide) k) ?_
      show G s₁ (mkF m 17 #[.val (.ref o0), .val (.int 2), .val (.int p2)] [])
      refine step (fun t k => XS.aloadN X0.here hx rfl (hb hby d1_17) rfl rfl k) ?_
      show G s₁ (mkF m 18 #[.val (.ref o0), .val (.int 2), .val (.int p2)] [(.ref o0)])
      refine step (fun t k => XS.iloadN X0.here hx rfl (hb hby d1_18) rfl k) ?_
      show G s₁ (mkF m 19 #[.val (.ref o0), .val (.int 2), .val (.int p2)] [(.int 2), (.ref o0)])
      have q4 := own_ldC X0 hx hZ e0 Va (j := (2 : Int32)) (v := (.int x2)) (by decide) (own_at (i := 2) rfl rfl) (g := (mkF m 19 #[.val (.ref o0), .val (.int 2), .val (.int p2)] [(.int 2), (.ref o0)])) rfl rfl (hb hby d1_19)
      refine step q4 ?_
      show G s₁ (mkF m 20 #[.val (.ref o0), .val (.int 2), .val (.int p2)] [(.int x2)])
      refine step (fun t k => XS.bipush X0.here hx rfl (hb hby d1_20) k) ?_
      show G s₁ (mkF m 22 #[.val (.ref o0), .val (.int 2), .val (.int p2)] [(.int 125), (.int x2)])
      by_cases hc5 : x2 = (125 : Int32)
      · skip
        refine step (fun t k => XS.icmpNo X0.here hx rfl (hb hby d1_22) rfl (teq hc5).2 k) ?_
        show G s₁ (mkF m 25 #[.val (.ref o0), .val (.int 2), .val (.int p2)] [])
        refine step (fun t k => XS.iconst X0.here hx rfl (hb hby d1_25) k) ?_
        show G s₁ (mkF m 26 #[.val (.ref o0), .val (.int 2), .val (.int p2)] [(.int (-1))])
        exact ret (v := some (.int (-1))) X0 (fun h => by rw [Bd.returns] at h; cases h) (fun fs hr => retI X0 hx Bd.returns (hb hby d1_26) hr) e0 ⟨by unfold f_v2; rw [if_neg hc1, if_neg hc3, if_pos hc5], N0, rfl⟩ (by decide) (by decide)
      · skip
        refine step (fun t k => XS.icmpYes X0.here hx rfl (pc0 := 22) (pc' := 27) rfl (hb hby d1_22) rfl (feq hc5).2 (by decide) (by decide) k) ?_
        show G s₁ (mkF m 27 #[.val (.ref o0), .val (.int 2), .val (.int p2)] [])
        refine step (fun t k => XS.iconst X0.here hx rfl (hb hby d1_27) k) ?_
        show G s₁ (mkF m 28 #[.val (.ref o0), .val (.int 2), .val (.int p2)] [(.int 0)])
        exact ret (v := some (.int 0)) X0 (fun h => by rw [Bd.returns] at h; cases h) (fun fs hr => retI X0 hx Bd.returns (hb hby d1_28) hr) e0 ⟨by unfold f_v2; rw [if_neg hc1, if_neg hc3, if_neg hc5], N0, rfl⟩ (by decide) (by decide)
abbrev rr_h2 : Room := { frames := 0, cells := 0, slots := 0, locals := 0 }
theorem ef_h2 (m : MethodId) (o0 : Addr) (p2 : Int32) (p3 : Int32) (p4 : Int32) : entryFrame m #[(.ref o0), (.int 2), (.int p2), (.int p3), (.int p4)] 5 = mkF m 0 #[.val (.ref o0), .val (.int 2), .val (.int p2), .val (.int p3), .val (.int p4)] [] := by first | (simp [entryFrame, mkF, argsToLocals, Value.category]; done) | rfl
def f_h2 (w_COMPACT_STRINGS : Int32) (w_SIOOBE_FORMATTER : Value) (o0 : Addr) (p2 : Int32) (p3 : Int32) (p4 : Int32) (ka : ClassId) (x0 : Int32) (x1 : Int32) (x2 : Int32) (x3 : Int32) (x4 : Int32) (x5 : Int32) : Int32 := (if (2 : Int32) < p2 then (0 : Int32) else (if (2 : Int32) < p3 then (if x2 = (125 : Int32) then (if p4 = (0 : Int32) then (1 : Int32) else (0 : Int32)) else (0 : Int32)) else (0 : Int32)))
def Q_h2 (Z : State) (w_COMPACT_STRINGS : Int32) (w_SIOOBE_FORMATTER : Value) (o0 : Addr) (p2 : Int32) (p3 : Int32) (p4 : Int32) (ka : ClassId) (x0 : Int32) (x1 : Int32) (x2 : Int32) (x3 : Int32) (x4 : Int32) (x5 : Int32) (h0 : Heap) (n0 : Nat) (v : Option Value) (h : Heap) (L : List Loc) : Prop := v = some (.int (f_h2 w_COMPACT_STRINGS w_SIOOBE_FORMATTER o0 p2 p3 p4 ka x0 x1 x2 x3 x4 x5)) ∧ Fr n0 L ∧ h = h0
set_option maxRecDepth 65536 in
set_option maxHeartbeats 40000000 in
theorem rm_h2 (l : Launch) (Z : State) (a0 : Array Value) (hw : ∀ d ∈ tables_1, d.before a0 Z = true) (ws : List Jvm.Cond) (w_COMPACT_STRINGS : Int32) (w_SIOOBE_FORMATTER : Value) (o0 : Addr) (p2 : Int32) (p3 : Int32) (p4 : Int32) (ka : ClassId) (x0 : Int32) (x1 : Int32) (x2 : Int32) (x3 : Int32) (x4 : Int32) (x5 : Int32) (h0 : Heap) (n0 : Nat) (Z0 : n0 ≤ h0.size) (ST : own_St Z w_COMPACT_STRINGS w_SIOOBE_FORMATTER) (O0 : Old Z n0 h0) (Va : Arv Z h0 o0 ka .char (6 : Int32) [(.int x0), (.int x1), (.int x2), (.int x3), (.int x4), (.int x5)] (.int 0)) :
    MetFree l y_2 (head1 (Jvm.Cond.code y_2 method_4_code 5 (some .boolean) :: ws) rr_h2) (fun a U => a = #[(.ref o0), (.int 2), (.int p2), (.int p3), (.int p4)] ∧ Z.Warmed39 U.vm ∧ U.heap = h0) (fun _ _ _ _ _ => True) (fun _ U o U' => ∃ v L, o = .returned v ∧ Q_h2 Z w_COMPACT_STRINGS w_SIOOBE_FORMATTER o0 p2 p3 p4 ka x0 x1 x2 x3 x4 x5 h0 n0 v U'.heap L ∧ FrameEnd U o U' L rr_h2.cells rr_h2.slots) := by
  refine MetFree.of_bodySF (plainFor_of_name pn_0) hisR ?_
  intro p e s m args below meth c s₁ Bd hml0 hP hK
  obtain ⟨rfl, hZ, hh⟩ := hP
  have hx := Bd.exec
  have hby := Bd.bytes
  have hml : c.maxLocals = 5 := hml0
  have hown : s.vm.findClass cn_0 = some m.cls := findClass_of_methodNamed Bd.named
  have hnm := (name_of_methodNamed Bd.named Bd.method).1
  have X0 : Stand p l e rr_h2 s m #[(.ref o0), (.int 2), (.int p2), (.int p3), (.int p4)] below meth c s₁ [] 0 0 := Stand.of_body Bd
  have e0 : s₁.heap = h0 := by rw [← hh, Bd.state]; rfl
  have N0 := Fr.nil n0
  obtain ⟨G, step, ret, fin⟩ := own_open (p := p) (l := l) (e := e) (R := rr_h2) (s := s) (m := m) (args := #[(.ref o0), (.int 2), (.int p2), (.int p3), (.int p4)]) (below := below) (meth := meth) (c := c) (rr_h2.cells) (rr_h2.slots) (Q_h2 Z w_COMPACT_STRINGS w_SIOOBE_FORMATTER o0 p2 p3 p4 ka x0 x1 x2 x3 x4 x5 h0 n0) Bd.notSynchronized
  refine fin (g := entryFrame m #[(.ref o0), (.int 2), (.int p2), (.int p3), (.int p4)] 5) ?_
  rw [ef_h2 m o0 p2 p3 p4]
  show G s₁ (mkF m 0 #[.val (.ref o0), .val (.int 2), .val (.int p2), .val (.int p3), .val (.int p4)] [])
  refine step (fun t k => XS.iloadN X0.here hx rfl (hb hby d2_0) rfl k) ?_
  show G s₁ (mkF m 1 #[.val (.ref o0), .val (.int 2), .val (.int p2), .val (.int p3), .val (.int p4)] [(.int 2)])
  refine step (fun t k => XS.iloadN X0.here hx rfl (hb hby d2_1) rfl k) ?_
  show G s₁ (mkF m 2 #[.val (.ref o0), .val (.int 2), .val (.int p2), .val (.int p3), .val (.int p4)] [(.int p2), (.int 2)])
  by_cases hc1 : (2 : Int32) < p2
  · skip
    refine step (fun t k => XS.icmpYes X0.here hx rfl (pc0 := 2) (pc' := 27) rfl (hb hby d2_2) rfl (tlt hc1).1 (by decide) (by decide) k) ?_
    show G s₁ (mkF m 27 #[.val (.ref o0), .val (.int 2), .val (.int p2), .val (.int p3), .val (.int p4)] [])
    refine step (fun t k => XS.iconst X0.here hx rfl (hb hby d2_27) k) ?_
    show G s₁ (mkF m 28 #[.val (.ref o0), .val (.int 2), .val (.int p2), .val (.int p3), .val (.int p4)] [(.int 0)])
    exact ret (v := some (.int 0)) X0 (fun h => by rw [Bd.returns] at h; cases h) (fun fs hr => retN X0 hx (t := .boolean) Bd.returns (by simp) (hb hby d2_28) hr) e0 ⟨by unfold f_h2; rw [if_pos hc1], N0, rfl⟩ (by decide) (by decide)
  · skip
    refine step (fun t k => XS.icmpNo X0.here hx rfl (hb hby d2_2) rfl (flt hc1).1 k) ?_
    show G s₁ (mkF m 5 #[.val (.ref o0), .val (.int 2), .val (.int p2), .val (.int p3), .val (.int p4)] [])
    refine step (fun t k => XS.iloadN X0.here hx rfl (hb hby d2_5) rfl k) ?_
    show G s₁ (mkF m 6 #[.val (.ref o0), .val (.int 2), .val (.int p2), .val (.int p3), .val (.int p4)] [(.int 2)])
    refine step (fun t k => XS.iloadN X0.here hx rfl (hb hby d2_6) rfl k) ?_
    show G s₁ (mkF m 7 #[.val (.ref o0), .val (.int 2), .val (.int p2), .val (.int p3), .val (.int p4)] [(.int p3), (.int 2)])
    by_cases hc2 : (2 : Int32) < p3
    · skip
      refine step (fun t k => XS.icmpNo X0.here hx rfl (hb hby d2_7) rfl (tlt hc2).2.1 k) ?_
      show G s₁ (mkF m 10 #[.val (.ref o0), .val (.int 2), .val (.int p2), .val (.int p3), .val (.int p4)] [])
      refine step (fun t k => XS.aloadN X0.here hx rfl (hb hby d2_10) rfl rfl k) ?_
      show G s₁ (mkF m 11 #[.val (.ref o0), .val (.int 2), .val (.int p2), .val (.int p3), .val (.int p4)] [(.ref o0)])
      refine step (fun t k => XS.iloadN X0.here hx rfl (hb hby d2_11) rfl k) ?_
      show G s₁ (mkF m 12 #[.val (.ref o0), .val (.int 2), .val (.int p2), .val (.int p3), .val (.int p4)] [(.int 2), (.ref o0)])
      have q3 := own_ldC X0 hx hZ e0 Va (j := (2 : Int32)) (v := (.int x2)) (by decide) (own_at (i := 2) rfl rfl) (g := (mkF m 12 #[.val (.ref o0), .val (.int 2), .val (.int p2), .val (.int p3), .val (.int p4)] [(.int 2), (.ref o0)])) rfl rfl (hb hby d2_12)
      refine step q3 ?_
      show G s₁ (mkF m 13 #[.val (.ref o0), .val (.int 2), .val (.int p2), .val (.int p3), .val (.int p4)] [(.int x2)])
      refine step (fun t k => XS.bipush X0.here hx rfl (hb hby d2_13) k) ?_
      show G s₁ (mkF m 15 #[.val (.ref o0), .val (.int 2), .val (.int p2), .val (.int p3), .val (.int p4)] [(.int 125), (.int x2)])
      by_cases hc4 : x2 = (125 : Int32)
      · skip
        refine step (fun t k => XS.icmpNo X0.here hx rfl (hb hby d2_15) rfl (teq hc4).2 k) ?_
        show G s₁ (mkF m 18 #[.val (.ref o0), .val (.int 2), .val (.int p2), .val (.int p3), .val (.int p4)] [])
        refine step (fun t k => XS.iload X0.here hx rfl (hb hby d2_18) rfl k) ?_
        show G s₁ (mkF m 20 #[.val (.ref o0), .val (.int 2), .val (.int p2), .val (.int p3), .val (.int p4)] [(.int p4)])
        by_cases hc5 : p4 = (0 : Int32)
        · skip
          refine step (fun t k => XS.ifNo X0.here hx rfl (hb hby d2_20) rfl ((if0 _ _).trans (teq hc5).2) k) ?_
          show G s₁ (mkF m 23 #[.val (.ref o0), .val (.int 2), .val (.int p2), .val (.int p3), .val (.int p4)] [])
          refine step (fun t k => XS.iconst X0.here hx rfl (hb hby d2_23) k) ?_
          show G s₁ (mkF m 24 #[.val (.ref o0), .val (.int 2), .val (.int p2), .val (.int p3), .val (.int p4)] [(.int 1)])
          refine step (fun t k => XS.goto X0.here hx rfl (pc0 := 24) (pc' := 28) rfl (hb hby d2_24) (by decide) (by decide) k) ?_
          show G s₁ (mkF m 28 #[.val (.ref o0), .val (.int 2), .val (.int p2), .val (.int p3), .val (.int p4)] [(.int 1)])
          exact ret (v := some (.int 1)) X0 (fun h => by rw [Bd.returns] at h; cases h) (fun fs hr => retN X0 hx (t := .boolean) Bd.returns (by simp) (hb hby d2_28) hr) e0 ⟨by unfold f_h2; rw [if_neg hc1, if_pos hc2, if_pos hc4, if_pos hc5], N0, rfl⟩ (by decide) (by decide)
        · skip
          refine step (fun t k => XS.ifYes X0.here hx rfl (pc0 := 20) (pc' := 27) rfl (hb hby d2_20) rfl ((if0 _ _).trans (feq hc5).2) (by decide) (by decide) k) ?_
          show G s₁ (mkF m 27 #[.val (.ref o0), .val (.int 2), .val (.int p2), .val (.int p3), .val (.int p4)] [])
          refine step (fun t k => XS.iconst X0.here hx rfl (hb hby d2_27) k) ?_
          show G s₁ (mkF m 28 #[.val (.ref o0), .val (.int 2), .val (.int p2), .val (.int p3), .val (.int p4)] [(.int 0)])
          exact ret (v := some (.int 0)) X0 (fun h => by rw [Bd.returns] at h; cases h) (fun fs hr => retN X0 hx (t := .boolean) Bd.returns (by simp) (hb hby d2_28) hr) e0 ⟨by unfold f_h2; rw [if_neg hc1, if_pos hc2, if_pos hc4, if_neg hc5], N0, rfl⟩ (by decide) (by decide)
      · skip
        refine step (fun t k => XS.icmpYes X0.here hx rfl (pc0 := 15) (pc' := 27) rfl (hb hby d2_15) rfl (feq hc4).2 (by decide) (by decide) k) ?_
        show G s₁ (mkF m 27 #[.val (.ref o0), .val (.int 2), .val (.int p2), .val (.int p3), .val (.int p4)] [])
        refine step (fun t k => XS.iconst X0.here hx rfl (hb hby d2_27) k) ?_
        show G s₁ (mkF m 28 #[.val (.ref o0), .val (.int 2), .val (.int p2), .val (.int p3), .val (.int p4)] [(.int 0)])
        exact ret (v := some (.int 0)) X0 (fun h => by rw [Bd.returns] at h; cases h) (fun fs hr => retN X0 hx (t := .boolean) Bd.returns (by simp) (hb hby d2_28) hr) e0 ⟨by unfold f_h2; rw [if_neg hc1, if_pos hc2, if_neg hc4], N0, rfl⟩ (by decide) (by decide)
    · skip
      refine step (fun t k => XS.icmpYes X0.here hx rfl (pc0 := 7) (pc' := 27) rfl (hb hby d2_7) rfl (flt hc2).2.1 (by decide) (by decide) k) ?_
      show G s₁ (mkF m 27 #[.val (.ref o0), .val (.int 2), .val (.int p2), .val (.int p3), .val (.int p4)] [])
      refine step (fun t k => XS.iconst X0.here hx rfl (hb hby d2_27) k) ?_
      show G s₁ (mkF m 28 #[.val (.ref o0), .val (.int 2), .val (.int p2), .val (.int p3), .val (.int p4)] [(.int 0)])
      exact ret (v := some (.int 0)) X0 (fun h => by rw [Bd.returns] at h; cases h) (fun fs hr => retN X0 hx (t := .boolean) Bd.returns (by simp) (hb hby d2_28) hr) e0 ⟨by unfold f_h2; rw [if_neg hc1, if_neg hc2], N0, rfl⟩ (by decide) (by decide)
abbrev rr_v3 : Room := { frames := 0, cells := 0, slots := 0, locals := 0 }
theorem ef_v3 (m : MethodId) (o0 : Addr) (p2 : Int32) : entryFrame m #[(.ref o0), (.int 3), (.int p2)] 3 = mkF m 0 #[.val (.ref o0), .val (.int 3), .val (.int p2)] [] := by first | (simp [entryFrame, mkF, argsToLocals, Value.category]; done) | rfl
def f_v3 (w_COMPACT_STRINGS : Int32) (w_SIOOBE_FORMATTER : Value) (o0 : Addr) (p2 : Int32) (ka : ClassId) (x0 : Int32) (x1 : Int32) (x2 : Int32) (x3 : Int32) (x4 : Int32) (x5 : Int32) : Int32 := (if (3 : Int32) < p2 then (0 : Int32) else (if x3 = (123 : Int32) then (1 : Int32) else (if x3 = (125 : Int32) then (-1 : Int32) else (0 : Int32))))
def Q_v3 (Z : State) (w_COMPACT_STRINGS : Int32) (w_SIOOBE_FORMATTER : Value) (o0 : Addr) (p2 : Int32) (ka : ClassId) (x0 : Int32) (x1 : Int32) (x2 : Int32) (x3 : Int32) (x4 : Int32) (x5 : Int32) (h0 : Heap) (n0 : Nat) (v : Option Value) (h : Heap) (L : List Loc) : Prop := v = some (.int (f_v3 w_COMPACT_STRINGS w_SIOOBE_FORMATTER o0 p2 ka x0 x1 x2 x3 x4 x5)) ∧ Fr n0 L ∧ h = h0
set_option maxRecDepth 65536 in
set_option maxHeartbeats 40000000 in
theorem rm_v3 (l : Launch) (Z : State) (a0 : Array Value) (hw : ∀ d ∈ tables_1, d.before a0 Z = true) (ws : List Jvm.Cond) (w_COMPACT_STRINGS : Int32) (w_SIOOBE_FORMATTER : Value) (o0 : Addr) (p2 : Int32) (ka : ClassId) (x0 : Int32) (x1 : Int32) (x2 : Int32) (x3 : Int32) (x4 : Int32) (x5 : Int32) (h0 : Heap) (n0 : Nat) (Z0 : n0 ≤ h0.size) (ST : own_St Z w_COMPACT_STRINGS w_SIOOBE_FORMATTER) (O0 : Old Z n0 h0) (Va : Arv Z h0 o0 ka .char (6 : Int32) [(.int x0), (.int x1), (.int x2), (.int x3), (.int x4), (.int x5)] (.int 0)) :
    MetFree l y_1 (head1 (Jvm.Cond.code y_1 method_3_code 3 (some .int) :: ws) rr_v3) (fun a U => a = #[(.ref o0), (.int 3), (.int p2)] ∧ Z.Warmed39 U.vm ∧ U.heap = h0) (fun _ _ _ _ _ => True) (fun _ U o U' => ∃ v L, o = .returned v ∧ Q_v3 Z w_COMPACT_STRINGS w_SIOOBE_FORMATTER o0 p2 ka x0 x1 x2 x3 x4 x5 h0 n0 v U'.heap L ∧ FrameEnd U o U' L rr_v3.cells rr_v3.slots) := by
  refine MetFree.of_bodySF (plainFor_of_name pn_0) hisR ?_
  intro p e s m args below meth c s₁ Bd hml0 hP hK
  obtain ⟨rfl, hZ, hh⟩ := hP
  have hx := Bd.exec
  have hby := Bd.bytes
  have hml : c.maxLocals = 3 := hml0
  have hown : s.vm.findClass cn_0 = some m.cls := findClass_of_methodNamed Bd.named
  have hnm := (name_of_methodNamed Bd.named Bd.method).1
  have X0 : Stand p l e rr_v3 s m #[(.ref o0), (.int 3), (.int p2)] below meth c s₁ [] 0 0 := Stand.of_body Bd
  have e0 : s₁.heap = h0 := by rw [← hh, Bd.state]; rfl
  have N0 := Fr.nil n0
  obtain ⟨G, step, ret, fin⟩ := own_open (p := p) (l := l) (e := e) (R := rr_v3) (s := s) (m := m) (args := #[(.ref o0), (.int 3), (.int p2)]) (below := below) (meth := meth) (c := c) (rr_v3.cells) (rr_v3.slots) (Q_v3 Z w_COMPACT_STRINGS w_SIOOBE_FORMATTER o0 p2 ka x0 x1 x2 x3 x4 x5 h0 n0) Bd.notSynchronized
  refine fin (g := entryFrame m #[(.ref o0), (.int 3), (.int p2)] 3) ?_
  rw [ef_v3 m o0 p2]
  show G s₁ (mkF m 0 #[.val (.ref o0), .val (.int 3), .val (.int p2)] [])
  refine step (fun t k => XS.iloadN X0.here hx rfl (hb hby d1_0) rfl k) ?_
  show G s₁ (mkF m 1 #[.val (.ref o0), .val (.int 3), .val (.int p2)] [(.int 3)])
  refine step (fun t k => XS.iloadN X0.here hx rfl (hb hby d1_1) rfl k) ?_
  show G s₁ (mkF m 2 #[.val (.ref o0), .val (.int 3), .val (.int p2)] [(.int p2), (.int 3)])
  by_cases hc1 : (3 : Int32) < p2
  · skip
    refine step (fun t k => XS.icmpNo X0.here hx rfl (hb hby d1_2) rfl (tlt hc1).2.1 k) ?_
    show G s₁ (mkF m 5 #[.val (.ref o0), .val (.int 3), .val (.int p2)] [])
    refine step (fun t k => XS.iconst X0.here hx rfl (hb hby d1_5) k) ?_
    show G s₁ (mkF m 6 #[.val (.ref o0), .val (.int 3), .val (.int p2)] [(.int 0)])
    exact ret (v := some (.int 0)) X0 (fun h => by rw [Bd.returns] at h; cases h) (fun fs hr => retI X0 hx Bd.returns (hb hby d1_6) hr) e0 ⟨by unfold f_v3; rw [if_pos hc1], N0, rfl⟩ (by decide) (by decide)
  · skip
    refine step (fun t k => XS.icmpYes X0.here hx rfl (pc0 := 2) (pc' := 7) rfl (hb hby d1_2) rfl (flt hc1).2.1 (by decide) (by decide) k) ?_
    show G s₁ (mkF m 7 #[.val (.ref o0), .val (.int 3), .val (.int p2)] [])
    refine step (fun t k => XS.aloadN X0.here hx rfl (hb hby d1_7) rfl rfl k) ?_
    show G s₁ (mkF m 8 #[.val (.ref o0), .val (.int 3), .val (.int p2)] [(.ref o0)])
    refine step (fun t k => XS.iloadN X0.here hx rfl (hb hby d1_8) rfl k) ?_
    show G s₁ (mkF m 9 #[.val (.ref o0), .val (.int 3), .val (.int p2)] [(.int 3), (.ref o0)])
    have q2 := own_ldC X0 hx hZ e0 Va (j := (3 : Int32)) (v := (.int x3)) (by decide) (own_at (i := 3) rfl rfl) (g := (mkF m 9 #[.val (.ref o0), .val (.int 3), .val (.int p2)] [(.int 3), (.ref o0)])) rfl rfl (hb hby d1_9)
    refine step q2 ?_
    show G s₁ (mkF m 10 #[.val (.ref o0), .val (.int 3), .val (.int p2)] [(.int x3)])
    refine step (fun t k => XS.bipush X0.here hx rfl (hb hby d1_10) k) ?_
    show G s₁ (mkF m 12 #[.val (.ref o0), .val (.int 3), .val (.int p2)] [(.int 123), (.int x3)])
    by_cases hc3 : x3 = (123 : Int32)
    · skip
      refine step (fun t k => XS.icmpNo X0.here hx rfl (hb hby d1_12) rfl (teq hc3).2 k) ?_
      show G s₁ (mkF m 15 #[.val (.ref o0), .val (.int 3), .val (.int p2)] [])
      refine step (fun t k => XS.iconst X0.here hx rfl (hb hby d1_15) k) ?_
      show G s₁ (mkF m 16 #[.val (.ref o0), .val (.int 3), .val (.int p2)] [(.int 1)])
      exact ret (v := some (.int 1)) X0 (fun h => by rw [Bd.returns] at h; cases h) (fun fs hr => retI X0 hx Bd.returns (hb hby d1_16) hr) e0 ⟨by unfold f_v3; rw [if_neg hc1, if_pos hc3], N0, rfl⟩ (by decide) (by decide)
    · skip
      refine step (fun t k => XS.icmpYes X0.here hx rfl (pc0 := 12) (pc' := 17) rfl (hb hby d1_12) rfl (feq hc3).2 (by decide) (by decide) k) ?_
      show G s₁ (mkF m 17 #[.val (.ref o0), .val (.int 3), .val (.int p2)] [])
      refine step (fun t k => XS.aloadN X0.here hx rfl (hb hby d1_17) rfl rfl k) ?_
      show G s₁ (mkF m 18 #[.val (.ref o0), .val (.int 3), .val (.int p2)] [(.ref o0)])
      refine step (fun t k => XS.iloadN X0.here hx rfl (hb hby d1_18) rfl k) ?_
      show G s₁ (mkF m 19 #[.val (.ref o0), .val (.int 3), .val (.int p2)] [(.int 3), (.ref o0)])
      have q4 := own_ldC X0 hx hZ e0 Va (j := (3 : Int32)) (v := (.int x3)) (by decide) (own_at (i := 3) rfl rfl) (g := (mkF m 19 #[.val (.ref o0), .val (.int 3), .val (.int p2)] [(.int 3), (.ref o0)])) rfl rfl (hb hby d1_19)
      refine step q4 ?_
      show G s₁ (mkF m 20 #[.val (.ref o0), .val (.int 3), .val (.int p2)] [(.int x3)])
      refine step (fun t k => XS.bipush X0.here hx rfl (hb hby d1_20) k) ?_
      show G s₁ (mkF m 22 #[.val (.ref o0), .val (.int 3), .val (.int p2)] [(.int 125), (.int x3)])
      by_cases hc5 : x3 = (125 : Int32)
      · skip
        refine step (fun t k => XS.icmpNo X0.here hx rfl (hb hby d1_22) rfl (teq hc5).2 k) ?_
        show G s₁ (mkF m 25 #[.val (.ref o0), .val (.int 3), .val (.int p2)] [])
        refine step (fun t k => XS.iconst X0.here hx rfl (hb hby d1_25) k) ?_
        show G s₁ (mkF m 26 #[.val (.ref o0), .val (.int 3), .val (.int p2)] [(.int (-1))])
        exact ret (v := some (.int (-1))) X0 (fun h => by rw [Bd.returns] at h; cases h) (fun fs hr => retI X0 hx Bd.returns (hb hby d1_26) hr) e0 ⟨by unfold f_v3; rw [if_neg hc1, if_neg hc3, if_pos hc5], N0, rfl⟩ (by decide) (by decide)
      · skip
        refine step (fun t k => XS.icmpYes X0.here hx rfl (pc0 := 22) (pc' := 27) rfl (hb hby d1_22) rfl (feq hc5).2 (by decide) (by decide) k) ?_
        show G s₁ (mkF m 27 #[.val (.ref o0), .val (.int 3), .val (.int p2)] [])
        refine step (fun t k => XS.iconst X0.here hx rfl (hb hby d1_27) k) ?_
        show G s₁ (mkF m 28 #[.val (.ref o0), .val (.int 3), .val (.int p2)] [(.int 0)])
        exact ret (v := some (.int 0)) X0 (fun h => by rw [Bd.returns] at h; cases h) (fun fs hr => retI X0 hx Bd.returns (hb hby d1_28) hr) e0 ⟨by unfold f_v3; rw [if_neg hc1, if_neg hc3, if_neg hc5], N0, rfl⟩ (by decide) (by decide)
abbrev rr_h3 : Room := { frames := 0, cells := 0, slots := 0, locals := 0 }
theorem ef_h3 (m : MethodId) (o0 : Addr) (p2 : Int32) (p3 : Int32) (p4 : Int32) : entryFrame m #[(.ref o0), (.int 3), (.int p2), (.int p3), (.int p4)] 5 = mkF m 0 #[.val (.ref o0), .val (.int 3), .val (.int p2), .val (.int p3), .val (.int p4)] [] := by first | (simp [entryFrame, mkF, argsToLocals, Value.category]; done) | rfl
def f_h3 (w_COMPACT_STRINGS : Int32) (w_SIOOBE_FORMATTER : Value) (o0 : Addr) (p2 : Int32) (p3 : Int32) (p4 : Int32) (ka : ClassId) (x0 : Int32) (x1 : Int32) (x2 : Int32) (x3 : Int32) (x4 : Int32) (x5 : Int32) : Int32 := (if (3 : Int32) < p2 then (0 : Int32) else (if (3 : Int32) < p3 then (if x3 = (125 : Int32) then (if p4 = (0 : Int32) then (1 : Int32) else (0 : Int32)) else (0 : Int32)) else (0 : Int32)))
def Q_h3 (Z : State) (w_COMPACT_STRINGS : Int32) (w_SIOOBE_FORMATTER : Value) (o0 : Addr) (p2 : Int32) (p3 : Int32) (p4 : Int32) (ka : ClassId) (x0 : Int32) (x1 : Int32) (x2 : Int32) (x3 : Int32) (x4 : Int32) (x5 : Int32) (h0 : Heap) (n0 : Nat) (v : Option Value) (h : Heap) (L : List Loc) : Prop := v = some (.int (f_h3 w_COMPACT_STRINGS w_SIOOBE_FORMATTER o0 p2 p3 p4 ka x0 x1 x2 x3 x4 x5)) ∧ Fr n0 L ∧ h = h0
set_option maxRecDepth 65536 in
set_option maxHeartbeats 40000000 in
theorem rm_h3 (l : Launch) (Z : State) (a0 : Array Value) (hw : ∀ d ∈ tables_1, d.before a0 Z = true) (ws : List Jvm.Cond) (w_COMPACT_STRINGS : Int32) (w_SIOOBE_FORMATTER : Value) (o0 : Addr) (p2 : Int32) (p3 : Int32) (p4 : Int32) (ka : ClassId) (x0 : Int32) (x1 : Int32) (x2 : Int32) (x3 : Int32) (x4 : Int32) (x5 : Int32) (h0 : Heap) (n0 : Nat) (Z0 : n0 ≤ h0.size) (ST : own_St Z w_COMPACT_STRINGS w_SIOOBE_FORMATTER) (O0 : Old Z n0 h0) (Va : Arv Z h0 o0 ka .char (6 : Int32) [(.int x0), (.int x1), (.int x2), (.int x3), (.int x4), (.int x5)] (.int 0)) :
    MetFree l y_2 (head1 (Jvm.Cond.code y_2 method_4_code 5 (some .boolean) :: ws) rr_h3) (fun a U => a = #[(.ref o0), (.int 3), (.int p2), (.int p3), (.int p4)] ∧ Z.Warmed39 U.vm ∧ U.heap = h0) (fun _ _ _ _ _ => True) (fun _ U o U' => ∃ v L, o = .returned v ∧ Q_h3 Z w_COMPACT_STRINGS w_SIOOBE_FORMATTER o0 p2 p3 p4 ka x0 x1 x2 x3 x4 x5 h0 n0 v U'.heap L ∧ FrameEnd U o U' L rr_h3.cells rr_h3.slots) := by
  refine MetFree.of_bodySF (plainFor_of_name pn_0) hisR ?_
  intro p e s m args below meth c s₁ Bd hml0 hP hK
  obtain ⟨rfl, hZ, hh⟩ := hP
  have hx := Bd.exec
  have hby := Bd.bytes
  have hml : c.maxLocals = 5 := hml0
  have hown : s.vm.findClass cn_0 = some m.cls := findClass_of_methodNamed Bd.named
  have hnm := (name_of_methodNamed Bd.named Bd.method).1
  have X0 : Stand p l e rr_h3 s m #[(.ref o0), (.int 3), (.int p2), (.int p3), (.int p4)] below meth c s₁ [] 0 0 := Stand.of_body Bd
  have e0 : s₁.heap = h0 := by rw [← hh, Bd.state]; rfl
  have N0 := Fr.nil n0
  obtain ⟨G, step, ret, fin⟩ := own_open (p := p) (l := l) (e := e) (R := rr_h3) (s := s) (m := m) (args := #[(.ref o0), (.int 3), (.int p2), (.int p3), (.int p4)]) (below := below) (meth := meth) (c := c) (rr_h3.cells) (rr_h3.slots) (Q_h3 Z w_COMPACT_STRINGS w_SIOOBE_FORMATTER o0 p2 p3 p4 ka x0 x1 x2 x3 x4 x5 h0 n0) Bd.notSynchronized
  refine fin (g := entryFrame m #[(.ref o0), (.int 3), (.int p2), (.int p3), (.int p4)] 5) ?_
  rw [ef_h3 m o0 p2 p3 p4]
  show G s₁ (mkF m 0 #[.val (.ref o0), .val (.int 3), .val (.int p2), .val (.int p3), .val (.int p4)] [])
  refine step (fun t k => XS.iloadN X0.here hx rfl (hb hby d2_0) rfl k) ?_
  show G s₁ (mkF m 1 #[.val (.ref o0), .val (.int 3), .val (.int p2), .val (.int p3), .val (.int p4)] [(.int 3)])
  refine step (fun t k => XS.iloadN X0.here hx rfl (hb hby d2_1) rfl k) ?_
  show G s₁ (mkF m 2 #[.val (.ref o0), .val (.int 3), .val (.int p2), .val (.int p3), .val (.int p4)] [(.int p2), (.int 3)])
  by_cases hc1 : (3 : Int32) < p2
  · skip
    refine step (fun t k => XS.icmpYes X0.here hx rfl (pc0 := 2) (pc' := 27) rfl (hb hby d2_2) rfl (tlt hc1).1 (by decide) (by decide) k) ?_
    show G s₁ (mkF m 27 #[.val (.ref o0), .val (.int 3), .val (.int p2), .val (.int p3), .val (.int p4)] [])
    refine step (fun t k => XS.iconst X0.here hx rfl (hb hby d2_27) k) ?_
    show G s₁ (mkF m 28 #[.val (.ref o0), .val (.int 3), .val (.int p2), .val (.int p3), .val (.int p4)] [(.int 0)])
    exact ret (v := some (.int 0)) X0 (fun h => by rw [Bd.returns] at h; cases h) (fun fs hr => retN X0 hx (t := .boolean) Bd.returns (by simp) (hb hby d2_28) hr) e0 ⟨by unfold f_h3; rw [if_pos hc1], N0, rfl⟩ (by decide) (by decide)
  · skip
    refine step (fun t k => XS.icmpNo X0.here hx rfl (hb hby d2_2) rfl (flt hc1).1 k) ?_
    show G s₁ (mkF m 5 #[.val (.ref o0), .val (.int 3), .val (.int p2), .val (.int p3), .val (.int p4)] [])
    refine step (fun t k => XS.iloadN X0.here hx rfl (hb hby d2_5) rfl k) ?_
    show G s₁ (mkF m 6 #[.val (.ref o0), .val (.int 3), .val (.int p2), .val (.int p3), .val (.int p4)] [(.int 3)])
    refine step (fun t k => XS.iloadN X0.here hx rfl (hb hby d2_6) rfl k) ?_
    show G s₁ (mkF m 7 #[.val (.ref o0), .val (.int 3), .val (.int p2), .val (.int p3), .val (.int p4)] [(.int p3), (.int 3)])
    by_cases hc2 : (3 : Int32) < p3
    · skip
      refine step (fun t k => XS.icmpNo X0.here hx rfl (hb hby d2_7) rfl (tlt hc2).2.1 k) ?_
      show G s₁ (mkF m 10 #[.val (.ref o0), .val (.int 3), .val (.int p2), .val (.int p3), .val (.int p4)] [])
      refine step (fun t k => XS.aloadN X0.here hx rfl (hb hby d2_10) rfl rfl k) ?_
      show G s₁ (mkF m 11 #[.val (.ref o0), .val (.int 3), .val (.int p2), .val (.int p3), .val (.int p4)] [(.ref o0)])
      refine step (fun t k => XS.iloadN X0.here hx rfl (hb hby d2_11) rfl k) ?_
      show G s₁ (mkF m 12 #[.val (.ref o0), .val (.int 3), .val (.int p2), .val (.int p3), .val (.int p4)] [(.int 3), (.ref o0)])
      have q3 := own_ldC X0 hx hZ e0 Va (j := (3 : Int32)) (v := (.int x3)) (by decide) (own_at (i := 3) rfl rfl) (g := (mkF m 12 #[.val (.ref o0), .val (.int 3), .val (.int p2), .val (.int p3), .val (.int p4)] [(.int 3), (.ref o0)])) rfl rfl (hb hby d2_12)
      refine step q3 ?_
      show G s₁ (mkF m 13 #[.val (.ref o0), .val (.int 3), .val (.int p2), .val (.int p3), .val (.int p4)] [(.int x3)])
      refine step (fun t k => XS.bipush X0.here hx rfl (hb hby d2_13) k) ?_
      show G s₁ (mkF m 15 #[.val (.ref o0), .val (.int 3), .val (.int p2), .val (.int p3), .val (.int p4)] [(.int 125), (.int x3)])
      by_cases hc4 : x3 = (125 : Int32)
      · skip
        refine step (fun t k => XS.icmpNo X0.here hx rfl (hb hby d2_15) rfl (teq hc4).2 k) ?_
        show G s₁ (mkF m 18 #[.val (.ref o0), .val (.int 3), .val (.int p2), .val (.int p3), .val (.int p4)] [])
        refine step (fun t k => XS.iload X0.here hx rfl (hb hby d2_18) rfl k) ?_
        show G s₁ (mkF m 20 #[.val (.ref o0), .val (.int 3), .val (.int p2), .val (.int p3), .val (.int p4)] [(.int p4)])
        by_cases hc5 : p4 = (0 : Int32)
        · skip
          refine step (fun t k => XS.ifNo X0.here hx rfl (hb hby d2_20) rfl ((if0 _ _).trans (teq hc5).2) k) ?_
          show G s₁ (mkF m 23 #[.val (.ref o0), .val (.int 3), .val (.int p2), .val (.int p3), .val (.int p4)] [])
          refine step (fun t k => XS.iconst X0.here hx rfl (hb hby d2_23) k) ?_
          show G s₁ (mkF m 24 #[.val (.ref o0), .val (.int 3), .val (.int p2), .val (.int p3), .val (.int p4)] [(.int 1)])
          refine step (fun t k => XS.goto X0.here hx rfl (pc0 := 24) (pc' := 28) rfl (hb hby d2_24) (by decide) (by decide) k) ?_
          show G s₁ (mkF m 28 #[.val (.ref o0), .val (.int 3), .val (.int p2), .val (.int p3), .val (.int p4)] [(.int 1)])
          exact ret (v := some (.int 1)) X0 (fun h => by rw [Bd.returns] at h; cases h) (fun fs hr => retN X0 hx (t := .boolean) Bd.returns (by simp) (hb hby d2_28) hr) e0 ⟨by unfold f_h3; rw [if_neg hc1, if_pos hc2, if_pos hc4, if_pos hc5], N0, rfl⟩ (by decide) (by decide)
        · skip
          refine step (fun t k => XS.ifYes X0.here hx rfl (pc0 := 20) (pc' := 27) rfl (hb hby d2_20) rfl ((if0 _ _).trans (feq hc5).2) (by decide) (by decide) k) ?_
          show G s₁ (mkF m 27 #[.val (.ref o0), .val (.int 3), .val (.int p2), .val (.int p3), .val (.int p4)] [])
          refine step (fun t k => XS.iconst X0.here hx rfl (hb hby d2_27) k) ?_
          show G s₁ (mkF m 28 #[.val (.ref o0), .val (.int 3), .val (.int p2), .val (.int p3), .val (.int p4)] [(.int 0)])
          exact ret (v := some (.int 0)) X0 (fun h => by rw [Bd.returns] at h; cases h) (fun fs hr => retN X0 hx (t := .boolean) Bd.returns (by simp) (hb hby d2_28) hr) e0 ⟨by unfold f_h3; rw [if_neg hc1, if_pos hc2, if_pos hc4, if_neg hc5], N0, rfl⟩ (by decide) (by decide)
      · skip
        refine step (fun t k => XS.icmpYes X0.here hx rfl (pc0 := 15) (pc' := 27) rfl (hb hby d2_15) rfl (feq hc4).2 (by decide) (by decide) k) ?_
        show G s₁ (mkF m 27 #[.val (.ref o0), .val (.int 3), .val (.int p2), .val (.int p3), .val (.int p4)] [])
        refine step (fun t k => XS.iconst X0.here hx rfl (hb hby d2_27) k) ?_
        show G s₁ (mkF m 28 #[.val (.ref o0), .val (.int 3), .val (.int p2), .val (.int p3), .val (.int p4)] [(.int 0)])
        exact ret (v := some (.int 0)) X0 (fun h => by rw [Bd.returns] at h; cases h) (fun fs hr => retN X0 hx (t := .boolean) Bd.returns (by simp) (hb hby d2_28) hr) e0 ⟨by unfold f_h3; rw [if_neg hc1, if_pos hc2, if_neg hc4], N0, rfl⟩ (by decide) (by decide)
    · skip
      refine step (fun t k => XS.icmpYes X0.here hx rfl (pc0 := 7) (pc' := 27) rfl (hb hby d2_7) rfl (flt hc2).2.1 (by decide) (by decide) k) ?_
      show G s₁ (mkF m 27 #[.val (.ref o0), .val (.int 3), .val (.int p2), .val (.int p3), .val (.int p4)] [])
      refine step (fun t k => XS.iconst X0.here hx rfl (hb hby d2_27) k) ?_
      show G s₁ (mkF m 28 #[.val (.ref o0), .val (.int 3), .val (.int p2), .val (.int p3), .val (.int p4)] [(.int 0)])
      exact ret (v := some (.int 0)) X0 (fun h => by rw [Bd.returns] at h; cases h) (fun fs hr => retN X0 hx (t := .boolean) Bd.returns (by simp) (hb hby d2_28) hr) e0 ⟨by unfold f_h3; rw [if_neg hc1, if_neg hc2], N0, rfl⟩ (by decide) (by decide)
abbrev rr_v4 : Room := { frames := 0, cells := 0, slots := 0, locals := 0 }
theorem ef_v4 (m : MethodId) (o0 : Addr) (p2 : Int32) : entryFrame m #[(.ref o0), (.int 4), (.int p2)] 3 = mkF m 0 #[.val (.ref o0), .val (.int 4), .val (.int p2)] [] := by first | (simp [entryFrame, mkF, argsToLocals, Value.category]; done) | rfl
def f_v4 (w_COMPACT_STRINGS : Int32) (w_SIOOBE_FORMATTER : Value) (o0 : Addr) (p2 : Int32) (ka : ClassId) (x0 : Int32) (x1 : Int32) (x2 : Int32) (x3 : Int32) (x4 : Int32) (x5 : Int32) : Int32 := (if (4 : Int32) < p2 then (0 : Int32) else (if x4 = (123 : Int32) then (1 : Int32) else (if x4 = (125 : Int32) then (-1 : Int32) else (0 : Int32))))
def Q_v4 (Z : State) (w_COMPACT_STRINGS : Int32) (w_SIOOBE_FORMATTER : Value) (o0 : Addr) (p2 : Int32) (ka : ClassId) (x0 : Int32) (x1 : Int32) (x2 : Int32) (x3 : Int32) (x4 : Int32) (x5 : Int32) (h0 : Heap) (n0 : Nat) (v : Option Value) (h : Heap) (L : List Loc) : Prop := v = some (.int (f_v4 w_COMPACT_STRINGS w_SIOOBE_FORMATTER o0 p2 ka x0 x1 x2 x3 x4 x5)) ∧ Fr n0 L ∧ h = h0
set_option maxRecDepth 65536 in
set_option maxHeartbeats 40000000 in
theorem rm_v4 (l : Launch) (Z : State) (a0 : Array Value) (hw : ∀ d ∈ tables_1, d.before a0 Z = true) (ws : List Jvm.Cond) (w_COMPACT_STRINGS : Int32) (w_SIOOBE_FORMATTER : Value) (o0 : Addr) (p2 : Int32) (ka : ClassId) (x0 : Int32) (x1 : Int32) (x2 : Int32) (x3 : Int32) (x4 : Int32) (x5 : Int32) (h0 : Heap) (n0 : Nat) (Z0 : n0 ≤ h0.size) (ST : own_St Z w_COMPACT_STRINGS w_SIOOBE_FORMATTER) (O0 : Old Z n0 h0) (Va : Arv Z h0 o0 ka .char (6 : Int32) [(.int x0), (.int x1), (.int x2), (.int x3), (.int x4), (.int x5)] (.int 0)) :
    MetFree l y_1 (head1 (Jvm.Cond.code y_1 method_3_code 3 (some .int) :: ws) rr_v4) (fun a U => a = #[(.ref o0), (.int 4), (.int p2)] ∧ Z.Warmed39 U.vm ∧ U.heap = h0) (fun _ _ _ _ _ => True) (fun _ U o U' => ∃ v L, o = .returned v ∧ Q_v4 Z w_COMPACT_STRINGS w_SIOOBE_FORMATTER o0 p2 ka x0 x1 x2 x3 x4 x5 h0 n0 v U'.heap L ∧ FrameEnd U o U' L rr_v4.cells rr_v4.slots) := by
  refine MetFree.of_bodySF (plainFor_of_name pn_0) hisR ?_
  intro p e s m args below meth c s₁ Bd hml0 hP hK
  obtain ⟨rfl, hZ, hh⟩ := hP
  have hx := Bd.exec
  have hby := Bd.bytes
  have hml : c.maxLocals = 3 := hml0
  have hown : s.vm.findClass cn_0 = some m.cls := findClass_of_methodNamed Bd.named
  have hnm := (name_of_methodNamed Bd.named Bd.method).1
  have X0 : Stand p l e rr_v4 s m #[(.ref o0), (.int 4), (.int p2)] below meth c s₁ [] 0 0 := Stand.of_body Bd
  have e0 : s₁.heap = h0 := by rw [← hh, Bd.state]; rfl
  have N0 := Fr.nil n0
  obtain ⟨G, step, ret, fin⟩ := own_open (p := p) (l := l) (e := e) (R := rr_v4) (s := s) (m := m) (args := #[(.ref o0), (.int 4), (.int p2)]) (below := below) (meth := meth) (c := c) (rr_v4.cells) (rr_v4.slots) (Q_v4 Z w_COMPACT_STRINGS w_SIOOBE_FORMATTER o0 p2 ka x0 x1 x2 x3 x4 x5 h0 n0) Bd.notSynchronized
  refine fin (g := entryFrame m #[(.ref o0), (.int 4), (.int p2)] 3) ?_
  rw [ef_v4 m o0 p2]
  show G s₁ (mkF m 0 #[.val (.ref o0), .val (.int 4), .val (.int p2)] [])
  refine step (fun t k => XS.iloadN X0.here hx rfl (hb hby d1_0) rfl k) ?_
  show G s₁ (mkF m 1 #[.val (.ref o0), .val (.int 4), .val (.int p2)] [(.int 4)])
  refine step (fun t k => XS.iloadN X0.here hx rfl (hb hby d1_1) rfl k) ?_
  show G s₁ (mkF m 2 #[.val (.ref o0), .val (.int 4), .val (.int p2)] [(.int p2), (.int 4)])
  by_cases hc1 : (4 : Int32) < p2
  · skip
    refine step (fun t k => XS.icmpNo X0.here hx rfl (hb hby d1_2) rfl (tlt hc1).2.1 k) ?_
    show G s₁ (mkF m 5 #[.val (.ref o0), .val (.int 4), .val (.int p2)] [])
    refine step (fun t k => XS.iconst X0.here hx rfl (hb hby d1_5) k) ?_
    show G s₁ (mkF m 6 #[.val (.ref o0), .val (.int 4), .val (.int p2)] [(.int 0)])
    exact ret (v := some (.int 0)) X0 (fun h => by rw [Bd.returns] at h; cases h) (fun fs hr => retI X0 hx Bd.returns (hb hby d1_6) hr) e0 ⟨by unfold f_v4; rw [if_pos hc1], N0, rfl⟩ (by decide) (by decide)
  · skip
    refine step (fun t k => XS.icmpYes X0.here hx rfl (pc0 := 2) (pc' := 7) rfl (hb hby d1_2) rfl (flt hc1).2.1 (by decide) (by decide) k) ?_
    show G s₁ (mkF m 7 #[.val (.ref o0), .val (.int 4), .val (.int p2)] [])
    refine step (fun t k => XS.aloadN X0.here hx rfl (hb hby d1_7) rfl rfl k) ?_
    show G s₁ (mkF m 8 #[.val (.ref o0), .val (.int 4), .val (.int p2)] [(.ref o0)])
    refine step (fun t k => XS.iloadN X0.here hx rfl (hb hby d1_8) rfl k) ?_
    show G s₁ (mkF m 9 #[.val (.ref o0), .val (.int 4), .val (.int p2)] [(.int 4), (.ref o0)])
    have q2 := own_ldC X0 hx hZ e0 Va (j := (4 : Int32)) (v := (.int x4)) (by decide) (own_at (i := 4) rfl rfl) (g := (mkF m 9 #[.val (.ref o0), .val (.int 4), .val (.int p2)] [(.int 4), (.ref o0)])) rfl rfl (hb hby d1_9)
    refine step q2 ?_
    show G s₁ (mkF m 10 #[.val (.ref o0), .val (.int 4), .val (.int p2)] [(.int x4)])
    refine step (fun t k => XS.bipush X0.here hx rfl (hb hby d1_10) k) ?_
    show G s₁ (mkF m 12 #[.val (.ref o0), .val (.int 4), .val (.int p2)] [(.int 123), (.int x4)])
    by_cases hc3 : x4 = (123 : Int32)
    · skip
      refine step (fun t k => XS.icmpNo X0.here hx rfl (hb hby d1_12) rfl (teq hc3).2 k) ?_
      show G s₁ (mkF m 15 #[.val (.ref o0), .val (.int 4), .val (.int p2)] [])
      refine step (fun t k => XS.iconst X0.here hx rfl (hb hby d1_15) k) ?_
      show G s₁ (mkF m 16 #[.val (.ref o0), .val (.int 4), .val (.int p2)] [(.int 1)])
      exact ret (v := some (.int 1)) X0 (fun h => by rw [Bd.returns] at h; cases h) (fun fs hr => retI X0 hx Bd.returns (hb hby d1_16) hr) e0 ⟨by unfold f_v4; rw [if_neg hc1, if_pos hc3], N0, rfl⟩ (by decide) (by decide)
    · skip
      refine step (fun t k => XS.icmpYes X0.here hx rfl (pc0 := 12) (pc' := 17) rfl (hb hby d1_12) rfl (feq hc3).2 (by decide) (by decide) k) ?_
      show G s₁ (mkF m 17 #[.val (.ref o0), .val (.int 4), .val (.int p2)] [])
      refine step (fun t k => XS.aloadN X0.here hx rfl (hb hby d1_17) rfl rfl k) ?_
      show G s₁ (mkF m 18 #[.val (.ref o0), .val (.int 4), .val (.int p2)] [(.ref o0)])
      refine step (fun t k => XS.iloadN X0.here hx rfl (hb hby d1_18) rfl k) ?_
      show G s₁ (mkF m 19 #[.val (.ref o0), .val (.int 4), .val (.int p2)] [(.int 4), (.ref o0)])
      have q4 := own_ldC X0 hx hZ e0 Va (j := (4 : Int32)) (v := (.int x4)) (by decide) (own_at (i := 4) rfl rfl) (g := (mkF m 19 #[.val (.ref o0), .val (.int 4), .val (.int p2)] [(.int 4), (.ref o0)])) rfl rfl (hb hby d1_19)
      refine step q4 ?_
      show G s₁ (mkF m 20 #[.val (.ref o0), .val (.int 4), .val (.int p2)] [(.int x4)])
      refine step (fun t k => XS.bipush X0.here hx rfl (hb hby d1_20) k) ?_
      show G s₁ (mkF m 22 #[.val (.ref o0), .val (.int 4), .val (.int p2)] [(.int 125), (.int x4)])
      by_cases hc5 : x4 = (125 : Int32)
      · skip
        refine step (fun t k => XS.icmpNo X0.here hx rfl (hb hby d1_22) rfl (teq hc5).2 k) ?_
        show G s₁ (mkF m 25 #[.val (.ref o0), .val (.int 4), .val (.int p2)] [])
        refine step (fun t k => XS.iconst X0.here hx rfl (hb hby d1_25) k) ?_
        show G s₁ (mkF m 26 #[.val (.ref o0), .val (.int 4), .val (.int p2)] [(.int (-1))])
        exact ret (v := some (.int (-1))) X0 (fun h => by rw [Bd.returns] at h; cases h) (fun fs hr => retI X0 hx Bd.returns (hb hby d1_26) hr) e0 ⟨by unfold f_v4; rw [if_neg hc1, if_neg hc3, if_pos hc5], N0, rfl⟩ (by decide) (by decide)
      · skip
        refine step (fun t k => XS.icmpYes X0.here hx rfl (pc0 := 22) (pc' := 27) rfl (hb hby d1_22) rfl (feq hc5).2 (by decide) (by decide) k) ?_
        show G s₁ (mkF m 27 #[.val (.ref o0), .val (.int 4), .val (.int p2)] [])
        refine step (fun t k => XS.iconst X0.here hx rfl (hb hby d1_27) k) ?_
        show G s₁ (mkF m 28 #[.val (.ref o0), .val (.int 4), .val (.int p2)] [(.int 0)])
        exact ret (v := some (.int 0)) X0 (fun h => by rw [Bd.returns] at h; cases h) (fun fs hr => retI X0 hx Bd.returns (hb hby d1_28) hr) e0 ⟨by unfold f_v4; rw [if_neg hc1, if_neg hc3, if_neg hc5], N0, rfl⟩ (by decide) (by decide)
abbrev rr_h4 : Room := { frames := 0, cells := 0, slots := 0, locals := 0 }
theorem ef_h4 (m : MethodId) (o0 : Addr) (p2 : Int32) (p3 : Int32) (p4 : Int32) : entryFrame m #[(.ref o0), (.int 4), (.int p2), (.int p3), (.int p4)] 5 = mkF m 0 #[.val (.ref o0), .val (.int 4), .val (.int p2), .val (.int p3), .val (.int p4)] [] := by first | (simp [entryFrame, mkF, argsToLocals, Value.category]; done) | rfl
def f_h4 (w_COMPACT_STRINGS : Int32) (w_SIOOBE_FORMATTER : Value) (o0 : Addr) (p2 : Int32) (p3 : Int32) (p4 : Int32) (ka : ClassId) (x0 : Int32) (x1 : Int32) (x2 : Int32) (x3 : Int32) (x4 : Int32) (x5 : Int32) : Int32 := (if (4 : Int32) < p2 then (0 : Int32) else (if (4 : Int32) < p3 then (if x4 = (125 : Int32) then (if p4 = (0 : Int32) then (1 : Int32) else (0 : Int32)) else (0 : Int32)) else (0 : Int32)))
def Q_h4 (Z : State) (w_COMPACT_STRINGS : Int32) (w_SIOOBE_FORMATTER : Value) (o0 : Addr) (p2 : Int32) (p3 : Int32) (p4 : Int32) (ka : ClassId) (x0 : Int32) (x1 : Int32) (x2 : Int32) (x3 : Int32) (x4 : Int32) (x5 : Int32) (h0 : Heap) (n0 : Nat) (v : Option Value) (h : Heap) (L : List Loc) : Prop := v = some (.int (f_h4 w_COMPACT_STRINGS w_SIOOBE_FORMATTER o0 p2 p3 p4 ka x0 x1 x2 x3 x4 x5)) ∧ Fr n0 L ∧ h = h0
set_option maxRecDepth 65536 in
set_option maxHeartbeats 40000000 in
theorem rm_h4 (l : Launch) (Z : State) (a0 : Array Value) (hw : ∀ d ∈ tables_1, d.before a0 Z = true) (ws : List Jvm.Cond) (w_COMPACT_STRINGS : Int32) (w_SIOOBE_FORMATTER : Value) (o0 : Addr) (p2 : Int32) (p3 : Int32) (p4 : Int32) (ka : ClassId) (x0 : Int32) (x1 : Int32) (x2 : Int32) (x3 : Int32) (x4 : Int32) (x5 : Int32) (h0 : Heap) (n0 : Nat) (Z0 : n0 ≤ h0.size) (ST : own_St Z w_COMPACT_STRINGS w_SIOOBE_FORMATTER) (O0 : Old Z n0 h0) (Va : Arv Z h0 o0 ka .char (6 : Int32) [(.int x0), (.int x1), (.int x2), (.int x3), (.int x4), (.int x5)] (.int 0)) :
    MetFree l y_2 (head1 (Jvm.Cond.code y_2 method_4_code 5 (some .boolean) :: ws) rr_h4) (fun a U => a = #[(.ref o0), (.int 4), (.int p2), (.int p3), (.int p4)] ∧ Z.Warmed39 U.vm ∧ U.heap = h0) (fun _ _ _ _ _ => True) (fun _ U o U' => ∃ v L, o = .returned v ∧ Q_h4 Z w_COMPACT_STRINGS w_SIOOBE_FORMATTER o0 p2 p3 p4 ka x0 x1 x2 x3 x4 x5 h0 n0 v U'.heap L ∧ FrameEnd U o U' L rr_h4.cells rr_h4.slots) := by
  refine MetFree.of_bodySF (plainFor_of_name pn_0) hisR ?_
  intro p e s m args below meth c s₁ Bd hml0 hP hK
  obtain ⟨rfl, hZ, hh⟩ := hP
  have hx := Bd.exec
  have hby := Bd.bytes
  have hml : c.maxLocals = 5 := hml0
  have hown : s.vm.findClass cn_0 = some m.cls := findClass_of_methodNamed Bd.named
  have hnm := (name_of_methodNamed Bd.named Bd.method).1
  have X0 : Stand p l e rr_h4 s m #[(.ref o0), (.int 4), (.int p2), (.int p3), (.int p4)] below meth c s₁ [] 0 0 := Stand.of_body Bd
  have e0 : s₁.heap = h0 := by rw [← hh, Bd.state]; rfl
  have N0 := Fr.nil n0
  obtain ⟨G, step, ret, fin⟩ := own_open (p := p) (l := l) (e := e) (R := rr_h4) (s := s) (m := m) (args := #[(.ref o0), (.int 4), (.int p2), (.int p3), (.int p4)]) (below := below) (meth := meth) (c := c) (rr_h4.cells) (rr_h4.slots) (Q_h4 Z w_COMPACT_STRINGS w_SIOOBE_FORMATTER o0 p2 p3 p4 ka x0 x1 x2 x3 x4 x5 h0 n0) Bd.notSynchronized
  refine fin (g := entryFrame m #[(.ref o0), (.int 4), (.int p2), (.int p3), (.int p4)] 5) ?_
  rw [ef_h4 m o0 p2 p3 p4]
  show G s₁ (mkF m 0 #[.val (.ref o0), .val (.int 4), .val (.int p2), .val (.int p3), .val (.int p4)] [])
  refine step (fun t k => XS.iloadN X0.here hx rfl (hb hby d2_0) rfl k) ?_
  show G s₁ (mkF m 1 #[.val (.ref o0), .val (.int 4), .val (.int p2), .val (.int p3), .val (.int p4)] [(.int 4)])
  refine step (fun t k => XS.iloadN X0.here hx rfl (hb hby d2_1) rfl k) ?_
  show G s₁ (mkF m 2 #[.val (.ref o0), .val (.int 4), .val (.int p2), .val (.int p3), .val (.int p4)] [(.int p2), (.int 4)])
  by_cases hc1 : (4 : Int32) < p2
  · skip
    refine step (fun t k => XS.icmpYes X0.here hx rfl (pc0 := 2) (pc' := 27) rfl (hb hby d2_2) rfl (tlt hc1).1 (by decide) (by decide) k) ?_
    show G s₁ (mkF m 27 #[.val (.ref o0), .val (.int 4), .val (.int p2), .val (.int p3), .val (.int p4)] [])
    refine step (fun t k => XS.iconst X0.here hx rfl (hb hby d2_27) k) ?_
    show G s₁ (mkF m 28 #[.val (.ref o0), .val (.int 4), .val (.int p2), .val (.int p3), .val (.int p4)] [(.int 0)])
    exact ret (v := some (.int 0)) X0 (fun h => by rw [Bd.returns] at h; cases h) (fun fs hr => retN X0 hx (t := .boolean) Bd.returns (by simp) (hb hby d2_28) hr) e0 ⟨by unfold f_h4; rw [if_pos hc1], N0, rfl⟩ (by decide) (by decide)
  · skip
    refine step (fun t k => XS.icmpNo X0.here hx rfl (hb hby d2_2) rfl (flt hc1).1 k) ?_
    show G s₁ (mkF m 5 #[.val (.ref o0), .val (.int 4), .val (.int p2), .val (.int p3), .val (.int p4)] [])
    refine step (fun t k => XS.iloadN X0.here hx rfl (hb hby d2_5) rfl k) ?_
    show G s₁ (mkF m 6 #[.val (.ref o0), .val (.int 4), .val (.int p2), .val (.int p3), .val (.int p4)] [(.int 4)])
    refine step (fun t k => XS.iloadN X0.here hx rfl (hb hby d2_6) rfl k) ?_
    show G s₁ (mkF m 7 #[.val (.ref o0), .val (.int 4), .val (.int p2), .val (.int p3), .val (.int p4)] [(.int p3), (.int 4)])
    by_cases hc2 : (4 : Int32) < p3
    · skip
      refine step (fun t k => XS.icmpNo X0.here hx rfl (hb hby d2_7) rfl (tlt hc2).2.1 k) ?_
      show G s₁ (mkF m 10 #[.val (.ref o0), .val (.int 4), .val (.int p2), .val (.int p3), .val (.int p4)] [])
      refine step (fun t k => XS.aloadN X0.here hx rfl (hb hby d2_10) rfl rfl k) ?_
      show G s₁ (mkF m 11 #[.val (.ref o0), .val (.int 4), .val (.int p2), .val (.int p3), .val (.int p4)] [(.ref o0)])
      refine step (fun t k => XS.iloadN X0.here hx rfl (hb hby d2_11) rfl k) ?_
      show G s₁ (mkF m 12 #[.val (.ref o0), .val (.int 4), .val (.int p2), .val (.int p3), .val (.int p4)] [(.int 4), (.ref o0)])
      have q3 := own_ldC X0 hx hZ e0 Va (j := (4 : Int32)) (v := (.int x4)) (by decide) (own_at (i := 4) rfl rfl) (g := (mkF m 12 #[.val (.ref o0), .val (.int 4), .val (.int p2), .val (.int p3), .val (.int p4)] [(.int 4), (.ref o0)])) rfl rfl (hb hby d2_12)
      refine step q3 ?_
      show G s₁ (mkF m 13 #[.val (.ref o0), .val (.int 4), .val (.int p2), .val (.int p3), .val (.int p4)] [(.int x4)])
      refine step (fun t k => XS.bipush X0.here hx rfl (hb hby d2_13) k) ?_
      show G s₁ (mkF m 15 #[.val (.ref o0), .val (.int 4), .val (.int p2), .val (.int p3), .val (.int p4)] [(.int 125), (.int x4)])
      by_cases hc4 : x4 = (125 : Int32)
      · skip
        refine step (fun t k => XS.icmpNo X0.here hx rfl (hb hby d2_15) rfl (teq hc4).2 k) ?_
        show G s₁ (mkF m 18 #[.val (.ref o0), .val (.int 4), .val (.int p2), .val (.int p3), .val (.int p4)] [])
        refine step (fun t k => XS.iload X0.here hx rfl (hb hby d2_18) rfl k) ?_
        show G s₁ (mkF m 20 #[.val (.ref o0), .val (.int 4), .val (.int p2), .val (.int p3), .val (.int p4)] [(.int p4)])
        by_cases hc5 : p4 = (0 : Int32)
        · skip
          refine step (fun t k => XS.ifNo X0.here hx rfl (hb hby d2_20) rfl ((if0 _ _).trans (teq hc5).2) k) ?_
          show G s₁ (mkF m 23 #[.val (.ref o0), .val (.int 4), .val (.int p2), .val (.int p3), .val (.int p4)] [])
          refine step (fun t k => XS.iconst X0.here hx rfl (hb hby d2_23) k) ?_
          show G s₁ (mkF m 24 #[.val (.ref o0), .val (.int 4), .val (.int p2), .val (.int p3), .val (.int p4)] [(.int 1)])
          refine step (fun t k => XS.goto X0.here hx rfl (pc0 := 24) (pc' := 28) rfl (hb hby d2_24) (by decide) (by decide) k) ?_
          show G s₁ (mkF m 28 #[.val (.ref o0), .val (.int 4), .val (.int p2), .val (.int p3), .val (.int p4)] [(.int 1)])
          exact ret (v := some (.int 1)) X0 (fun h => by rw [Bd.returns] at h; cases h) (fun fs hr => retN X0 hx (t := .boolean) Bd.returns (by simp) (hb hby d2_28) hr) e0 ⟨by unfold f_h4; rw [if_neg hc1, if_pos hc2, if_pos hc4, if_pos hc5], N0, rfl⟩ (by decide) (by decide)
        · skip
          refine step (fun t k => XS.ifYes X0.here hx rfl (pc0 := 20) (pc' := 27) rfl (hb hby d2_20) rfl ((if0 _ _).trans (feq hc5).2) (by decide) (by decide) k) ?_
          show G s₁ (mkF m 27 #[.val (.ref o0), .val (.int 4), .val (.int p2), .val (.int p3), .val (.int p4)] [])
          refine step (fun t k => XS.iconst X0.here hx rfl (hb hby d2_27) k) ?_
          show G s₁ (mkF m 28 #[.val (.ref o0), .val (.int 4), .val (.int p2), .val (.int p3), .val (.int p4)] [(.int 0)])
          exact ret (v := some (.int 0)) X0 (fun h => by rw [Bd.returns] at h; cases h) (fun fs hr => retN X0 hx (t := .boolean) Bd.returns (by simp) (hb hby d2_28) hr) e0 ⟨by unfold f_h4; rw [if_neg hc1, if_pos hc2, if_pos hc4, if_neg hc5], N0, rfl⟩ (by decide) (by decide)
      · skip
        refine step (fun t k => XS.icmpYes X0.here hx rfl (pc0 := 15) (pc' := 27) rfl (hb hby d2_15) rfl (feq hc4).2 (by decide) (by decide) k) ?_
        show G s₁ (mkF m 27 #[.val (.ref o0), .val (.int 4), .val (.int p2), .val (.int p3), .val (.int p4)] [])
        refine step (fun t k => XS.iconst X0.here hx rfl (hb hby d2_27) k) ?_
        show G s₁ (mkF m 28 #[.val (.ref o0), .val (.int 4), .val (.int p2), .val (.int p3), .val (.int p4)] [(.int 0)])
        exact ret (v := some (.int 0)) X0 (fun h => by rw [Bd.returns] at h; cases h) (fun fs hr => retN X0 hx (t := .boolean) Bd.returns (by simp) (hb hby d2_28) hr) e0 ⟨by unfold f_h4; rw [if_neg hc1, if_pos hc2, if_neg hc4], N0, rfl⟩ (by decide) (by decide)
    · skip
      refine step (fun t k => XS.icmpYes X0.here hx rfl (pc0 := 7) (pc' := 27) rfl (hb hby d2_7) rfl (flt hc2).2.1 (by decide) (by decide) k) ?_
      show G s₁ (mkF m 27 #[.val (.ref o0), .val (.int 4), .val (.int p2), .val (.int p3), .val (.int p4)] [])
      refine step (fun t k => XS.iconst X0.here hx rfl (hb hby d2_27) k) ?_
      show G s₁ (mkF m 28 #[.val (.ref o0), .val (.int 4), .val (.int p2), .val (.int p3), .val (.int p4)] [(.int 0)])
      exact ret (v := some (.int 0)) X0 (fun h => by rw [Bd.returns] at h; cases h) (fun fs hr => retN X0 hx (t := .boolean) Bd.returns (by simp) (hb hby d2_28) hr) e0 ⟨by unfold f_h4; rw [if_neg hc1, if_neg hc2], N0, rfl⟩ (by decide) (by decide)
abbrev rr_v5 : Room := { frames := 0, cells := 0, slots := 0, locals := 0 }
theorem ef_v5 (m : MethodId) (o0 : Addr) (p2 : Int32) : entryFrame m #[(.ref o0), (.int 5), (.int p2)] 3 = mkF m 0 #[.val (.ref o0), .val (.int 5), .val (.int p2)] [] := by first | (simp [entryFrame, mkF, argsToLocals, Value.category]; done) | rfl
def f_v5 (w_COMPACT_STRINGS : Int32) (w_SIOOBE_FORMATTER : Value) (o0 : Addr) (p2 : Int32) (ka : ClassId) (x0 : Int32) (x1 : Int32) (x2 : Int32) (x3 : Int32) (x4 : Int32) (x5 : Int32) : Int32 := (if (5 : Int32) < p2 then (0 : Int32) else (if x5 = (123 : Int32) then (1 : Int32) else (if x5 = (125 : Int32) then (-1 : Int32) else (0 : Int32))))
def Q_v5 (Z : State) (w_COMPACT_STRINGS : Int32) (w_SIOOBE_FORMATTER : Value) (o0 : Addr) (p2 : Int32) (ka : ClassId) (x0 : Int32) (x1 : Int32) (x2 : Int32) (x3 : Int32) (x4 : Int32) (x5 : Int32) (h0 : Heap) (n0 : Nat) (v : Option Value) (h : Heap) (L : List Loc) : Prop := v = some (.int (f_v5 w_COMPACT_STRINGS w_SIOOBE_FORMATTER o0 p2 ka x0 x1 x2 x3 x4 x5)) ∧ Fr n0 L ∧ h = h0
set_option maxRecDepth 65536 in
set_option maxHeartbeats 40000000 in
theorem rm_v5 (l : Launch) (Z : State) (a0 : Array Value) (hw : ∀ d ∈ tables_1, d.before a0 Z = true) (ws : List Jvm.Cond) (w_COMPACT_STRINGS : Int32) (w_SIOOBE_FORMATTER : Value) (o0 : Addr) (p2 : Int32) (ka : ClassId) (x0 : Int32) (x1 : Int32) (x2 : Int32) (x3 : Int32) (x4 : Int32) (x5 : Int32) (h0 : Heap) (n0 : Nat) (Z0 : n0 ≤ h0.size) (ST : own_St Z w_COMPACT_STRINGS w_SIOOBE_FORMATTER) (O0 : Old Z n0 h0) (Va : Arv Z h0 o0 ka .char (6 : Int32) [(.int x0), (.int x1), (.int x2), (.int x3), (.int x4), (.int x5)] (.int 0)) :
    MetFree l y_1 (head1 (Jvm.Cond.code y_1 method_3_code 3 (some .int) :: ws) rr_v5) (fun a U => a = #[(.ref o0), (.int 5), (.int p2)] ∧ Z.Warmed39 U.vm ∧ U.heap = h0) (fun _ _ _ _ _ => True) (fun _ U o U' => ∃ v L, o = .returned v ∧ Q_v5 Z w_COMPACT_STRINGS w_SIOOBE_FORMATTER o0 p2 ka x0 x1 x2 x3 x4 x5 h0 n0 v U'.heap L ∧ FrameEnd U o U' L rr_v5.cells rr_v5.slots) := by
  refine MetFree.of_bodySF (plainFor_of_name pn_0) hisR ?_
  intro p e s m args below meth c s₁ Bd hml0 hP hK
  obtain ⟨rfl, hZ, hh⟩ := hP
  have hx := Bd.exec
  have hby := Bd.bytes
  have hml : c.maxLocals = 3 := hml0
  have hown : s.vm.findClass cn_0 = some m.cls := findClass_of_methodNamed Bd.named
  have hnm := (name_of_methodNamed Bd.named Bd.method).1
  have X0 : Stand p l e rr_v5 s m #[(.ref o0), (.int 5), (.int p2)] below meth c s₁ [] 0 0 := Stand.of_body Bd
  have e0 : s₁.heap = h0 := by rw [← hh, Bd.state]; rfl
  have N0 := Fr.nil n0
  obtain ⟨G, step, ret, fin⟩ := own_open (p := p) (l := l) (e := e) (R := rr_v5) (s := s) (m := m) (args := #[(.ref o0), (.int 5), (.int p2)]) (below := below) (meth := meth) (c := c) (rr_v5.cells) (rr_v5.slots) (Q_v5 Z w_COMPACT_STRINGS w_SIOOBE_FORMATTER o0 p2 ka x0 x1 x2 x3 x4 x5 h0 n0) Bd.notSynchronized
  refine fin (g := entryFrame m #[(.ref o0), (.int 5), (.int p2)] 3) ?_
  rw [ef_v5 m o0 p2]
  show G s₁ (mkF m 0 #[.val (.ref o0), .val (.int 5), .val (.int p2)] [])
  refine step (fun t k => XS.iloadN X0.here hx rfl (hb hby d1_0) rfl k) ?_
  show G s₁ (mkF m 1 #[.val (.ref o0), .val (.int 5), .val (.int p2)] [(.int 5)])
  refine step (fun t k => XS.iloadN X0.here hx rfl (hb hby d1_1) rfl k) ?_
  show G s₁ (mkF m 2 #[.val (.ref o0), .val (.int 5), .val (.int p2)] [(.int p2), (.int 5)])
  by_cases hc1 : (5 : Int32) < p2
  · skip
    refine step (fun t k => XS.icmpNo X0.here hx rfl (hb hby d1_2) rfl (tlt hc1).2.1 k) ?_
    show G s₁ (mkF m 5 #[.val (.ref o0), .val (.int 5), .val (.int p2)] [])
    refine step (fun t k => XS.iconst X0.here hx rfl (hb hby d1_5) k) ?_
    show G s₁ (mkF m 6 #[.val (.ref o0), .val (.int 5), .val (.int p2)] [(.int 0)])
    exact ret (v := some (.int 0)) X0 (fun h => by rw [Bd.returns] at h; cases h) (fun fs hr => retI X0 hx Bd.returns (hb hby d1_6) hr) e0 ⟨by unfold f_v5; rw [if_pos hc1], N0, rfl⟩ (by decide) (by decide)
  · skip
    refine step (fun t k => XS.icmpYes X0.here hx rfl (pc0 := 2) (pc' := 7) rfl (hb hby d1_2) rfl (flt hc1).2.1 (by decide) (by decide) k) ?_
    show G s₁ (mkF m 7 #[.val (.ref o0), .val (.int 5), .val (.int p2)] [])
    refine step (fun t k => XS.aloadN X0.here hx rfl (hb hby d1_7) rfl rfl k) ?_
    show G s₁ (mkF m 8 #[.val (.ref o0), .val (.int 5), .val (.int p2)] [(.ref o0)])
    refine step (fun t k => XS.iloadN X0.here hx rfl (hb hby d1_8) rfl k) ?_
    show G s₁ (mkF m 9 #[.val (.ref o0), .val (.int 5), .val (.int p2)] [(.int 5), (.ref o0)])
    have q2 := own_ldC X0 hx hZ e0 Va (j := (5 : Int32)) (v := (.int x5)) (by decide) (own_at (i := 5) rfl rfl) (g := (mkF m 9 #[.val (.ref o0), .val (.int 5), .val (.int p2)] [(.int 5), (.ref o0)])) rfl rfl (hb hby d1_9)
    refine step q2 ?_
    show G s₁ (mkF m 10 #[.val (.ref o0), .val (.int 5), .val (.int p2)] [(.int x5)])
    refine step (fun t k => XS.bipush X0.here hx rfl (hb hby d1_10) k) ?_
    show G s₁ (mkF m 12 #[.val (.ref o0), .val (.int 5), .val (.int p2)] [(.int 123), (.int x5)])
    by_cases hc3 : x5 = (123 : Int32)
    · skip
      refine step (fun t k => XS.icmpNo X0.here hx rfl (hb hby d1_12) rfl (teq hc3).2 k) ?_
      show G s₁ (mkF m 15 #[.val (.ref o0), .val (.int 5), .val (.int p2)] [])
      refine step (fun t k => XS.iconst X0.here hx rfl (hb hby d1_15) k) ?_
      show G s₁ (mkF m 16 #[.val (.ref o0), .val (.int 5), .val (.int p2)] [(.int 1)])
      exact ret (v := some (.int 1)) X0 (fun h => by rw [Bd.returns] at h; cases h) (fun fs hr => retI X0 hx Bd.returns (hb hby d1_16) hr) e0 ⟨by unfold f_v5; rw [if_neg hc1, if_pos hc3], N0, rfl⟩ (by decide) (by decide)
    · skip
      refine step (fun t k => XS.icmpYes X0.here hx rfl (pc0 := 12) (pc' := 17) rfl (hb hby d1_12) rfl (feq hc3).2 (by decide) (by decide) k) ?_
      show G s₁ (mkF m 17 #[.val (.ref o0), .val (.int 5), .val (.int p2)] [])
      refine step (fun t k => XS.aloadN X0.here hx rfl (hb hby d1_17) rfl rfl k) ?_
      show G s₁ (mkF m 18 #[.val (.ref o0), .val (.int 5), .val (.int p2)] [(.ref o0)])
      refine step (fun t k => XS.iloadN X0.here hx rfl (hb hby d1_18) rfl k) ?_
      show G s₁ (mkF m 19 #[.val (.ref o0), .val (.int 5), .val (.int p2)] [(.int 5), (.ref o0)])
      have q4 := own_ldC X0 hx hZ e0 Va (j := (5 : Int32)) (v := (.int x5)) (by decide) (own_at (i := 5) rfl rfl) (g := (mkF m 19 #[.val (.ref o0), .val (.int 5), .val (.int p2)] [(.int 5), (.ref o0)])) rfl rfl (hb hby d1_19)
      refine step q4 ?_
      show G s₁ (mkF m 20 #[.val (.ref o0), .val (.int 5), .val (.int p2)] [(.int x5)])
      refine step (fun t k => XS.bipush X0.here hx rfl (hb hby d1_20) k) ?_
      show G s₁ (mkF m 22 #[.val (.ref o0), .val (.int 5), .val (.int p2)] [(.int 125), (.int x5)])
      by_cases hc5 : x5 = (125 : Int32)
      · skip
        refine step (fun t k => XS.icmpNo X0.here hx rfl (hb hby d1_22) rfl (teq hc5).2 k) ?_
        show G s₁ (mkF m 25 #[.val (.ref o0), .val (.int 5), .val (.int p2)] [])
        refine step (fun t k => XS.iconst X0.here hx rfl (hb hby d1_25) k) ?_
        show G s₁ (mkF m 26 #[.val (.ref o0), .val (.int 5), .val (.int p2)] [(.int (-1))])
        exact ret (v := some (.int (-1))) X0 (fun h => by rw [Bd.returns] at h; cases h) (fun fs hr => retI X0 hx Bd.returns (hb hby d1_26) hr) e0 ⟨by unfold f_v5; rw [if_neg hc1, if_neg hc3, if_pos hc5], N0, rfl⟩ (by decide) (by decide)
      · skip
        refine step (fun t k => XS.icmpYes X0.here hx rfl (pc0 := 22) (pc' := 27) rfl (hb hby d1_22) rfl (feq hc5).2 (by decide) (by decide) k) ?_
        show G s₁ (mkF m 27 #[.val (.ref o0), .val (.int 5), .val (.int p2)] [])
        refine step (fun t k => XS.iconst X0.here hx rfl (hb hby d1_27) k) ?_
        show G s₁ (mkF m 28 #[.val (.ref o0), .val (.int 5), .val (.int p2)] [(.int 0)])
        exact ret (v := some (.int 0)) X0 (fun h => by rw [Bd.returns] at h; cases h) (fun fs hr => retI X0 hx Bd.returns (hb hby d1_28) hr) e0 ⟨by unfold f_v5; rw [if_neg hc1, if_neg hc3, if_neg hc5], N0, rfl⟩ (by decide) (by decide)
abbrev rr_h5 : Room := { frames := 0, cells := 0, slots := 0, locals := 0 }
theorem ef_h5 (m : MethodId) (o0 : Addr) (p2 : Int32) (p3 : Int32) (p4 : Int32) : entryFrame m #[(.ref o0), (.int 5), (.int p2), (.int p3), (.int p4)] 5 = mkF m 0 #[.val (.ref o0), .val (.int 5), .val (.int p2), .val (.int p3), .val (.int p4)] [] := by first | (simp [entryFrame, mkF, argsToLocals, Value.category]; done) | rfl
def f_h5 (w_COMPACT_STRINGS : Int32) (w_SIOOBE_FORMATTER : Value) (o0 : Addr) (p2 : Int32) (p3 : Int32) (p4 : Int32) (ka : ClassId) (x0 : Int32) (x1 : Int32) (x2 : Int32) (x3 : Int32) (x4 : Int32) (x5 : Int32) : Int32 := (if (5 : Int32) < p2 then (0 : Int32) else (if (5 : Int32) < p3 then (if x5 = (125 : Int32) then (if p4 = (0 : Int32) then (1 : Int32) else (0 : Int32)) else (0 : Int32)) else (0 : Int32)))
def Q_h5 (Z : State) (w_COMPACT_STRINGS : Int32) (w_SIOOBE_FORMATTER : Value) (o0 : Addr) (p2 : Int32) (p3 : Int32) (p4 : Int32) (ka : ClassId) (x0 : Int32) (x1 : Int32) (x2 : Int32) (x3 : Int32) (x4 : Int32) (x5 : Int32) (h0 : Heap) (n0 : Nat) (v : Option Value) (h : Heap) (L : List Loc) : Prop := v = some (.int (f_h5 w_COMPACT_STRINGS w_SIOOBE_FORMATTER o0 p2 p3 p4 ka x0 x1 x2 x3 x4 x5)) ∧ Fr n0 L ∧ h = h0
set_option maxRecDepth 65536 in
set_option maxHeartbeats 40000000 in
theorem rm_h5 (l : Launch) (Z : State) (a0 : Array Value) (hw : ∀ d ∈ tables_1, d.before a0 Z = true) (ws : List Jvm.Cond) (w_COMPACT_STRINGS : Int32) (w_SIOOBE_FORMATTER : Value) (o0 : Addr) (p2 : Int32) (p3 : Int32) (p4 : Int32) (ka : ClassId) (x0 : Int32) (x1 : Int32) (x2 : Int32) (x3 : Int32) (x4 : Int32) (x5 : Int32) (h0 : Heap) (n0 : Nat) (Z0 : n0 ≤ h0.size) (ST : own_St Z w_COMPACT_STRINGS w_SIOOBE_FORMATTER) (O0 : Old Z n0 h0) (Va : Arv Z h0 o0 ka .char (6 : Int32) [(.int x0), (.int x1), (.int x2), (.int x3), (.int x4), (.int x5)] (.int 0)) :
    MetFree l y_2 (head1 (Jvm.Cond.code y_2 method_4_code 5 (some .boolean) :: ws) rr_h5) (fun a U => a = #[(.ref o0), (.int 5), (.int p2), (.int p3), (.int p4)] ∧ Z.Warmed39 U.vm ∧ U.heap = h0) (fun _ _ _ _ _ => True) (fun _ U o U' => ∃ v L, o = .returned v ∧ Q_h5 Z w_COMPACT_STRINGS w_SIOOBE_FORMATTER o0 p2 p3 p4 ka x0 x1 x2 x3 x4 x5 h0 n0 v U'.heap L ∧ FrameEnd U o U' L rr_h5.cells rr_h5.slots) := by
  refine MetFree.of_bodySF (plainFor_of_name pn_0) hisR ?_
  intro p e s m args below meth c s₁ Bd hml0 hP hK
  obtain ⟨rfl, hZ, hh⟩ := hP
  have hx := Bd.exec
  have hby := Bd.bytes
  have hml : c.maxLocals = 5 := hml0
  have hown : s.vm.findClass cn_0 = some m.cls := findClass_of_methodNamed Bd.named
  have hnm := (name_of_methodNamed Bd.named Bd.method).1
  have X0 : Stand p l e rr_h5 s m #[(.ref o0), (.int 5), (.int p2), (.int p3), (.int p4)] below meth c s₁ [] 0 0 := Stand.of_body Bd
  have e0 : s₁.heap = h0 := by rw [← hh, Bd.state]; rfl
  have N0 := Fr.nil n0
  obtain ⟨G, step, ret, fin⟩ := own_open (p := p) (l := l) (e := e) (R := rr_h5) (s := s) (m := m) (args := #[(.ref o0), (.int 5), (.int p2), (.int p3), (.int p4)]) (below := below) (meth := meth) (c := c) (rr_h5.cells) (rr_h5.slots) (Q_h5 Z w_COMPACT_STRINGS w_SIOOBE_FORMATTER o0 p2 p3 p4 ka x0 x1 x2 x3 x4 x5 h0 n0) Bd.notSynchronized
  refine fin (g := entryFrame m #[(.ref o0), (.int 5), (.int p2), (.int p3), (.int p4)] 5) ?_
  rw [ef_h5 m o0 p2 p3 p4]
  show G s₁ (mkF m 0 #[.val (.ref o0), .val (.int 5), .val (.int p2), .val (.int p3), .val (.int p4)] [])
  refine step (fun t k => XS.iloadN X0.here hx rfl (hb hby d2_0) rfl k) ?_
  show G s₁ (mkF m 1 #[.val (.ref o0), .val (.int 5), .val (.int p2), .val (.int p3), .val (.int p4)] [(.int 5)])
  refine step (fun t k => XS.iloadN X0.here hx rfl (hb hby d2_1) rfl k) ?_
  show G s₁ (mkF m 2 #[.val (.ref o0), .val (.int 5), .val (.int p2), .val (.int p3), .val (.int p4)] [(.int p2), (.int 5)])
  by_cases hc1 : (5 : Int32) < p2
  · skip
    refine step (fun t k => XS.icmpYes X0.here hx rfl (pc0 := 2) (pc' := 27) rfl (hb hby d2_2) rfl (tlt hc1).1 (by decide) (by decide) k) ?_
    show G s₁ (mkF m 27 #[.val (.ref o0), .val (.int 5), .val (.int p2), .val (.int p3), .val (.int p4)] [])
    refine step (fun t k => XS.iconst X0.here hx rfl (hb hby d2_27) k) ?_
    show G s₁ (mkF m 28 #[.val (.ref o0), .val (.int 5), .val (.int p2), .val (.int p3), .val (.int p4)] [(.int 0)])
    exact ret (v := some (.int 0)) X0 (fun h => by rw [Bd.returns] at h; cases h) (fun fs hr => retN X0 hx (t := .boolean) Bd.returns (by simp) (hb hby d2_28) hr) e0 ⟨by unfold f_h5; rw [if_pos hc1], N0, rfl⟩ (by decide) (by decide)
  · skip
    refine step (fun t k => XS.icmpNo X0.here hx rfl (hb hby d2_2) rfl (flt hc1).1 k) ?_
    show G s₁ (mkF m 5 #[.val (.ref o0), .val (.int 5), .val (.int p2), .val (.int p3), .val (.int p4)] [])
    refine step (fun t k => XS.iloadN X0.here hx rfl (hb hby d2_5) rfl k) ?_
    show G s₁ (mkF m 6 #[.val (.ref o0), .val (.int 5), .val (.int p2), .val (.int p3), .val (.int p4)] [(.int 5)])
    refine step (fun t k => XS.iloadN X0.here hx rfl (hb hby d2_6) rfl k) ?_
    show G s₁ (mkF m 7 #[.val (.ref o0), .val (.int 5), .val (.int p2), .val (.int p3), .val (.int p4)] [(.int p3), (.int 5)])
    by_cases hc2 : (5 : Int32) < p3
    · skip
      refine step (fun t k => XS.icmpNo X0.here hx rfl (hb hby d2_7) rfl (tlt hc2).2.1 k) ?_
      show G s₁ (mkF m 10 #[.val (.ref o0), .val (.int 5), .val (.int p2), .val (.int p3), .val (.int p4)] [])
      refine step (fun t k => XS.aloadN X0.here hx rfl (hb hby d2_10) rfl rfl k) ?_
      show G s₁ (mkF m 11 #[.val (.ref o0), .val (.int 5), .val (.int p2), .val (.int p3), .val (.int p4)] [(.ref o0)])
      refine step (fun t k => XS.iloadN X0.here hx rfl (hb hby d2_11) rfl k) ?_
      show G s₁ (mkF m 12 #[.val (.ref o0), .val (.int 5), .val (.int p2), .val (.int p3), .val (.int p4)] [(.int 5), (.ref o0)])
      have q3 := own_ldC X0 hx hZ e0 Va (j := (5 : Int32)) (v := (.int x5)) (by decide) (own_at (i := 5) rfl rfl) (g := (mkF m 12 #[.val (.ref o0), .val (.int 5), .val (.int p2), .val (.int p3), .val (.int p4)] [(.int 5), (.ref o0)])) rfl rfl (hb hby d2_12)
      refine step q3 ?_
      show G s₁ (mkF m 13 #[.val (.ref o0), .val (.int 5), .val (.int p2), .val (.int p3), .val (.int p4)] [(.int x5)])
      refine step (fun t k => XS.bipush X0.here hx rfl (hb hby d2_13) k) ?_
      show G s₁ (mkF m 15 #[.val (.ref o0), .val (.int 5), .val (.int p2), .val (.int p3), .val (.int p4)] [(.int 125), (.int x5)])
      by_cases hc4 : x5 = (125 : Int32)
      · skip
        refine step (fun t k => XS.icmpNo X0.here hx rfl (hb hby d2_15) rfl (teq hc4).2 k) ?_
        show G s₁ (mkF m 18 #[.val (.ref o0), .val (.int 5), .val (.int p2), .val (.int p3), .val (.int p4)] [])
        refine step (fun t k => XS.iload X0.here hx rfl (hb hby d2_18) rfl k) ?_
        show G s₁ (mkF m 20 #[.val (.ref o0), .val (.int 5), .val (.int p2), .val (.int p3), .val (.int p4)] [(.int p4)])
        by_cases hc5 : p4 = (0 : Int32)
        · skip
          refine step (fun t k => XS.ifNo X0.here hx rfl (hb hby d2_20) rfl ((if0 _ _).trans (teq hc5).2) k) ?_
          show G s₁ (mkF m 23 #[.val (.ref o0), .val (.int 5), .val (.int p2), .val (.int p3), .val (.int p4)] [])
          refine step (fun t k => XS.iconst X0.here hx rfl (hb hby d2_23) k) ?_
          show G s₁ (mkF m 24 #[.val (.ref o0), .val (.int 5), .val (.int p2), .val (.int p3), .val (.int p4)] [(.int 1)])
          refine step (fun t k => XS.goto X0.here hx rfl (pc0 := 24) (pc' := 28) rfl (hb hby d2_24) (by decide) (by decide) k) ?_
          show G s₁ (mkF m 28 #[.val (.ref o0), .val (.int 5), .val (.int p2), .val (.int p3), .val (.int p4)] [(.int 1)])
          exact ret (v := some (.int 1)) X0 (fun h => by rw [Bd.returns] at h; cases h) (fun fs hr => retN X0 hx (t := .boolean) Bd.returns (by simp) (hb hby d2_28) hr) e0 ⟨by unfold f_h5; rw [if_neg hc1, if_pos hc2, if_pos hc4, if_pos hc5], N0, rfl⟩ (by decide) (by decide)
        · skip
          refine step (fun t k => XS.ifYes X0.here hx rfl (pc0 := 20) (pc' := 27) rfl (hb hby d2_20) rfl ((if0 _ _).trans (feq hc5).2) (by decide) (by decide) k) ?_
          show G s₁ (mkF m 27 #[.val (.ref o0), .val (.int 5), .val (.int p2), .val (.int p3), .val (.int p4)] [])
          refine step (fun t k => XS.iconst X0.here hx rfl (hb hby d2_27) k) ?_
          show G s₁ (mkF m 28 #[.val (.ref o0), .val (.int 5), .val (.int p2), .val (.int p3), .val (.int p4)] [(.int 0)])
          exact ret (v := some (.int 0)) X0 (fun h => by rw [Bd.returns] at h; cases h) (fun fs hr => retN X0 hx (t := .boolean) Bd.returns (by simp) (hb hby d2_28) hr) e0 ⟨by unfold f_h5; rw [if_neg hc1, if_pos hc2, if_pos hc4, if_neg hc5], N0, rfl⟩ (by decide) (by decide)
      · skip
        refine step (fun t k => XS.icmpYes X0.here hx rfl (pc0 := 15) (pc' := 27) rfl (hb hby d2_15) rfl (feq hc4).2 (by decide) (by decide) k) ?_
        show G s₁ (mkF m 27 #[.val (.ref o0), .val (.int 5), .val (.int p2), .val (.int p3), .val (.int p4)] [])
        refine step (fun t k => XS.iconst X0.here hx rfl (hb hby d2_27) k) ?_
        show G s₁ (mkF m 28 #[.val (.ref o0), .val (.int 5), .val (.int p2), .val (.int p3), .val (.int p4)] [(.int 0)])
        exact ret (v := some (.int 0)) X0 (fun h => by rw [Bd.returns] at h; cases h) (fun fs hr => retN X0 hx (t := .boolean) Bd.returns (by simp) (hb hby d2_28) hr) e0 ⟨by unfold f_h5; rw [if_neg hc1, if_pos hc2, if_neg hc4], N0, rfl⟩ (by decide) (by decide)
    · skip
      refine step (fun t k => XS.icmpYes X0.here hx rfl (pc0 := 7) (pc' := 27) rfl (hb hby d2_7) rfl (flt hc2).2.1 (by decide) (by decide) k) ?_
      show G s₁ (mkF m 27 #[.val (.ref o0), .val (.int 5), .val (.int p2), .val (.int p3), .val (.int p4)] [])
      refine step (fun t k => XS.iconst X0.here hx rfl (hb hby d2_27) k) ?_
      show G s₁ (mkF m 28 #[.val (.ref o0), .val (.int 5), .val (.int p2), .val (.int p3), .val (.int p4)] [(.int 0)])
      exact ret (v := some (.int 0)) X0 (fun h => by rw [Bd.returns] at h; cases h) (fun fs hr => retN X0 hx (t := .boolean) Bd.returns (by simp) (hb hby d2_28) hr) e0 ⟨by unfold f_h5; rw [if_neg hc1, if_neg hc2], N0, rfl⟩ (by decide) (by decide)
def own_go (ys : List Int32) (N : Nat) : Nat → Nat → Int32 → Int32
  | 0, _, _ => Int32.ofNat N
  | n + 1, k, d => if ys.getD k 0 = (123 : Int32) then own_go ys N n (k + 1) (d + (1 : Int32)) else if ys.getD k 0 = (125 : Int32) then (if (d + (-1 : Int32)) = (0 : Int32) then Int32.ofNat k else own_go ys N n (k + 1) (d + (-1 : Int32))) else own_go ys N n (k + 1) d
theorem own_succ (k : Nat) : Int32.ofNat k + (1 : Int32) = Int32.ofNat (k + 1) := by rw [Int32.ofNat_add]; rfl
theorem own_ofn {k : Nat} (h : k ≤ 6) : (Int32.ofNat k).toInt = k := Int32.toInt_ofNat_small (by omega)
theorem own_ltn {k n : Nat} (hk : k ≤ 6) (hn : n ≤ 6) : Int32.ofNat k < Int32.ofNat n ↔ k < n := by rw [own_xlt, own_ofn hk, own_ofn hn]; omega
abbrev y_3 : MethodName := ⟨cn_1, "charAt", "(I)C"⟩
theorem ww7 {Z : State} {a0 : Array Value} (hw : ∀ d ∈ tables_1, d.before a0 Z = true) : Jvm.Cond.before (Jvm.Cond.instantiable cn_1 (4 : Nat)) a0 Z = true := hw _ (List.mem_of_getElem? (i := 7) rfl)
theorem d3_0 : decode prog_1_method_14_code 0 = .ok (.iconst 0, 1) := by decide +kernel
theorem d3_1 : decode prog_1_method_14_code 1 = .ok (.istore_n 3, 1) := by decide +kernel
theorem d3_2 : decode prog_1_method_14_code 2 = .ok (.iload_n 1, 1) := by decide +kernel
theorem d3_3 : decode prog_1_method_14_code 3 = .ok (.istore 4, 2) := by decide +kernel
theorem d3_5 : decode prog_1_method_14_code 5 = .ok (.iload 4, 2) := by decide +kernel
theorem d3_7 : decode prog_1_method_14_code 7 = .ok (.iload_n 2, 1) := by decide +kernel
theorem d3_8 : decode prog_1_method_14_code 8 = .ok (.if_icmp .ge 47, 3) := by decide +kernel
theorem d3_55 : decode prog_1_method_14_code 55 = .ok (.iload_n 2, 1) := by decide +kernel
theorem d3_56 : decode prog_1_method_14_code 56 = .ok (.ireturn, 1) := by decide +kernel
theorem d3_11 : decode prog_1_method_14_code 11 = .ok (.aload_n 0, 1) := by decide +kernel
theorem d3_12 : decode prog_1_method_14_code 12 = .ok (.iload 4, 2) := by decide +kernel
theorem d3_14 : decode prog_1_method_14_code 14 = .ok (.invokevirtual 89, 3) := by decide +kernel
theorem ww46 {Z : State} {a0 : Array Value} (hw : ∀ d ∈ tables_1, d.before a0 Z = true) : Jvm.Cond.before (Jvm.Cond.methodLink cn_2 (89 : Nat) ({ cls := cn_1, name := "charAt", desc := "(I)C" } : Jvm.MethodName)) a0 Z = true := hw _ (List.mem_of_getElem? (i := 46) rfl)
theorem ww49 {Z : State} {a0 : Array Value} (hw : ∀ d ∈ tables_1, d.before a0 Z = true) : Jvm.Cond.before (Jvm.Cond.selects cn_1 ({ cls := cn_1, name := "charAt", desc := "(I)C" } : Jvm.MethodName) ({ cls := cn_1, name := "charAt", desc := "(I)C" } : Jvm.MethodName)) a0 Z = true := hw _ (List.mem_of_getElem? (i := 49) rfl)
theorem ww50 {Z : State} {a0 : Array Value} (hw : ∀ d ∈ tables_1, d.before a0 Z = true) : Jvm.Cond.before (Jvm.Cond.code ({ cls := cn_1, name := "charAt", desc := "(I)C" } : Jvm.MethodName) jdk_42_method_56_code (2 : Nat) (Option.some Jvm.ClassFile.FieldType.char)) a0 Z = true := hw _ (List.mem_of_getElem? (i := 50) rfl)
theorem pd_0 : parseMethodDescriptor "(I)C" = some ⟨[.int], some .char⟩ := by decide +kernel
theorem ww47 {Z : State} {a0 : Array Value} (hw : ∀ d ∈ tables_1, d.before a0 Z = true) : Jvm.Cond.before (Jvm.Cond.declares ({ cls := cn_1, name := "charAt", desc := "(I)C" } : Jvm.MethodName)) a0 Z = true := hw _ (List.mem_of_getElem? (i := 47) rfl)
theorem ww48 {Z : State} {a0 : Array Value} (hw : ∀ d ∈ tables_1, d.before a0 Z = true) : Jvm.Cond.before (Jvm.Cond.instanceMethod ({ cls := cn_1, name := "charAt", desc := "(I)C" } : Jvm.MethodName)) a0 Z = true := hw _ (List.mem_of_getElem? (i := 48) rfl)
theorem d3_17 : decode prog_1_method_14_code 17 = .ok (.istore 5, 2) := by decide +kernel
theorem d3_19 : decode prog_1_method_14_code 19 = .ok (.iload 5, 2) := by decide +kernel
theorem d3_21 : decode prog_1_method_14_code 21 = .ok (.bipush 123, 2) := by decide +kernel
theorem d3_23 : decode prog_1_method_14_code 23 = .ok (.if_icmp .ne 9, 3) := by decide +kernel
theorem d3_26 : decode prog_1_method_14_code 26 = .ok (.iinc 3 1, 3) := by decide +kernel
theorem d3_29 : decode prog_1_method_14_code 29 = .ok (.goto 20, 3) := by decide +kernel
theorem d3_49 : decode prog_1_method_14_code 49 = .ok (.iinc 4 1, 3) := by decide +kernel
theorem d3_52 : decode prog_1_method_14_code 52 = .ok (.goto (-47), 3) := by decide +kernel
theorem d3_32 : decode prog_1_method_14_code 32 = .ok (.iload 5, 2) := by decide +kernel
theorem d3_34 : decode prog_1_method_14_code 34 = .ok (.bipush 125, 2) := by decide +kernel
theorem d3_36 : decode prog_1_method_14_code 36 = .ok (.if_icmp .ne 13, 3) := by decide +kernel
theorem d3_39 : decode prog_1_method_14_code 39 = .ok (.iinc 3 (-1), 3) := by decide +kernel
theorem d3_42 : decode prog_1_method_14_code 42 = .ok (.iload_n 3, 1) := by decide +kernel
theorem d3_43 : decode prog_1_method_14_code 43 = .ok (.ifCond .ne 6, 3) := by decide +kernel
theorem d3_46 : decode prog_1_method_14_code 46 = .ok (.iload 4, 2) := by decide +kernel
theorem d3_48 : decode prog_1_method_14_code 48 = .ok (.ireturn, 1) := by decide +kernel
abbrev rr_clo : Room := { frames := 4, cells := 0, slots := 0, locals := 53 }
abbrev y_4 : MethodName := ⟨cn_2, "closing", cn_3⟩
theorem pn_1 : plainName cn_2 = true := by first | (simp [plainName, overriddenIn]; done) | decide +kernel
theorem ef_clo (m : MethodId) (o0 : Addr) (p1 : Int32) (p2 : Int32) : entryFrame m #[(.ref o0), (.int p1), (.int p2)] 6 = mkF m 0 #[.val (.ref o0), .val (.int p1), .val (.int p2), .unset, .unset, .unset] [] := by first | (simp [entryFrame, mkF, argsToLocals, Value.category]; done) | rfl
def f_clo (w_COMPACT_STRINGS : Int32) (w_SIOOBE_FORMATTER : Value) (y0 : Int32) (y1 : Int32) (y2 : Int32) (y3 : Int32) (y4 : Int32) (y5 : Int32) (K0 N : Nat) : Int32 := own_go [y0, y1, y2, y3, y4, y5] N (N - K0) K0 0
def Q_clo (Z : State) (w_COMPACT_STRINGS : Int32) (w_SIOOBE_FORMATTER : Value) (o0 : Addr) (p1 : Int32) (p2 : Int32) (y0 : Int32) (y1 : Int32) (y2 : Int32) (y3 : Int32) (y4 : Int32) (y5 : Int32) (t : Addr) (kb : ClassId) (K0 : Nat) (N : Nat) (h0 : Heap) (n0 : Nat) (v : Option Value) (h : Heap) (L : List Loc) : Prop := v = some (.int (own_go [y0, y1, y2, y3, y4, y5] N (N - K0) K0 0)) ∧ Fr n0 L ∧ h = h0
set_option maxRecDepth 65536 in
set_option maxHeartbeats 40000000 in
theorem rm_clo (l : Launch) (Z : State) (a0 : Array Value) (hw : ∀ d ∈ tables_1, d.before a0 Z = true) (ws : List Jvm.Cond) (w_COMPACT_STRINGS : Int32) (w_SIOOBE_FORMATTER : Value) (o0 : Addr) (p1 : Int32) (p2 : Int32) (y0 : Int32) (y1 : Int32) (y2 : Int32) (y3 : Int32) (y4 : Int32) (y5 : Int32) (t : Addr) (kb : ClassId) (K0 : Nat) (N : Nat) (h0 : Heap) (n0 : Nat) (Z0 : n0 ≤ h0.size) (ST : own_St Z w_COMPACT_STRINGS w_SIOOBE_FORMATTER) (O0 : Old Z n0 h0) (ly0 : ¬ y0 < 0 ∧ ¬ (255 : Int32) < y0) (ly1 : ¬ y1 < 0 ∧ ¬ (255 : Int32) < y1) (ly2 : ¬ y2 < 0 ∧ ¬ (255 : Int32) < y2) (ly3 : ¬ y3 < 0 ∧ ¬ (255 : Int32) < y3) (ly4 : ¬ y4 < 0 ∧ ¬ (255 : Int32) < y4) (ly5 : ¬ y5 < 0 ∧ ¬ (255 : Int32) < y5) (Es : Exa Z h0 o0 cn_1) (Fv : Fld Z h0 o0 cn_1 "value" "[B" (.ref t)) (Fc : Fld Z h0 o0 cn_1 "coder" "B" (.int 0)) (Vb : Arv Z h0 t kb .byte (6 : Int32) [(.int (y0.toInt8.toInt32)), (.int (y1.toInt8.toInt32)), (.int (y2.toInt8.toInt32)), (.int (y3.toInt8.toInt32)), (.int (y4.toInt8.toInt32)), (.int (y5.toInt8.toInt32))] (.int 0)) (hp1 : p1 = Int32.ofNat K0) (hp2 : p2 = Int32.ofNat N) (hKN : K0 ≤ N) (hN6 : N ≤ 6) :
    MetFree l y_4 (head1 (Jvm.Cond.code y_4 prog_1_method_14_code 6 (some .int) :: ws) rr_clo) (fun a U => a = #[(.ref o0), (.int p1), (.int p2)] ∧ Z.Warmed39 U.vm ∧ U.heap = h0) (fun _ _ _ _ _ => True) (fun _ U o U' => ∃ v L, o = .returned v ∧ Q_clo Z w_COMPACT_STRINGS w_SIOOBE_FORMATTER o0 p1 p2 y0 y1 y2 y3 y4 y5 t kb K0 N h0 n0 v U'.heap L ∧ FrameEnd U o U' L rr_clo.cells rr_clo.slots) := by
  refine MetFree.of_bodySF (plainFor_of_name pn_1) hisR ?_
  intro p e s m args below meth c s₁ Bd hml0 hP hK
  obtain ⟨rfl, hZ, hh⟩ := hP
  have hx := Bd.exec
  have hby := Bd.bytes
  have hml : c.maxLocals = 6 := hml0
  have hown : s.vm.findClass cn_2 = some m.cls := findClass_of_methodNamed Bd.named
  have hnm := (name_of_methodNamed Bd.named Bd.method).1
  have X0 : Stand p l e rr_clo s m #[(.ref o0), (.int p1), (.int p2)] below meth c s₁ [] 0 0 := Stand.of_body Bd
  have e0 : s₁.heap = h0 := by rw [← hh, Bd.state]; rfl
  have N0 := Fr.nil n0
  obtain ⟨G, step, ret, fin⟩ := own_open (p := p) (l := l) (e := e) (R := rr_clo) (s := s) (m := m) (args := #[(.ref o0), (.int p1), (.int p2)]) (below := below) (meth := meth) (c := c) (rr_clo.cells) (rr_clo.slots) (Q_clo Z w_COMPACT_STRINGS w_SIOOBE_FORMATTER o0 p1 p2 y0 y1 y2 y3 y4 y5 t kb K0 N h0 n0) Bd.notSynchronized
  refine fin (g := entryFrame m #[(.ref o0), (.int p1), (.int p2)] 6) ?_
  rw [ef_clo m o0 p1 p2]
  have ne_o0_t : o0 ≠ t := own_ne_arv Es (ww7 hw) Vb
  show G s₁ (mkF m 0 #[.val (.ref o0), .val (.int p1), .val (.int p2), .unset, .unset, .unset] [])
  refine step (fun t k => XS.iconst X0.here hx rfl (hb hby d3_0) k) ?_
  show G s₁ (mkF m 1 #[.val (.ref o0), .val (.int p1), .val (.int p2), .unset, .unset, .unset] [(.int 0)])
  refine step (fun t k => XS.istoreN X0.here hx rfl (hb hby d3_1) rfl (l' := #[.val (.ref o0), .val (.int p1), .val (.int p2), .val (.int 0), .unset, .unset]) rfl k) ?_
  show G s₁ (mkF m 2 #[.val (.ref o0), .val (.int p1), .val (.int p2), .val (.int 0), .unset, .unset] [])
  refine step (fun t k => XS.iloadN X0.here hx rfl (hb hby d3_2) rfl k) ?_
  show G s₁ (mkF m 3 #[.val (.ref o0), .val (.int p1), .val (.int p2), .val (.int 0), .unset, .unset] [(.int p1)])
  refine step (fun t k => XS.istore X0.here hx rfl (hb hby d3_3) rfl (l' := #[.val (.ref o0), .val (.int p1), .val (.int p2), .val (.int 0), .val (.int p1), .unset]) rfl k) ?_
  show G s₁ (mkF m 5 #[.val (.ref o0), .val (.int p1), .val (.int p2), .val (.int 0), .val (.int p1), .unset] [])
  have loop : ∀ (n k : Nat) (d : Int32) (s5 : Slot) (T : State), Stand p l e rr_clo s m #[(.ref o0), (.int p1), (.int p2)] below meth c T [] 0 0 → T.heap = h0 → One s5 → k + n = N → own_go [y0, y1, y2, y3, y4, y5] N n k d = own_go [y0, y1, y2, y3, y4, y5] N (N - K0) K0 0 → G T (mkF m 5 #[.val (.ref o0), .val (.int p1), .val (.int p2), .val (.int d), .val (.int (Int32.ofNat k)), s5] []) := by
    intro n
    induction n with
    | zero =>
      intro k d s5 T X eT h5 hk hres
      have hlt : ¬ (Int32.ofNat k < p2) := by rw [hp2, own_ltn (by omega) hN6]; omega
      show G T (mkF m 5 #[.val (.ref o0), .val (.int p1), .val (.int p2), .val (.int d), .val (.int (Int32.ofNat k)), s5] [])
      refine step (fun t k => XS.iload X.here hx rfl (hb hby d3_5) rfl k) ?_
      show G T (mkF m 7 #[.val (.ref o0), .val (.int p1), .val (.int p2), .val (.int d), .val (.int (Int32.ofNat k)), s5] [(.int (Int32.ofNat k))])
      refine step (fun t k => XS.iloadN X.here hx rfl (hb hby d3_7) rfl k) ?_
      show G T (mkF m 8 #[.val (.ref o0), .val (.int p1), .val (.int p2), .val (.int d), .val (.int (Int32.ofNat k)), s5] [(.int p2), (.int (Int32.ofNat k))])
      refine step (fun t k => XS.icmpYes X.here hx rfl (pc0 := 8) (pc' := 55) rfl (hb hby d3_8) rfl (flt hlt).2.1 (by decide) (by decide) k) ?_
      show G T (mkF m 55 #[.val (.ref o0), .val (.int p1), .val (.int p2), .val (.int d), .val (.int (Int32.ofNat k)), s5] [])
      refine step (fun t k => XS.iloadN X.here hx rfl (hb hby d3_55) rfl k) ?_
      show G T (mkF m 56 #[.val (.ref o0), .val (.int p1), .val (.int p2), .val (.int d), .val (.int (Int32.ofNat k)), s5] [(.int p2)])
      exact ret (v := some (.int p2)) X (fun h => by rw [Bd.returns] at h; cases h) (fun fs hr => retI X hx Bd.returns (hb hby d3_56) hr) eT ⟨congrArg (fun z => some (Value.int z)) (hp2.trans hres), N0, rfl⟩ (by decide) (by decide)
    | succ n ih =>
      intro k d s5 T X eT h5 hk hres
      have hlt : Int32.ofNat k < p2 := by rw [hp2, own_ltn (by omega) hN6]; omega
      have hk6 : k < 6 := by omega
      rw [own_go] at hres
      show G T (mkF m 5 #[.val (.ref o0), .val (.int p1), .val (.int p2), .val (.int d), .val (.int (Int32.ofNat k)), s5] [])
      refine step (fun t k => XS.iload X.here hx rfl (hb hby d3_5) rfl k) ?_
      show G T (mkF m 7 #[.val (.ref o0), .val (.int p1), .val (.int p2), .val (.int d), .val (.int (Int32.ofNat k)), s5] [(.int (Int32.ofNat k))])
      refine step (fun t k => XS.iloadN X.here hx rfl (hb hby d3_7) rfl k) ?_
      show G T (mkF m 8 #[.val (.ref o0), .val (.int p1), .val (.int p2), .val (.int d), .val (.int (Int32.ofNat k)), s5] [(.int p2), (.int (Int32.ofNat k))])
      refine step (fun t k => XS.icmpNo X.here hx rfl (hb hby d3_8) rfl (tlt hlt).2.1 k) ?_
      show G T (mkF m 11 #[.val (.ref o0), .val (.int p1), .val (.int p2), .val (.int d), .val (.int (Int32.ofNat k)), s5] [])
      refine step (fun t k => XS.aloadN X.here hx rfl (hb hby d3_11) rfl rfl k) ?_
      show G T (mkF m 12 #[.val (.ref o0), .val (.int p1), .val (.int p2), .val (.int d), .val (.int (Int32.ofNat k)), s5] [(.ref o0)])
      refine step (fun t k => XS.iload X.here hx rfl (hb hby d3_12) rfl k) ?_
      show G T (mkF m 14 #[.val (.ref o0), .val (.int p1), .val (.int p2), .val (.int d), .val (.int (Int32.ofNat k)), s5] [(.int (Int32.ofNat k)), (.ref o0)])
      have hK1 := (StrChars.Road.chN (l := l) (R := rr_clo) (p := p) (e := e) (below := below) (s := s) (args := #[(.ref o0), (.int p1), (.int p2)]) (len := 3) (W := 0) hZ (own_hwC hw) (kI := 4) (ww7 hw) (cs := [y0, y1, y2, y3, y4, y5]) (i := k) Es Fv Fc Vb (own_cod [y0, y1, y2, y3, y4, y5] 6 rfl (List.forall_mem_cons.mpr ⟨ly0, (List.forall_mem_cons.mpr ⟨ly1, (List.forall_mem_cons.mpr ⟨ly2, (List.forall_mem_cons.mpr ⟨ly3, (List.forall_mem_cons.mpr ⟨ly4, (List.forall_mem_cons.mpr ⟨ly5, (fun _ h => nomatch h)⟩)⟩)⟩)⟩)⟩)⟩)) (own_up (List.forall_mem_cons.mpr ⟨ly0, (List.forall_mem_cons.mpr ⟨ly1, (List.forall_mem_cons.mpr ⟨ly2, (List.forall_mem_cons.mpr ⟨ly3, (List.forall_mem_cons.mpr ⟨ly4, (List.forall_mem_cons.mpr ⟨ly5, (fun _ h => nomatch h)⟩)⟩)⟩)⟩)⟩)⟩)) (Sta.ext O0.2 ST.k0) ST.k3 (Sta.ext O0.2 ST.k1) ST.k2 (by show 6 ≤ 4000; decide) hk6 rfl (by decide) (by decide))
      obtain ⟨cq1, kq1, q1a, q1b, q1c⟩ := isOf hZ eT Es
      obtain ⟨_, _, ⟨T1, L1, k1, n1⟩, -, X1, ⟨Lc1, hQ1, l1, y1, z1⟩, st1⟩ := X.virtualBack hx (y := y_3) (z := y_3) hown (mvT hZ (ww46 hw)) (mvT hZ (ww47 hw)) (notFace_of_selects (args := #[]) (mvT hZ (ww49 hw))) (mvT hZ (ww49 hw)) (mvT hZ (ww48 hw)) (by decide) hK1 q1a q1c (g := (mkF m 14 #[.val (.ref o0), .val (.int p1), .val (.int p2), .val (.int d), .val (.int (Int32.ofNat k)), s5] [(.int (Int32.ofNat k)), (.ref o0)])) rfl (by rw [hml]; rfl) (Steps.refl _) (argsL := [(.int (Int32.ofNat k))]) (rest := []) (lenOf pd_0 rfl) rfl (by show 2 * 0 + _ ≤ _; exact Nat.le_of_eq rfl) (hb hby d3_14) (fun _ _ => ⟨rfl, eT, (by decide : 0 + 0 ≤ _), (by decide : 0 + 0 ≤ _)⟩)
      dsimp only [Pt.U, Pt.locs, Pt.cells, Pt.slots] at X1 l1 y1 z1 st1 hQ1
      subst l1 y1 z1
      obtain ⟨rfl, rfl, e1⟩ := hQ1
      try rw [List.append_nil] at X1
      refine step (fun t k => st1.trans k) ?_
      show G T1 (mkF m 17 #[.val (.ref o0), .val (.int p1), .val (.int p2), .val (.int d), .val (.int (Int32.ofNat k)), s5] [(.int ([y0, y1, y2, y3, y4, y5].getD k 0))])
      obtain ⟨ch, hch⟩ : ∃ z : Int32, z = ([y0, y1, y2, y3, y4, y5].getD k 0) := ⟨_, rfl⟩
      rw [← hch]
      rw [← hch] at hres
      show G T1 (mkF m 17 #[.val (.ref o0), .val (.int p1), .val (.int p2), .val (.int d), .val (.int (Int32.ofNat k)), s5] [(.int ch)])
      refine step (fun t k_ => XS.istore X1.here hx rfl (hb hby d3_17) rfl (l' := #[.val (.ref o0), .val (.int p1), .val (.int p2), .val (.int d), .val (.int (Int32.ofNat k)), .val (.int ch)]) (XS.store1 rfl h5 rfl) k_) ?_
      show G T1 (mkF m 19 #[.val (.ref o0), .val (.int p1), .val (.int p2), .val (.int d), .val (.int (Int32.ofNat k)), .val (.int ch)] [])
      refine step (fun t k => XS.iload X1.here hx rfl (hb hby d3_19) rfl k) ?_
      show G T1 (mkF m 21 #[.val (.ref o0), .val (.int p1), .val (.int p2), .val (.int d), .val (.int (Int32.ofNat k)), .val (.int ch)] [(.int ch)])
      refine step (fun t k => XS.bipush X1.here hx rfl (hb hby d3_21) k) ?_
      show G T1 (mkF m 23 #[.val (.ref o0), .val (.int p1), .val (.int p2), .val (.int d), .val (.int (Int32.ofNat k)), .val (.int ch)] [(.int 123), (.int ch)])
      by_cases hc2 : ch = (123 : Int32)
      · skip
        refine step (fun t k => XS.icmpNo X1.here hx rfl (hb hby d3_23) rfl (teq hc2).2 k) ?_
        show G T1 (mkF m 26 #[.val (.ref o0), .val (.int p1), .val (.int p2), .val (.int d), .val (.int (Int32.ofNat k)), .val (.int ch)] [])
        refine step (fun t k_ => XS.iinc X1.here hx rfl (hb hby d3_26) rfl (l' := #[.val (.ref o0), .val (.int p1), .val (.int p2), .val (.int (d + (1 : Int32))), .val (.int (Int32.ofNat k)), .val (.int ch)]) rfl k_) ?_
        show G T1 (mkF m 29 #[.val (.ref o0), .val (.int p1), .val (.int p2), .val (.int (d + (1 : Int32))), .val (.int (Int32.ofNat k)), .val (.int ch)] [])
        refine step (fun t k => XS.goto X1.here hx rfl (pc0 := 29) (pc' := 49) rfl (hb hby d3_29) (by decide) (by decide) k) ?_
        show G T1 (mkF m 49 #[.val (.ref o0), .val (.int p1), .val (.int p2), .val (.int (d + (1 : Int32))), .val (.int (Int32.ofNat k)), .val (.int ch)] [])
        refine step (fun t k_ => XS.iinc X1.here hx rfl (hb hby d3_49) rfl (l' := #[.val (.ref o0), .val (.int p1), .val (.int p2), .val (.int (d + (1 : Int32))), .val (.int ((Int32.ofNat k) + (1 : Int32))), .val (.int ch)]) rfl k_) ?_
        show G T1 (mkF m 52 #[.val (.ref o0), .val (.int p1), .val (.int p2), .val (.int (d + (1 : Int32))), .val (.int ((Int32.ofNat k) + (1 : Int32))), .val (.int ch)] [])
        rw [own_succ]
        refine step (fun t k => XS.goto X1.here hx rfl (pc0 := 52) (pc' := 5) rfl (hb hby d3_52) (by decide) (by decide) k) ?_
        rw [if_pos hc2] at hres
        exact ih (k + 1) (d + (1 : Int32)) (.val (.int ch)) T1 X1 e1 (One.val rfl) (by omega) hres
      · skip
        refine step (fun t k => XS.icmpYes X1.here hx rfl (pc0 := 23) (pc' := 32) rfl (hb hby d3_23) rfl (feq hc2).2 (by decide) (by decide) k) ?_
        show G T1 (mkF m 32 #[.val (.ref o0), .val (.int p1), .val (.int p2), .val (.int d), .val (.int (Int32.ofNat k)), .val (.int ch)] [])
        refine step (fun t k => XS.iload X1.here hx rfl (hb hby d3_32) rfl k) ?_
        show G T1 (mkF m 34 #[.val (.ref o0), .val (.int p1), .val (.int p2), .val (.int d), .val (.int (Int32.ofNat k)), .val (.int ch)] [(.int ch)])
        refine step (fun t k => XS.bipush X1.here hx rfl (hb hby d3_34) k) ?_
        show G T1 (mkF m 36 #[.val (.ref o0), .val (.int p1), .val (.int p2), .val (.int d), .val (.int (Int32.ofNat k)), .val (.int ch)] [(.int 125), (.int ch)])
        by_cases hc3 : ch = (125 : Int32)
        · skip
          refine step (fun t k => XS.icmpNo X1.here hx rfl (hb hby d3_36) rfl (teq hc3).2 k) ?_
          show G T1 (mkF m 39 #[.val (.ref o0), .val (.int p1), .val (.int p2), .val (.int d), .val (.int (Int32.ofNat k)), .val (.int ch)] [])
          refine step (fun t k_ => XS.iinc X1.here hx rfl (hb hby d3_39) rfl (l' := #[.val (.ref o0), .val (.int p1), .val (.int p2), .val (.int (d + (-1 : Int32))), .val (.int (Int32.ofNat k)), .val (.int ch)]) rfl k_) ?_
          show G T1 (mkF m 42 #[.val (.ref o0), .val (.int p1), .val (.int p2), .val (.int (d + (-1 : Int32))), .val (.int (Int32.ofNat k)), .val (.int ch)] [])
          refine step (fun t k => XS.iloadN X1.here hx rfl (hb hby d3_42) rfl k) ?_
          show G T1 (mkF m 43 #[.val (.ref o0), .val (.int p1), .val (.int p2), .val (.int (d + (-1 : Int32))), .val (.int (Int32.ofNat k)), .val (.int ch)] [(.int (d + (-1 : Int32)))])
          by_cases hc4 : (d + (-1 : Int32)) = (0 : Int32)
          · skip
            refine step (fun t k => XS.ifNo X1.here hx rfl (hb hby d3_43) rfl ((if0 _ _).trans (teq hc4).2) k) ?_
            show G T1 (mkF m 46 #[.val (.ref o0), .val (.int p1), .val (.int p2), .val (.int (d + (-1 : Int32))), .val (.int (Int32.ofNat k)), .val (.int ch)] [])
            refine step (fun t k => XS.iload X1.here hx rfl (hb hby d3_46) rfl k) ?_
            show G T1 (mkF m 48 #[.val (.ref o0), .val (.int p1), .val (.int p2), .val (.int (d + (-1 : Int32))), .val (.int (Int32.ofNat k)), .val (.int ch)] [(.int (Int32.ofNat k))])
            rw [if_neg hc2, if_pos hc3, if_pos hc4] at hres
            exact ret (v := some (.int (Int32.ofNat k))) X1 (fun h => by rw [Bd.returns] at h; cases h) (fun fs hr => retI X1 hx Bd.returns (hb hby d3_48) hr) e1 ⟨congrArg (fun z => some (Value.int z)) hres, N0, rfl⟩ (by decide) (by decide)
          · skip
            refine step (fun t k => XS.ifYes X1.here hx rfl (pc0 := 43) (pc' := 49) rfl (hb hby d3_43) rfl ((if0 _ _).trans (feq hc4).2) (by decide) (by decide) k) ?_
            show G T1 (mkF m 49 #[.val (.ref o0), .val (.int p1), .val (.int p2), .val (.int (d + (-1 : Int32))), .val (.int (Int32.ofNat k)), .val (.int ch)] [])
            refine step (fun t k_ => XS.iinc X1.here hx rfl (hb hby d3_49) rfl (l' := #[.val (.ref o0), .val (.int p1), .val (.int p2), .val (.int (d + (-1 : Int32))), .val (.int ((Int32.ofNat k) + (1 : Int32))), .val (.int ch)]) rfl k_) ?_
            show G T1 (mkF m 52 #[.val (.ref o0), .val (.int p1), .val (.int p2), .val (.int (d + (-1 : Int32))), .val (.int ((Int32.ofNat k) + (1 : Int32))), .val (.int ch)] [])
            rw [own_succ]
            refine step (fun t k => XS.goto X1.here hx rfl (pc0 := 52) (pc' := 5) rfl (hb hby d3_52) (by decide) (by decide) k) ?_
            rw [if_neg hc2, if_pos hc3, if_neg hc4] at hres
            exact ih (k + 1) (d + (-1 : Int32)) (.val (.int ch)) T1 X1 e1 (One.val rfl) (by omega) hres
        · skip
          refine step (fun t k => XS.icmpYes X1.here hx rfl (pc0 := 36) (pc' := 49) rfl (hb hby d3_36) rfl (feq hc3).2 (by decide) (by decide) k) ?_
          show G T1 (mkF m 49 #[.val (.ref o0), .val (.int p1), .val (.int p2), .val (.int d), .val (.int (Int32.ofNat k)), .val (.int ch)] [])
          refine step (fun t k_ => XS.iinc X1.here hx rfl (hb hby d3_49) rfl (l' := #[.val (.ref o0), .val (.int p1), .val (.int p2), .val (.int d), .val (.int ((Int32.ofNat k) + (1 : Int32))), .val (.int ch)]) rfl k_) ?_
          show G T1 (mkF m 52 #[.val (.ref o0), .val (.int p1), .val (.int p2), .val (.int d), .val (.int ((Int32.ofNat k) + (1 : Int32))), .val (.int ch)] [])
          rw [own_succ]
          refine step (fun t k => XS.goto X1.here hx rfl (pc0 := 52) (pc' := 5) rfl (hb hby d3_52) (by decide) (by decide) k) ?_
          rw [if_neg hc2, if_neg hc3] at hres
          exact ih (k + 1) d (.val (.int ch)) T1 X1 e1 (One.val rfl) (by omega) hres
  have hL := loop (N - K0) K0 0 .unset s₁ X0 e0 One.u (by omega) rfl
  rw [← hp1] at hL
  exact hL
theorem own_step (ys : List Int32) (N n k : Nat) (d v : Int32) (hv : v = (if ys.getD k 0 = (123 : Int32) then (1 : Int32) else if ys.getD k 0 = (125 : Int32) then (-1 : Int32) else (0 : Int32))) : own_go ys N (n + 1) k d = if ys.getD k 0 = (125 : Int32) ∧ d + v = (0 : Int32) then Int32.ofNat k else own_go ys N n (k + 1) (d + v) := by
  rw [own_go]
  by_cases h1 : ys.getD k 0 = (123 : Int32)
  · rw [if_pos h1] at hv ⊢
    rw [hv, if_neg (fun q => absurd (h1.symm.trans q.1) (by decide))]
  · rw [if_neg h1] at hv ⊢
    by_cases h2 : ys.getD k 0 = (125 : Int32)
    · rw [if_pos h2] at hv ⊢
      rw [hv]
      by_cases h3 : (d + (-1 : Int32)) = (0 : Int32)
      · rw [if_pos h3, if_pos ⟨h2, h3⟩]
      · rw [if_neg h3, if_neg (fun q => h3 q.2)]
    · rw [if_neg h2] at hv ⊢
      rw [hv, if_neg (fun q => h2 q.1), Int32.add_zero]
def own_vv (y : Int32) : Int32 := if y = (123 : Int32) then (1 : Int32) else if y = (125 : Int32) then (-1 : Int32) else (0 : Int32)
theorem own_tt {a P : Prop} [ia : Decidable (a ∧ P)] [ip : Decidable P] {α : Type} (h : a) (x y : α) : (if a ∧ P then x else y) = (if P then x else y) := by
  by_cases q : P
  · rw [if_pos q, if_pos ⟨h, q⟩]
  · rw [if_neg q, if_neg (fun z => q z.2)]
theorem own_fin0 (y0 y1 y2 y3 y4 y5 : Int32) (d0 d1 d2 d3 d4 d5 : Int32) (N : Nat) (hKN : 0 ≤ N) (hN6 : N ≤ 6) (hd0 : d0 = 0 + own_vv y0) (hd1 : d1 = d0 + own_vv y1) (hd2 : d2 = d1 + own_vv y2) (hd3 : d3 = d2 + own_vv y3) (hd4 : d4 = d3 + own_vv y4) (hd5 : d5 = d4 + own_vv y5) : own_go [y0, y1, y2, y3, y4, y5] N (N - 0) 0 0 = (if 0 < N ∧ y0 = (125 : Int32) ∧ d0 = (0 : Int32) then (0 : Int32) else (if 1 < N ∧ y1 = (125 : Int32) ∧ d1 = (0 : Int32) then (1 : Int32) else (if 2 < N ∧ y2 = (125 : Int32) ∧ d2 = (0 : Int32) then (2 : Int32) else (if 3 < N ∧ y3 = (125 : Int32) ∧ d3 = (0 : Int32) then (3 : Int32) else (if 4 < N ∧ y4 = (125 : Int32) ∧ d4 = (0 : Int32) then (4 : Int32) else (if 5 < N ∧ y5 = (125 : Int32) ∧ d5 = (0 : Int32) then (5 : Int32) else Int32.ofNat N)))))) := by
  have s0 := fun n d => own_step [y0, y1, y2, y3, y4, y5] N n 0 d (own_vv y0) rfl
  have s1 := fun n d => own_step [y0, y1, y2, y3, y4, y5] N n 1 d (own_vv y1) rfl
  have s2 := fun n d => own_step [y0, y1, y2, y3, y4, y5] N n 2 d (own_vv y2) rfl
  have s3 := fun n d => own_step [y0, y1, y2, y3, y4, y5] N n 3 d (own_vv y3) rfl
  have s4 := fun n d => own_step [y0, y1, y2, y3, y4, y5] N n 4 d (own_vv y4) rfl
  have s5 := fun n d => own_step [y0, y1, y2, y3, y4, y5] N n 5 d (own_vv y5) rfl
  obtain rfl | rfl | rfl | rfl | rfl | rfl | rfl : N = 0 ∨ N = 1 ∨ N = 2 ∨ N = 3 ∨ N = 4 ∨ N = 5 ∨ N = 6 := by omega
  · show own_go [y0, y1, y2, y3, y4, y5] 0 0 0 0 = _
    rw [if_neg (fun q : 0 < 0 ∧ _ => absurd q.1 (by decide))]
    rw [if_neg (fun q : 1 < 0 ∧ _ => absurd q.1 (by decide))]
    rw [if_neg (fun q : 2 < 0 ∧ _ => absurd q.1 (by decide))]
    rw [if_neg (fun q : 3 < 0 ∧ _ => absurd q.1 (by decide))]
    rw [if_neg (fun q : 4 < 0 ∧ _ => absurd q.1 (by decide))]
    rw [if_neg (fun q : 5 < 0 ∧ _ => absurd q.1 (by decide))]
    rfl
  · show own_go [y0, y1, y2, y3, y4, y5] 1 1 0 0 = _
    rw [s0, ← hd0]
    rw [own_tt (by decide : 0 < 1)]
    rw [if_neg (fun q : 1 < 1 ∧ _ => absurd q.1 (by decide))]
    rw [if_neg (fun q : 2 < 1 ∧ _ => absurd q.1 (by decide))]
    rw [if_neg (fun q : 3 < 1 ∧ _ => absurd q.1 (by decide))]
    rw [if_neg (fun q : 4 < 1 ∧ _ => absurd q.1 (by decide))]
    rw [if_neg (fun q : 5 < 1 ∧ _ => absurd q.1 (by decide))]
    rfl
  · show own_go [y0, y1, y2, y3, y4, y5] 2 2 0 0 = _
    rw [s0, ← hd0]
    rw [s1, ← hd1]
    rw [own_tt (by decide : 0 < 2)]
    rw [own_tt (by decide : 1 < 2)]
    rw [if_neg (fun q : 2 < 2 ∧ _ => absurd q.1 (by decide))]
    rw [if_neg (fun q : 3 < 2 ∧ _ => absurd q.1 (by decide))]
    rw [if_neg (fun q : 4 < 2 ∧ _ => absurd q.1 (by decide))]
    rw [if_neg (fun q : 5 < 2 ∧ _ => absurd q.1 (by decide))]
    rfl
  · show own_go [y0, y1, y2, y3, y4, y5] 3 3 0 0 = _
    rw [s0, ← hd0]
    rw [s1, ← hd1]
    rw [s2, ← hd2]
    rw [own_tt (by decide : 0 < 3)]
    rw [own_tt (by decide : 1 < 3)]
    rw [own_tt (by decide : 2 < 3)]
    rw [if_neg (fun q : 3 < 3 ∧ _ => absurd q.1 (by decide))]
    rw [if_neg (fun q : 4 < 3 ∧ _ => absurd q.1 (by decide))]
    rw [if_neg (fun q : 5 < 3 ∧ _ => absurd q.1 (by decide))]
    rfl
  · show own_go [y0, y1, y2, y3, y4, y5] 4 4 0 0 = _
    rw [s0, ← hd0]
    rw [s1, ← hd1]
    rw [s2, ← hd2]
    rw [s3, ← hd3]
    rw [own_tt (by decide : 0 < 4)]
    rw [own_tt (by decide : 1 < 4)]
    rw [own_tt (by decide : 2 < 4)]
    rw [own_tt (by decide : 3 < 4)]
    rw [if_neg (fun q : 4 < 4 ∧ _ => absurd q.1 (by decide))]
    rw [if_neg (fun q : 5 < 4 ∧ _ => absurd q.1 (by decide))]
    rfl
  · show own_go [y0, y1, y2, y3, y4, y5] 5 5 0 0 = _
    rw [s0, ← hd0]
    rw [s1, ← hd1]
    rw [s2, ← hd2]
    rw [s3, ← hd3]
    rw [s4, ← hd4]
    rw [own_tt (by decide : 0 < 5)]
    rw [own_tt (by decide : 1 < 5)]
    rw [own_tt (by decide : 2 < 5)]
    rw [own_tt (by decide : 3 < 5)]
    rw [own_tt (by decide : 4 < 5)]
    rw [if_neg (fun q : 5 < 5 ∧ _ => absurd q.1 (by decide))]
    rfl
  · show own_go [y0, y1, y2, y3, y4, y5] 6 6 0 0 = _
    rw [s0, ← hd0]
    rw [s1, ← hd1]
    rw [s2, ← hd2]
    rw [s3, ← hd3]
    rw [s4, ← hd4]
    rw [s5, ← hd5]
    rw [own_tt (by decide : 0 < 6)]
    rw [own_tt (by decide : 1 < 6)]
    rw [own_tt (by decide : 2 < 6)]
    rw [own_tt (by decide : 3 < 6)]
    rw [own_tt (by decide : 4 < 6)]
    rw [own_tt (by decide : 5 < 6)]
    rfl
theorem own_fin1 (y0 y1 y2 y3 y4 y5 : Int32) (d1 d2 d3 d4 d5 : Int32) (N : Nat) (hKN : 1 ≤ N) (hN6 : N ≤ 6) (hd1 : d1 = 0 + own_vv y1) (hd2 : d2 = d1 + own_vv y2) (hd3 : d3 = d2 + own_vv y3) (hd4 : d4 = d3 + own_vv y4) (hd5 : d5 = d4 + own_vv y5) : own_go [y0, y1, y2, y3, y4, y5] N (N - 1) 1 0 = (if 1 < N ∧ y1 = (125 : Int32) ∧ d1 = (0 : Int32) then (1 : Int32) else (if 2 < N ∧ y2 = (125 : Int32) ∧ d2 = (0 : Int32) then (2 : Int32) else (if 3 < N ∧ y3 = (125 : Int32) ∧ d3 = (0 : Int32) then (3 : Int32) else (if 4 < N ∧ y4 = (125 : Int32) ∧ d4 = (0 : Int32) then (4 : Int32) else (if 5 < N ∧ y5 = (125 : Int32) ∧ d5 = (0 : Int32) then (5 : Int32) else Int32.ofNat N))))) := by
  have s1 := fun n d => own_step [y0, y1, y2, y3, y4, y5] N n 1 d (own_vv y1) rfl
  have s2 := fun n d => own_step [y0, y1, y2, y3, y4, y5] N n 2 d (own_vv y2) rfl
  have s3 := fun n d => own_step [y0, y1, y2, y3, y4, y5] N n 3 d (own_vv y3) rfl
  have s4 := fun n d => own_step [y0, y1, y2, y3, y4, y5] N n 4 d (own_vv y4) rfl
  have s5 := fun n d => own_step [y0, y1, y2, y3, y4, y5] N n 5 d (own_vv y5) rfl
  obtain rfl | rfl | rfl | rfl | rfl | rfl : N = 1 ∨ N = 2 ∨ N = 3 ∨ N = 4 ∨ N = 5 ∨ N = 6 := by omega
  · show own_go [y0, y1, y2, y3, y4, y5] 1 0 1 0 = _
    rw [if_neg (fun q : 1 < 1 ∧ _ => absurd q.1 (by decide))]
    rw [if_neg (fun q : 2 < 1 ∧ _ => absurd q.1 (by decide))]
    rw [if_neg (fun q : 3 < 1 ∧ _ => absurd q.1 (by decide))]
    rw [if_neg (fun q : 4 < 1 ∧ _ => absurd q.1 (by decide))]
    rw [if_neg (fun q : 5 < 1 ∧ _ => absurd q.1 (by decide))]
    rfl
  · show own_go [y0, y1, y2, y3, y4, y5] 2 1 1 0 = _
    rw [s1, ← hd1]
    rw [own_tt (by decide : 1 < 2)]
    rw [if_neg (fun q : 2 < 2 ∧ _ => absurd q.1 (by decide))]
    rw [if_neg (fun q : 3 < 2 ∧ _ => absurd q.1 (by decide))]
    rw [if_neg (fun q : 4 < 2 ∧ _ => absurd q.1 (by decide))]
    rw [if_neg (fun q : 5 < 2 ∧ _ => absurd q.1 (by decide))]
    rfl
  · show own_go [y0, y1, y2, y3, y4, y5] 3 2 1 0 = _
    rw [s1, ← hd1]
    rw [s2, ← hd2]
    rw [own_tt (by decide : 1 < 3)]
    rw [own_tt (by decide : 2 < 3)]
    rw [if_neg (fun q : 3 < 3 ∧ _ => absurd q.1 (by decide))]
    rw [if_neg (fun q : 4 < 3 ∧ _ => absurd q.1 (by decide))]
    rw [if_neg (fun q : 5 < 3 ∧ _ => absurd q.1 (by decide))]
    rfl
  · show own_go [y0, y1, y2, y3, y4, y5] 4 3 1 0 = _
    rw [s1, ← hd1]
    rw [s2, ← hd2]
    rw [s3, ← hd3]
    rw [own_tt (by decide : 1 < 4)]
    rw [own_tt (by decide : 2 < 4)]
    rw [own_tt (by decide : 3 < 4)]
    rw [if_neg (fun q : 4 < 4 ∧ _ => absurd q.1 (by decide))]
    rw [if_neg (fun q : 5 < 4 ∧ _ => absurd q.1 (by decide))]
    rfl
  · show own_go [y0, y1, y2, y3, y4, y5] 5 4 1 0 = _
    rw [s1, ← hd1]
    rw [s2, ← hd2]
    rw [s3, ← hd3]
    rw [s4, ← hd4]
    rw [own_tt (by decide : 1 < 5)]
    rw [own_tt (by decide : 2 < 5)]
    rw [own_tt (by decide : 3 < 5)]
    rw [own_tt (by decide : 4 < 5)]
    rw [if_neg (fun q : 5 < 5 ∧ _ => absurd q.1 (by decide))]
    rfl
  · show own_go [y0, y1, y2, y3, y4, y5] 6 5 1 0 = _
    rw [s1, ← hd1]
    rw [s2, ← hd2]
    rw [s3, ← hd3]
    rw [s4, ← hd4]
    rw [s5, ← hd5]
    rw [own_tt (by decide : 1 < 6)]
    rw [own_tt (by decide : 2 < 6)]
    rw [own_tt (by decide : 3 < 6)]
    rw [own_tt (by decide : 4 < 6)]
    rw [own_tt (by decide : 5 < 6)]
    rfl
theorem own_fin2 (y0 y1 y2 y3 y4 y5 : Int32) (d2 d3 d4 d5 : Int32) (N : Nat) (hKN : 2 ≤ N) (hN6 : N ≤ 6) (hd2 : d2 = 0 + own_vv y2) (hd3 : d3 = d2 + own_vv y3) (hd4 : d4 = d3 + own_vv y4) (hd5 : d5 = d4 + own_vv y5) : own_go [y0, y1, y2, y3, y4, y5] N (N - 2) 2 0 = (if 2 < N ∧ y2 = (125 : Int32) ∧ d2 = (0 : Int32) then (2 : Int32) else (if 3 < N ∧ y3 = (125 : Int32) ∧ d3 = (0 : Int32) then (3 : Int32) else (if 4 < N ∧ y4 = (125 : Int32) ∧ d4 = (0 : Int32) then (4 : Int32) else (if 5 < N ∧ y5 = (125 : Int32) ∧ d5 = (0 : Int32) then (5 : Int32) else Int32.ofNat N)))) := by
  have s2 := fun n d => own_step [y0, y1, y2, y3, y4, y5] N n 2 d (own_vv y2) rfl
  have s3 := fun n d => own_step [y0, y1, y2, y3, y4, y5] N n 3 d (own_vv y3) rfl
  have s4 := fun n d => own_step [y0, y1, y2, y3, y4, y5] N n 4 d (own_vv y4) rfl
  have s5 := fun n d => own_step [y0, y1, y2, y3, y4, y5] N n 5 d (own_vv y5) rfl
  obtain rfl | rfl | rfl | rfl | rfl : N = 2 ∨ N = 3 ∨ N = 4 ∨ N = 5 ∨ N = 6 := by omega
  · show own_go [y0, y1, y2, y3, y4, y5] 2 0 2 0 = _
    rw [if_neg (fun q : 2 < 2 ∧ _ => absurd q.1 (by decide))]
    rw [if_neg (fun q : 3 < 2 ∧ _ => absurd q.1 (by decide))]
    rw [if_neg (fun q : 4 < 2 ∧ _ => absurd q.1 (by decide))]
    rw [if_neg (fun q : 5 < 2 ∧ _ => absurd q.1 (by decide))]
    rfl
  · show own_go [y0, y1, y2, y3, y4, y5] 3 1 2 0 = _
    rw [s2, ← hd2]
    rw [own_tt (by decide : 2 < 3)]
    rw [if_neg (fun q : 3 < 3 ∧ _ => absurd q.1 (by decide))]
    rw [if_neg (fun q : 4 < 3 ∧ _ => absurd q.1 (by decide))]
    rw [if_neg (fun q : 5 < 3 ∧ _ => absurd q.1 (by decide))]
    rfl
  · show own_go [y0, y1, y2, y3, y4, y5] 4 2 2 0 = _
    rw [s2, ← hd2]
    rw [s3, ← hd3]
    rw [own_tt (by decide : 2 < 4)]
    rw [own_tt (by decide : 3 < 4)]
    rw [if_neg (fun q : 4 < 4 ∧ _ => absurd q.1 (by decide))]
    rw [if_neg (fun q : 5 < 4 ∧ _ => absurd q.1 (by decide))]
    rfl
  · show own_go [y0, y1, y2, y3, y4, y5] 5 3 2 0 = _
    rw [s2, ← hd2]
    rw [s3, ← hd3]
    rw [s4, ← hd4]
    rw [own_tt (by decide : 2 < 5)]
    rw [own_tt (by decide : 3 < 5)]
    rw [own_tt (by decide : 4 < 5)]
    rw [if_neg (fun q : 5 < 5 ∧ _ => absurd q.1 (by decide))]
    rfl
  · show own_go [y0, y1, y2, y3, y4, y5] 6 4 2 0 = _
    rw [s2, ← hd2]
    rw [s3, ← hd3]
    rw [s4, ← hd4]
    rw [s5, ← hd5]
    rw [own_tt (by decide : 2 < 6)]
    rw [own_tt (by decide : 3 < 6)]
    rw [own_tt (by decide : 4 < 6)]
    rw [own_tt (by decide : 5 < 6)]
    rfl
theorem own_fin3 (y0 y1 y2 y3 y4 y5 : Int32) (d3 d4 d5 : Int32) (N : Nat) (hKN : 3 ≤ N) (hN6 : N ≤ 6) (hd3 : d3 = 0 + own_vv y3) (hd4 : d4 = d3 + own_vv y4) (hd5 : d5 = d4 + own_vv y5) : own_go [y0, y1, y2, y3, y4, y5] N (N - 3) 3 0 = (if 3 < N ∧ y3 = (125 : Int32) ∧ d3 = (0 : Int32) then (3 : Int32) else (if 4 < N ∧ y4 = (125 : Int32) ∧ d4 = (0 : Int32) then (4 : Int32) else (if 5 < N ∧ y5 = (125 : Int32) ∧ d5 = (0 : Int32) then (5 : Int32) else Int32.ofNat N))) := by
  have s3 := fun n d => own_step [y0, y1, y2, y3, y4, y5] N n 3 d (own_vv y3) rfl
  have s4 := fun n d => own_step [y0, y1, y2, y3, y4, y5] N n 4 d (own_vv y4) rfl
  have s5 := fun n d => own_step [y0, y1, y2, y3, y4, y5] N n 5 d (own_vv y5) rfl
  obtain rfl | rfl | rfl | rfl : N = 3 ∨ N = 4 ∨ N = 5 ∨ N = 6 := by omega
  · show own_go [y0, y1, y2, y3, y4, y5] 3 0 3 0 = _
    rw [if_neg (fun q : 3 < 3 ∧ _ => absurd q.1 (by decide))]
    rw [if_neg (fun q : 4 < 3 ∧ _ => absurd q.1 (by decide))]
    rw [if_neg (fun q : 5 < 3 ∧ _ => absurd q.1 (by decide))]
    rfl
  · show own_go [y0, y1, y2, y3, y4, y5] 4 1 3 0 = _
    rw [s3, ← hd3]
    rw [own_tt (by decide : 3 < 4)]
    rw [if_neg (fun q : 4 < 4 ∧ _ => absurd q.1 (by decide))]
    rw [if_neg (fun q : 5 < 4 ∧ _ => absurd q.1 (by decide))]
    rfl
  · show own_go [y0, y1, y2, y3, y4, y5] 5 2 3 0 = _
    rw [s3, ← hd3]
    rw [s4, ← hd4]
    rw [own_tt (by decide : 3 < 5)]
    rw [own_tt (by decide : 4 < 5)]
    rw [if_neg (fun q : 5 < 5 ∧ _ => absurd q.1 (by decide))]
    rfl
  · show own_go [y0, y1, y2, y3, y4, y5] 6 3 3 0 = _
    rw [s3, ← hd3]
    rw [s4, ← hd4]
    rw [s5, ← hd5]
    rw [own_tt (by decide : 3 < 6)]
    rw [own_tt (by decide : 4 < 6)]
    rw [own_tt (by decide : 5 < 6)]
    rfl
theorem own_fin4 (y0 y1 y2 y3 y4 y5 : Int32) (d4 d5 : Int32) (N : Nat) (hKN : 4 ≤ N) (hN6 : N ≤ 6) (hd4 : d4 = 0 + own_vv y4) (hd5 : d5 = d4 + own_vv y5) : own_go [y0, y1, y2, y3, y4, y5] N (N - 4) 4 0 = (if 4 < N ∧ y4 = (125 : Int32) ∧ d4 = (0 : Int32) then (4 : Int32) else (if 5 < N ∧ y5 = (125 : Int32) ∧ d5 = (0 : Int32) then (5 : Int32) else Int32.ofNat N)) := by
  have s4 := fun n d => own_step [y0, y1, y2, y3, y4, y5] N n 4 d (own_vv y4) rfl
  have s5 := fun n d => own_step [y0, y1, y2, y3, y4, y5] N n 5 d (own_vv y5) rfl
  obtain rfl | rfl | rfl : N = 4 ∨ N = 5 ∨ N = 6 := by omega
  · show own_go [y0, y1, y2, y3, y4, y5] 4 0 4 0 = _
    rw [if_neg (fun q : 4 < 4 ∧ _ => absurd q.1 (by decide))]
    rw [if_neg (fun q : 5 < 4 ∧ _ => absurd q.1 (by decide))]
    rfl
  · show own_go [y0, y1, y2, y3, y4, y5] 5 1 4 0 = _
    rw [s4, ← hd4]
    rw [own_tt (by decide : 4 < 5)]
    rw [if_neg (fun q : 5 < 5 ∧ _ => absurd q.1 (by decide))]
    rfl
  · show own_go [y0, y1, y2, y3, y4, y5] 6 2 4 0 = _
    rw [s4, ← hd4]
    rw [s5, ← hd5]
    rw [own_tt (by decide : 4 < 6)]
    rw [own_tt (by decide : 5 < 6)]
    rfl
theorem own_fin5 (y0 y1 y2 y3 y4 y5 : Int32) (d5 : Int32) (N : Nat) (hKN : 5 ≤ N) (hN6 : N ≤ 6) (hd5 : d5 = 0 + own_vv y5) : own_go [y0, y1, y2, y3, y4, y5] N (N - 5) 5 0 = (if 5 < N ∧ y5 = (125 : Int32) ∧ d5 = (0 : Int32) then (5 : Int32) else Int32.ofNat N) := by
  have s5 := fun n d => own_step [y0, y1, y2, y3, y4, y5] N n 5 d (own_vv y5) rfl
  obtain rfl | rfl : N = 5 ∨ N = 6 := by omega
  · show own_go [y0, y1, y2, y3, y4, y5] 5 0 5 0 = _
    rw [if_neg (fun q : 5 < 5 ∧ _ => absurd q.1 (by decide))]
    rfl
  · show own_go [y0, y1, y2, y3, y4, y5] 6 1 5 0 = _
    rw [s5, ← hd5]
    rw [own_tt (by decide : 5 < 6)]
    rfl
theorem own_hy0 {w_COMPACT_STRINGS : Int32} {w_SIOOBE_FORMATTER : Value} {o0 : Addr} {p2 p3 p4 : Int32} {ka : ClassId} {x0 x1 x2 x3 x4 x5 : Int32} {N : Nat} (hp2 : ¬ (0 : Int32) < p2) (hp3 : p3 = Int32.ofNat N) (hN : N ≤ 6) (h : ¬ (f_h0 w_COMPACT_STRINGS w_SIOOBE_FORMATTER o0 p2 p3 p4 ka x0 x1 x2 x3 x4 x5) = (0 : Int32)) : 0 < N ∧ x0 = (125 : Int32) ∧ p4 = (0 : Int32) := by
  unfold f_h0 at h
  rw [if_neg hp2] at h
  by_cases a1 : (0 : Int32) < p3
  · rw [if_pos a1] at h
    by_cases a2 : x0 = (125 : Int32)
    · rw [if_pos a2] at h
      by_cases a3 : p4 = (0 : Int32)
      · rw [hp3] at a1
        exact ⟨(own_ltn (k := 0) (by decide) hN).mp a1, a2, a3⟩
      · rw [if_neg a3] at h; exact absurd rfl h
    · rw [if_neg a2] at h; exact absurd rfl h
  · rw [if_neg a1] at h; exact absurd rfl h
theorem own_hn0 {w_COMPACT_STRINGS : Int32} {w_SIOOBE_FORMATTER : Value} {o0 : Addr} {p2 p3 p4 : Int32} {ka : ClassId} {x0 x1 x2 x3 x4 x5 : Int32} {N : Nat} (hp2 : ¬ (0 : Int32) < p2) (hp3 : p3 = Int32.ofNat N) (hN : N ≤ 6) (h : (f_h0 w_COMPACT_STRINGS w_SIOOBE_FORMATTER o0 p2 p3 p4 ka x0 x1 x2 x3 x4 x5) = (0 : Int32)) : ¬ (0 < N ∧ x0 = (125 : Int32) ∧ p4 = (0 : Int32)) := by
  intro q
  unfold f_h0 at h
  rw [if_neg hp2, if_pos (by rw [hp3]; exact (own_ltn (k := 0) (by decide) hN).mpr q.1 : (0 : Int32) < p3), if_pos q.2.1, if_pos q.2.2] at h
  exact absurd h (by decide)
theorem own_hy1 {w_COMPACT_STRINGS : Int32} {w_SIOOBE_FORMATTER : Value} {o0 : Addr} {p2 p3 p4 : Int32} {ka : ClassId} {x0 x1 x2 x3 x4 x5 : Int32} {N : Nat} (hp2 : ¬ (1 : Int32) < p2) (hp3 : p3 = Int32.ofNat N) (hN : N ≤ 6) (h : ¬ (f_h1 w_COMPACT_STRINGS w_SIOOBE_FORMATTER o0 p2 p3 p4 ka x0 x1 x2 x3 x4 x5) = (0 : Int32)) : 1 < N ∧ x1 = (125 : Int32) ∧ p4 = (0 : Int32) := by
  unfold f_h1 at h
  rw [if_neg hp2] at h
  by_cases a1 : (1 : Int32) < p3
  · rw [if_pos a1] at h
    by_cases a2 : x1 = (125 : Int32)
    · rw [if_pos a2] at h
      by_cases a3 : p4 = (0 : Int32)
      · rw [hp3] at a1
        exact ⟨(own_ltn (k := 1) (by decide) hN).mp a1, a2, a3⟩
      · rw [if_neg a3] at h; exact absurd rfl h
    · rw [if_neg a2] at h; exact absurd rfl h
  · rw [if_neg a1] at h; exact absurd rfl h
theorem own_hn1 {w_COMPACT_STRINGS : Int32} {w_SIOOBE_FORMATTER : Value} {o0 : Addr} {p2 p3 p4 : Int32} {ka : ClassId} {x0 x1 x2 x3 x4 x5 : Int32} {N : Nat} (hp2 : ¬ (1 : Int32) < p2) (hp3 : p3 = Int32.ofNat N) (hN : N ≤ 6) (h : (f_h1 w_COMPACT_STRINGS w_SIOOBE_FORMATTER o0 p2 p3 p4 ka x0 x1 x2 x3 x4 x5) = (0 : Int32)) : ¬ (1 < N ∧ x1 = (125 : Int32) ∧ p4 = (0 : Int32)) := by
  intro q
  unfold f_h1 at h
  rw [if_neg hp2, if_pos (by rw [hp3]; exact (own_ltn (k := 1) (by decide) hN).mpr q.1 : (1 : Int32) < p3), if_pos q.2.1, if_pos q.2.2] at h
  exact absurd h (by decide)
theorem own_hy2 {w_COMPACT_STRINGS : Int32} {w_SIOOBE_FORMATTER : Value} {o0 : Addr} {p2 p3 p4 : Int32} {ka : ClassId} {x0 x1 x2 x3 x4 x5 : Int32} {N : Nat} (hp2 : ¬ (2 : Int32) < p2) (hp3 : p3 = Int32.ofNat N) (hN : N ≤ 6) (h : ¬ (f_h2 w_COMPACT_STRINGS w_SIOOBE_FORMATTER o0 p2 p3 p4 ka x0 x1 x2 x3 x4 x5) = (0 : Int32)) : 2 < N ∧ x2 = (125 : Int32) ∧ p4 = (0 : Int32) := by
  unfold f_h2 at h
  rw [if_neg hp2] at h
  by_cases a1 : (2 : Int32) < p3
  · rw [if_pos a1] at h
    by_cases a2 : x2 = (125 : Int32)
    · rw [if_pos a2] at h
      by_cases a3 : p4 = (0 : Int32)
      · rw [hp3] at a1
        exact ⟨(own_ltn (k := 2) (by decide) hN).mp a1, a2, a3⟩
      · rw [if_neg a3] at h; exact absurd rfl h
    · rw [if_neg a2] at h; exact absurd rfl h
  · rw [if_neg a1] at h; exact absurd rfl h
theorem own_hn2 {w_COMPACT_STRINGS : Int32} {w_SIOOBE_FORMATTER : Value} {o0 : Addr} {p2 p3 p4 : Int32} {ka : ClassId} {x0 x1 x2 x3 x4 x5 : Int32} {N : Nat} (hp2 : ¬ (2 : Int32) < p2) (hp3 : p3 = Int32.ofNat N) (hN : N ≤ 6) (h : (f_h2 w_COMPACT_STRINGS w_SIOOBE_FORMATTER o0 p2 p3 p4 ka x0 x1 x2 x3 x4 x5) = (0 : Int32)) : ¬ (2 < N ∧ x2 = (125 : Int32) ∧ p4 = (0 : Int32)) := by
  intro q
  unfold f_h2 at h
  rw [if_neg hp2, if_pos (by rw [hp3]; exact (own_ltn (k := 2) (by decide) hN).mpr q.1 : (2 : Int32) < p3), if_pos q.2.1, if_pos q.2.2] at h
  exact absurd h (by decide)
theorem own_hy3 {w_COMPACT_STRINGS : Int32} {w_SIOOBE_FORMATTER : Value} {o0 : Addr} {p2 p3 p4 : Int32} {ka : ClassId} {x0 x1 x2 x3 x4 x5 : Int32} {N : Nat} (hp2 : ¬ (3 : Int32) < p2) (hp3 : p3 = Int32.ofNat N) (hN : N ≤ 6) (h : ¬ (f_h3 w_COMPACT_STRINGS w_SIOOBE_FORMATTER o0 p2 p3 p4 ka x0 x1 x2 x3 x4 x5) = (0 : Int32)) : 3 < N ∧ x3 = (125 : Int32) ∧ p4 = (0 : Int32) := by
  unfold f_h3 at h
  rw [if_neg hp2] at h
  by_cases a1 : (3 : Int32) < p3
  · rw [if_pos a1] at h
    by_cases a2 : x3 = (125 : Int32)
    · rw [if_pos a2] at h
      by_cases a3 : p4 = (0 : Int32)
      · rw [hp3] at a1
        exact ⟨(own_ltn (k := 3) (by decide) hN).mp a1, a2, a3⟩
      · rw [if_neg a3] at h; exact absurd rfl h
    · rw [if_neg a2] at h; exact absurd rfl h
  · rw [if_neg a1] at h; exact absurd rfl h
theorem own_hn3 {w_COMPACT_STRINGS : Int32} {w_SIOOBE_FORMATTER : Value} {o0 : Addr} {p2 p3 p4 : Int32} {ka : ClassId} {x0 x1 x2 x3 x4 x5 : Int32} {N : Nat} (hp2 : ¬ (3 : Int32) < p2) (hp3 : p3 = Int32.ofNat N) (hN : N ≤ 6) (h : (f_h3 w_COMPACT_STRINGS w_SIOOBE_FORMATTER o0 p2 p3 p4 ka x0 x1 x2 x3 x4 x5) = (0 : Int32)) : ¬ (3 < N ∧ x3 = (125 : Int32) ∧ p4 = (0 : Int32)) := by
  intro q
  unfold f_h3 at h
  rw [if_neg hp2, if_pos (by rw [hp3]; exact (own_ltn (k := 3) (by decide) hN).mpr q.1 : (3 : Int32) < p3), if_pos q.2.1, if_pos q.2.2] at h
  exact absurd h (by decide)
theorem own_hy4 {w_COMPACT_STRINGS : Int32} {w_SIOOBE_FORMATTER : Value} {o0 : Addr} {p2 p3 p4 : Int32} {ka : ClassId} {x0 x1 x2 x3 x4 x5 : Int32} {N : Nat} (hp2 : ¬ (4 : Int32) < p2) (hp3 : p3 = Int32.ofNat N) (hN : N ≤ 6) (h : ¬ (f_h4 w_COMPACT_STRINGS w_SIOOBE_FORMATTER o0 p2 p3 p4 ka x0 x1 x2 x3 x4 x5) = (0 : Int32)) : 4 < N ∧ x4 = (125 : Int32) ∧ p4 = (0 : Int32) := by
  unfold f_h4 at h
  rw [if_neg hp2] at h
  by_cases a1 : (4 : Int32) < p3
  · rw [if_pos a1] at h
    by_cases a2 : x4 = (125 : Int32)
    · rw [if_pos a2] at h
      by_cases a3 : p4 = (0 : Int32)
      · rw [hp3] at a1
        exact ⟨(own_ltn (k := 4) (by decide) hN).mp a1, a2, a3⟩
      · rw [if_neg a3] at h; exact absurd rfl h
    · rw [if_neg a2] at h; exact absurd rfl h
  · rw [if_neg a1] at h; exact absurd rfl h
theorem own_hn4 {w_COMPACT_STRINGS : Int32} {w_SIOOBE_FORMATTER : Value} {o0 : Addr} {p2 p3 p4 : Int32} {ka : ClassId} {x0 x1 x2 x3 x4 x5 : Int32} {N : Nat} (hp2 : ¬ (4 : Int32) < p2) (hp3 : p3 = Int32.ofNat N) (hN : N ≤ 6) (h : (f_h4 w_COMPACT_STRINGS w_SIOOBE_FORMATTER o0 p2 p3 p4 ka x0 x1 x2 x3 x4 x5) = (0 : Int32)) : ¬ (4 < N ∧ x4 = (125 : Int32) ∧ p4 = (0 : Int32)) := by
  intro q
  unfold f_h4 at h
  rw [if_neg hp2, if_pos (by rw [hp3]; exact (own_ltn (k := 4) (by decide) hN).mpr q.1 : (4 : Int32) < p3), if_pos q.2.1, if_pos q.2.2] at h
  exact absurd h (by decide)
theorem own_hy5 {w_COMPACT_STRINGS : Int32} {w_SIOOBE_FORMATTER : Value} {o0 : Addr} {p2 p3 p4 : Int32} {ka : ClassId} {x0 x1 x2 x3 x4 x5 : Int32} {N : Nat} (hp2 : ¬ (5 : Int32) < p2) (hp3 : p3 = Int32.ofNat N) (hN : N ≤ 6) (h : ¬ (f_h5 w_COMPACT_STRINGS w_SIOOBE_FORMATTER o0 p2 p3 p4 ka x0 x1 x2 x3 x4 x5) = (0 : Int32)) : 5 < N ∧ x5 = (125 : Int32) ∧ p4 = (0 : Int32) := by
  unfold f_h5 at h
  rw [if_neg hp2] at h
  by_cases a1 : (5 : Int32) < p3
  · rw [if_pos a1] at h
    by_cases a2 : x5 = (125 : Int32)
    · rw [if_pos a2] at h
      by_cases a3 : p4 = (0 : Int32)
      · rw [hp3] at a1
        exact ⟨(own_ltn (k := 5) (by decide) hN).mp a1, a2, a3⟩
      · rw [if_neg a3] at h; exact absurd rfl h
    · rw [if_neg a2] at h; exact absurd rfl h
  · rw [if_neg a1] at h; exact absurd rfl h
theorem own_hn5 {w_COMPACT_STRINGS : Int32} {w_SIOOBE_FORMATTER : Value} {o0 : Addr} {p2 p3 p4 : Int32} {ka : ClassId} {x0 x1 x2 x3 x4 x5 : Int32} {N : Nat} (hp2 : ¬ (5 : Int32) < p2) (hp3 : p3 = Int32.ofNat N) (hN : N ≤ 6) (h : (f_h5 w_COMPACT_STRINGS w_SIOOBE_FORMATTER o0 p2 p3 p4 ka x0 x1 x2 x3 x4 x5) = (0 : Int32)) : ¬ (5 < N ∧ x5 = (125 : Int32) ∧ p4 = (0 : Int32)) := by
  intro q
  unfold f_h5 at h
  rw [if_neg hp2, if_pos (by rw [hp3]; exact (own_ltn (k := 5) (by decide) hN).mpr q.1 : (5 : Int32) < p3), if_pos q.2.1, if_pos q.2.2] at h
  exact absurd h (by decide)
theorem own_to0 (p tt : Int32) (h : tt = ((0 : Int32) + ((p &&& (2147483647 : Int32)) % (7 : Int32)))) : ∃ N : Nat, tt = Int32.ofNat N ∧ 0 ≤ N ∧ N ≤ 6 := by
  have m1 := c_mask p (2147483647 : Int32) 31 (by decide) (by decide)
  have m2 := c_irem (p &&& (2147483647 : Int32)) (7 : Int32) 7 (by decide)
  have a1 := c_iadd (0 : Int32) ((p &&& (2147483647 : Int32)) % (7 : Int32))
  rw [← h] at a1
  have q0 : (0 : Int32).toInt = 0 := by decide
  have r := rng32 tt
  clear h
  have hb : 0 ≤ tt.toInt ∧ tt.toInt ≤ 6 := by omega
  refine ⟨tt.toInt.toNat, ?_, by omega, by omega⟩
  rw [own_xeq, Int32.toInt_ofNat_small (by omega)]
  omega
theorem own_to1 (p tt : Int32) (h : tt = ((1 : Int32) + ((p &&& (2147483647 : Int32)) % (6 : Int32)))) : ∃ N : Nat, tt = Int32.ofNat N ∧ 1 ≤ N ∧ N ≤ 6 := by
  have m1 := c_mask p (2147483647 : Int32) 31 (by decide) (by decide)
  have m2 := c_irem (p &&& (2147483647 : Int32)) (6 : Int32) 6 (by decide)
  have a1 := c_iadd (1 : Int32) ((p &&& (2147483647 : Int32)) % (6 : Int32))
  rw [← h] at a1
  have q0 : (1 : Int32).toInt = 1 := by decide
  have r := rng32 tt
  clear h
  have hb : 1 ≤ tt.toInt ∧ tt.toInt ≤ 6 := by omega
  refine ⟨tt.toInt.toNat, ?_, by omega, by omega⟩
  rw [own_xeq, Int32.toInt_ofNat_small (by omega)]
  omega
theorem own_to2 (p tt : Int32) (h : tt = ((2 : Int32) + ((p &&& (2147483647 : Int32)) % (5 : Int32)))) : ∃ N : Nat, tt = Int32.ofNat N ∧ 2 ≤ N ∧ N ≤ 6 := by
  have m1 := c_mask p (2147483647 : Int32) 31 (by decide) (by decide)
  have m2 := c_irem (p &&& (2147483647 : Int32)) (5 : Int32) 5 (by decide)
  have a1 := c_iadd (2 : Int32) ((p &&& (2147483647 : Int32)) % (5 : Int32))
  rw [← h] at a1
  have q0 : (2 : Int32).toInt = 2 := by decide
  have r := rng32 tt
  clear h
  have hb : 2 ≤ tt.toInt ∧ tt.toInt ≤ 6 := by omega
  refine ⟨tt.toInt.toNat, ?_, by omega, by omega⟩
  rw [own_xeq, Int32.toInt_ofNat_small (by omega)]
  omega
theorem own_to3 (p tt : Int32) (h : tt = ((3 : Int32) + ((p &&& (2147483647 : Int32)) % (4 : Int32)))) : ∃ N : Nat, tt = Int32.ofNat N ∧ 3 ≤ N ∧ N ≤ 6 := by
  have m1 := c_mask p (2147483647 : Int32) 31 (by decide) (by decide)
  have m2 := c_irem (p &&& (2147483647 : Int32)) (4 : Int32) 4 (by decide)
  have a1 := c_iadd (3 : Int32) ((p &&& (2147483647 : Int32)) % (4 : Int32))
  rw [← h] at a1
  have q0 : (3 : Int32).toInt = 3 := by decide
  have r := rng32 tt
  clear h
  have hb : 3 ≤ tt.toInt ∧ tt.toInt ≤ 6 := by omega
  refine ⟨tt.toInt.toNat, ?_, by omega, by omega⟩
  rw [own_xeq, Int32.toInt_ofNat_small (by omega)]
  omega
theorem own_to4 (p tt : Int32) (h : tt = ((4 : Int32) + ((p &&& (2147483647 : Int32)) % (3 : Int32)))) : ∃ N : Nat, tt = Int32.ofNat N ∧ 4 ≤ N ∧ N ≤ 6 := by
  have m1 := c_mask p (2147483647 : Int32) 31 (by decide) (by decide)
  have m2 := c_irem (p &&& (2147483647 : Int32)) (3 : Int32) 3 (by decide)
  have a1 := c_iadd (4 : Int32) ((p &&& (2147483647 : Int32)) % (3 : Int32))
  rw [← h] at a1
  have q0 : (4 : Int32).toInt = 4 := by decide
  have r := rng32 tt
  clear h
  have hb : 4 ≤ tt.toInt ∧ tt.toInt ≤ 6 := by omega
  refine ⟨tt.toInt.toNat, ?_, by omega, by omega⟩
  rw [own_xeq, Int32.toInt_ofNat_small (by omega)]
  omega
theorem own_to5 (p tt : Int32) (h : tt = ((5 : Int32) + ((p &&& (2147483647 : Int32)) % (2 : Int32)))) : ∃ N : Nat, tt = Int32.ofNat N ∧ 5 ≤ N ∧ N ≤ 6 := by
  have m1 := c_mask p (2147483647 : Int32) 31 (by decide) (by decide)
  have m2 := c_irem (p &&& (2147483647 : Int32)) (2 : Int32) 2 (by decide)
  have a1 := c_iadd (5 : Int32) ((p &&& (2147483647 : Int32)) % (2 : Int32))
  rw [← h] at a1
  have q0 : (5 : Int32).toInt = 5 := by decide
  have r := rng32 tt
  clear h
  have hb : 5 ≤ tt.toInt ∧ tt.toInt ≤ 6 := by omega
  refine ⟨tt.toInt.toNat, ?_, by omega, by omega⟩
  rw [own_xeq, Int32.toInt_ofNat_small (by omega)]
  omega
theorem own_sp6 (k : Int32) : ((k &&& (2147483647 : Int32)) % (6 : Int32)) = (0 : Int32) ∨ ((k &&& (2147483647 : Int32)) % (6 : Int32)) = (1 : Int32) ∨ ((k &&& (2147483647 : Int32)) % (6 : Int32)) = (2 : Int32) ∨ ((k &&& (2147483647 : Int32)) % (6 : Int32)) = (3 : Int32) ∨ ((k &&& (2147483647 : Int32)) % (6 : Int32)) = (4 : Int32) ∨ ((k &&& (2147483647 : Int32)) % (6 : Int32)) = (5 : Int32) := by
  have c1 := c_mask k (2147483647 : Int32) 31 (by decide) (by decide)
  have c2 := c_irem (k &&& (2147483647 : Int32)) (6 : Int32) 6 (by decide)
  have r1 := rng32 k
  have q0 : (0 : Int32).toInt = 0 := by decide
  have q1 : (1 : Int32).toInt = 1 := by decide
  have q2 : (2 : Int32).toInt = 2 := by decide
  have q3 : (3 : Int32).toInt = 3 := by decide
  have q4 : (4 : Int32).toInt = 4 := by decide
  have q5 : (5 : Int32).toInt = 5 := by decide
  simp only [own_xeq, q0, q1, q2, q3, q4, q5]
  generalize ((k &&& (2147483647 : Int32)) % (6 : Int32)).toInt = d at *
  generalize (k &&& (2147483647 : Int32)).toInt = x at *
  omega
abbrev y_5 : MethodName := ⟨cn_1, "<init>", "([C)V"⟩
theorem ww0 {Z : State} {a0 : Array Value} (hw : ∀ d ∈ tables_1, d.before a0 Z = true) : Jvm.Cond.before (Jvm.Cond.arrayClass Jvm.ClassFile.FieldType.char) a0 Z = true := hw _ (List.mem_of_getElem? (i := 0) rfl)
theorem ww1 {Z : State} {a0 : Array Value} (hw : ∀ d ∈ tables_1, d.before a0 Z = true) : Jvm.Cond.before (Jvm.Cond.methodLink cn_0 (9 : Nat) ({ cls := cn_0, name := "pick", desc := "(IJI)C" } : Jvm.MethodName)) a0 Z = true := hw _ (List.mem_of_getElem? (i := 1) rfl)
theorem ww4 {Z : State} {a0 : Array Value} (hw : ∀ d ∈ tables_1, d.before a0 Z = true) : Jvm.Cond.before (Jvm.Cond.code ({ cls := cn_0, name := "pick", desc := "(IJI)C" } : Jvm.MethodName) method_2_code (5 : Nat) (Option.some Jvm.ClassFile.FieldType.char)) a0 Z = true := hw _ (List.mem_of_getElem? (i := 4) rfl)
theorem ww3 {Z : State} {a0 : Array Value} (hw : ∀ d ∈ tables_1, d.before a0 Z = true) : Jvm.Cond.before (Jvm.Cond.initialized cn_0) a0 Z = true := hw _ (List.mem_of_getElem? (i := 3) rfl)
theorem pd_1 : parseMethodDescriptor "(IJI)C" = some ⟨[.int, .long, .int], some .char⟩ := by decide +kernel
theorem ww2 {Z : State} {a0 : Array Value} (hw : ∀ d ∈ tables_1, d.before a0 Z = true) : Jvm.Cond.before (Jvm.Cond.static ({ cls := cn_0, name := "pick", desc := "(IJI)C" } : Jvm.MethodName)) a0 Z = true := hw _ (List.mem_of_getElem? (i := 2) rfl)
theorem ww5 {Z : State} {a0 : Array Value} (hw : ∀ d ∈ tables_1, d.before a0 Z = true) : Jvm.Cond.before (Jvm.Cond.constant cn_0 (15 : Nat) (2147483647 : Int32)) a0 Z = true := hw _ (List.mem_of_getElem? (i := 5) rfl)
theorem ww6 {Z : State} {a0 : Array Value} (hw : ∀ d ∈ tables_1, d.before a0 Z = true) : Jvm.Cond.before (Jvm.Cond.classLink cn_0 (16 : Nat) cn_1) a0 Z = true := hw _ (List.mem_of_getElem? (i := 6) rfl)
theorem ww8 {Z : State} {a0 : Array Value} (hw : ∀ d ∈ tables_1, d.before a0 Z = true) : Jvm.Cond.before (Jvm.Cond.initialized cn_1) a0 Z = true := hw _ (List.mem_of_getElem? (i := 8) rfl)
theorem ww32 {Z : State} {a0 : Array Value} (hw : ∀ d ∈ tables_1, d.before a0 Z = true) : Jvm.Cond.before (Jvm.Cond.laysFinal cn_1 cn_1 "coder" "B") a0 Z = true := hw _ (List.mem_of_getElem? (i := 32) rfl)
theorem ww34 {Z : State} {a0 : Array Value} (hw : ∀ d ∈ tables_1, d.before a0 Z = true) : Jvm.Cond.before (Jvm.Cond.laysFinal cn_1 cn_1 "value" "[B") a0 Z = true := hw _ (List.mem_of_getElem? (i := 34) rfl)
theorem ww9 {Z : State} {a0 : Array Value} (hw : ∀ d ∈ tables_1, d.before a0 Z = true) : Jvm.Cond.before (Jvm.Cond.methodLink cn_0 (18 : Nat) ({ cls := cn_1, name := "<init>", desc := "([C)V" } : Jvm.MethodName)) a0 Z = true := hw _ (List.mem_of_getElem? (i := 9) rfl)
theorem ww11 {Z : State} {a0 : Array Value} (hw : ∀ d ∈ tables_1, d.before a0 Z = true) : Jvm.Cond.before (Jvm.Cond.code ({ cls := cn_1, name := "<init>", desc := "([C)V" } : Jvm.MethodName) jdk_42_method_3_code (2 : Nat) (Option.none : Option Jvm.ClassFile.FieldType)) a0 Z = true := hw _ (List.mem_of_getElem? (i := 11) rfl)
theorem pd_2 : parseMethodDescriptor "([C)V" = some ⟨[(.array .char)], none⟩ := by decide +kernel
theorem ww10 {Z : State} {a0 : Array Value} (hw : ∀ d ∈ tables_1, d.before a0 Z = true) : Jvm.Cond.before (Jvm.Cond.instanceMethod ({ cls := cn_1, name := "<init>", desc := "([C)V" } : Jvm.MethodName)) a0 Z = true := hw _ (List.mem_of_getElem? (i := 10) rfl)
theorem ww35 {Z : State} {a0 : Array Value} (hw : ∀ d ∈ tables_1, d.before a0 Z = true) : Jvm.Cond.before (Jvm.Cond.methodLink cn_0 (21 : Nat) ({ cls := cn_2, name := "closing", desc := cn_3 } : Jvm.MethodName)) a0 Z = true := hw _ (List.mem_of_getElem? (i := 35) rfl)
theorem ww38 {Z : State} {a0 : Array Value} (hw : ∀ d ∈ tables_1, d.before a0 Z = true) : Jvm.Cond.before (Jvm.Cond.code ({ cls := cn_2, name := "closing", desc := cn_3 } : Jvm.MethodName) prog_1_method_14_code (6 : Nat) (Option.some Jvm.ClassFile.FieldType.int)) a0 Z = true := hw _ (List.mem_of_getElem? (i := 38) rfl)
theorem ww37 {Z : State} {a0 : Array Value} (hw : ∀ d ∈ tables_1, d.before a0 Z = true) : Jvm.Cond.before (Jvm.Cond.initialized cn_2) a0 Z = true := hw _ (List.mem_of_getElem? (i := 37) rfl)
theorem pd_3 : parseMethodDescriptor cn_3 = some ⟨[(.object cn_1), .int, .int], some .int⟩ := by decide +kernel
theorem ww36 {Z : State} {a0 : Array Value} (hw : ∀ d ∈ tables_1, d.before a0 Z = true) : Jvm.Cond.before (Jvm.Cond.static ({ cls := cn_2, name := "closing", desc := cn_3 } : Jvm.MethodName)) a0 Z = true := hw _ (List.mem_of_getElem? (i := 36) rfl)
theorem ww39 {Z : State} {a0 : Array Value} (hw : ∀ d ∈ tables_1, d.before a0 Z = true) : Jvm.Cond.before (Jvm.Cond.methodLink cn_0 (27 : Nat) ({ cls := cn_0, name := "v", desc := "([CII)I" } : Jvm.MethodName)) a0 Z = true := hw _ (List.mem_of_getElem? (i := 39) rfl)
theorem ww41 {Z : State} {a0 : Array Value} (hw : ∀ d ∈ tables_1, d.before a0 Z = true) : Jvm.Cond.before (Jvm.Cond.code ({ cls := cn_0, name := "v", desc := "([CII)I" } : Jvm.MethodName) method_3_code (3 : Nat) (Option.some Jvm.ClassFile.FieldType.int)) a0 Z = true := hw _ (List.mem_of_getElem? (i := 41) rfl)
theorem pd_4 : parseMethodDescriptor "([CII)I" = some ⟨[(.array .char), .int, .int], some .int⟩ := by decide +kernel
theorem ww40 {Z : State} {a0 : Array Value} (hw : ∀ d ∈ tables_1, d.before a0 Z = true) : Jvm.Cond.before (Jvm.Cond.static ({ cls := cn_0, name := "v", desc := "([CII)I" } : Jvm.MethodName)) a0 Z = true := hw _ (List.mem_of_getElem? (i := 40) rfl)
theorem ww42 {Z : State} {a0 : Array Value} (hw : ∀ d ∈ tables_1, d.before a0 Z = true) : Jvm.Cond.before (Jvm.Cond.methodLink cn_0 (31 : Nat) ({ cls := cn_0, name := "hit", desc := "([CIIII)Z" } : Jvm.MethodName)) a0 Z = true := hw _ (List.mem_of_getElem? (i := 42) rfl)
theorem ww44 {Z : State} {a0 : Array Value} (hw : ∀ d ∈ tables_1, d.before a0 Z = true) : Jvm.Cond.before (Jvm.Cond.code ({ cls := cn_0, name := "hit", desc := "([CIIII)Z" } : Jvm.MethodName) method_4_code (5 : Nat) (Option.some Jvm.ClassFile.FieldType.boolean)) a0 Z = true := hw _ (List.mem_of_getElem? (i := 44) rfl)
theorem pd_5 : parseMethodDescriptor "([CIIII)Z" = some ⟨[(.array .char), .int, .int, .int, .int], some .boolean⟩ := by decide +kernel
theorem ww43 {Z : State} {a0 : Array Value} (hw : ∀ d ∈ tables_1, d.before a0 Z = true) : Jvm.Cond.before (Jvm.Cond.static ({ cls := cn_0, name := "hit", desc := "([CIIII)Z" } : Jvm.MethodName)) a0 Z = true := hw _ (List.mem_of_getElem? (i := 43) rfl)
abbrev y_6 : MethodName := ⟨cn_0, "law", "(IJII)Z"⟩
theorem ef_law (m : MethodId) (p0 : Int32) (q1 : Int64) (p2 : Int32) (p3 : Int32) : entryFrame m #[(.int p0), (.long q1), (.int p2), (.int p3)] maxLocals = mkF m 0 #[.val (.int p0), .val (.long q1), .second, .val (.int p2), .val (.int p3), .unset, .unset, .unset, .unset, .unset, .unset, .unset, .unset, .unset, .unset, .unset, .unset] [] := by first | (simp [entryFrame, mkF, argsToLocals, Value.category, maxLocals]; done) | rfl
def Q_law (Z : State) (w_COMPACT_STRINGS : Int32) (w_SIOOBE_FORMATTER : Value) (p0 : Int32) (q1 : Int64) (p2 : Int32) (p3 : Int32) (h0 : Heap) (n0 : Nat) (v : Option Value) (h : Heap) (L : List Loc) : Prop := v = some (.int 1) ∧ Fr n0 L
set_option maxRecDepth 65536 in
set_option maxHeartbeats 40000000 in
theorem rm_law (l : Launch) (Z : State) (a0 : Array Value) (hw : ∀ d ∈ tables_1, d.before a0 Z = true) (ws : List Jvm.Cond) (w_COMPACT_STRINGS : Int32) (w_SIOOBE_FORMATTER : Value) (p0 : Int32) (q1 : Int64) (p2 : Int32) (p3 : Int32) (h0 : Heap) (n0 : Nat) (Z0 : n0 ≤ h0.size) (ST : own_St Z w_COMPACT_STRINGS w_SIOOBE_FORMATTER) (O0 : Old Z n0 h0) :
    MetFree l x (head1 (Jvm.Cond.code x code maxLocals ret :: ws) room_1) (fun a U => a = #[(.int p0), (.long q1), (.int p2), (.int p3)] ∧ Z.Warmed39 U.vm ∧ U.heap = h0) (fun _ _ _ _ _ => True) (fun _ U o U' => ∃ v L, o = .returned v ∧ Q_law Z w_COMPACT_STRINGS w_SIOOBE_FORMATTER p0 q1 p2 p3 h0 n0 v U'.heap L ∧ FrameEnd U o U' L 3 16) := by
  refine MetFree.of_bodySF (plainFor_of_name pn_0) hisR ?_
  intro p e s m args below meth c s₁ Bd hml0 hP hK
  obtain ⟨rfl, hZ, hh⟩ := hP
  have hx := Bd.exec
  have hby := Bd.bytes
  have hml : c.maxLocals = 17 := hml0
  have hown : s.vm.findClass cn_0 = some m.cls := findClass_of_methodNamed Bd.named
  have hnm := (name_of_methodNamed Bd.named Bd.method).1
  have X0 : Stand p l e room_1 s m #[(.int p0), (.long q1), (.int p2), (.int p3)] below meth c s₁ [] 0 0 := Stand.of_body Bd
  have e0 : s₁.heap = h0 := by rw [← hh, Bd.state]; rfl
  have N0 := Fr.nil n0
  obtain ⟨G, step, ret, fin⟩ := own_open (p := p) (l := l) (e := e) (R := room_1) (s := s) (m := m) (args := #[(.int p0), (.long q1), (.int p2), (.int p3)]) (below := below) (meth := meth) (c := c) (3) (16) (Q_law Z w_COMPACT_STRINGS w_SIOOBE_FORMATTER p0 q1 p2 p3 h0 n0) Bd.notSynchronized
  refine fin (g := entryFrame m #[(.int p0), (.long q1), (.int p2), (.int p3)] maxLocals) ?_
  rw [ef_law m p0 q1 p2 p3]
  obtain ⟨ls0, hls0⟩  := own_sl #[.val (.int p0), .val (.long q1), .second, .val (.int p2), .val (.int p3), .unset, .unset, .unset, .unset, .unset, .unset, .unset, .unset, .unset, .unset, .unset, .unset]
  suffices hG0 : G s₁ (mkF m 0 ls0 []) by rw [hls0] at hG0; exact hG0
  show G s₁ (mkF m 0 ls0 [])
  refine step (fun t k => XS.bipush X0.here hx rfl (hb hby at_0) k) ?_
  show G s₁ (mkF m 2 ls0 [(.int 6)])
  obtain ⟨T1, h1, k1, X1, e1, E1, A1, B1, st1⟩ := newPE (aty := .char) X0 hx hZ (ww0 hw) e0 (g := (mkF m 2 ls0 [(.int 6)])) rfl (hb hby at_2) rfl (by decide) (cap := 6) (by decide) (by decide) (by decide) (by decide) (ad := "[C") (by decide)
  obtain ⟨b1, g1⟩ : ∃ z, z = h0.size := ⟨_, rfl⟩
  rw [← g1] at A1 B1 st1
  have V1 : Arv Z h1 b1 k1 .char (6 : Int32) [(.int 0), (.int 0), (.int 0), (.int 0), (.int 0), (.int 0)] (.int 0) := (Arv.new A1 (by decide)).pad (pad_rep [] (.int 0) 6)
  have ge_b1 : n0 ≤ b1 := Nat.le_trans (own_old_le O0) (Nat.le_of_eq g1.symm)
  have O1 := O0.ext E1
  refine step st1 ?_
  show G T1 (mkF m 4 ls0 [(.ref b1)])
  obtain ⟨ls2, hls2⟩  := own_sl #[.val (.int p0), .val (.long q1), .second, .val (.int p2), .val (.int p3), .val (.ref b1), .unset, .unset, .unset, .unset, .unset, .unset, .unset, .unset, .unset, .unset, .unset]
  refine step (fun t k => XS.astore X1.here hx rfl (hb hby at_4) rfl rfl (l' := ls2) (by rw [hls0, hls2]; rfl) k) ?_
  show G T1 (mkF m 6 ls2 [])
  refine step (fun t k => XS.aload X1.here hx rfl (hb hby at_6) (by rw [hls2]; rfl) rfl k) ?_
  show G T1 (mkF m 8 ls2 [(.ref b1)])
  refine step (fun t k => XS.iconst X1.here hx rfl (hb hby at_8) k) ?_
  show G T1 (mkF m 9 ls2 [(.int 0), (.ref b1)])
  refine step (fun t k => XS.iloadN X1.here hx rfl (hb hby at_9) (by rw [hls2]; rfl) k) ?_
  show G T1 (mkF m 10 ls2 [(.int p0), (.int 0), (.ref b1)])
  refine step (fun t k => XS.lloadN X1.here hx rfl (hb hby at_10) (by rw [hls2]; rfl) k) ?_
  show G T1 (mkF m 11 ls2 [(.long q1), (.int p0), (.int 0), (.ref b1)])
  refine step (fun t k => XS.iconst X1.here hx rfl (hb hby at_11) k) ?_
  show G T1 (mkF m 12 ls2 [(.int 0), (.long q1), (.int p0), (.int 0), (.ref b1)])
  have hK3 := (backOf (R := room_1) (p := p) (e := e) (below := below) (s := s) (args := #[(.int p0), (.long q1), (.int p2), (.int p3)]) (len := 3) (W := 2) (rm_pick l Z a0 hw [] w_COMPACT_STRINGS w_SIOOBE_FORMATTER p0 q1 (0 : Int32) h1 n0 (own_old_le O1) ST O1) hZ (ww4 hw) (ww3 hw) (by decide) (by decide))
  obtain ⟨_, _, ⟨T3, L3, k3, n3⟩, -, X3, ⟨Lc3, hQ3, l3, y3, z3⟩, st3⟩ := Jvm.LawKit.callS X1 hx (y := y_0) hown (mvT hZ (ww1 hw)) (mvT hZ (ww2 hw)) (mvT hZ (ww3 hw)) (mvT hZ (ww4 hw)) (by decide) hK3 (g := (mkF m 12 ls2 [(.int 0), (.long q1), (.int p0), (.int 0), (.ref b1)])) rfl (by rw [hml, hls2]; rfl) (argsL := [(.int p0), (.long q1), (.int 0)]) (rest := [(.int 0), (.ref b1)]) (lenOf pd_1 rfl) rfl (by show 2 * 0 + _ ≤ _; exact Nat.le_of_eq rfl) (hb hby at_12) (fun _ _ => ⟨rfl, e1, (by decide : 1 + 0 ≤ _), (by decide : 6 + 0 ≤ _)⟩)
  dsimp only [Pt.U, Pt.locs, Pt.cells, Pt.slots] at X3 l3 y3 z3 st3 hQ3
  subst l3 y3 z3
  obtain ⟨rfl, N3q, e3⟩ := hQ3
  have N3 := Fr.app N0 N3q
  obtain ⟨lc3, X3, N3⟩ := own_gen X3 N3
  refine step (fun t k => st3 t k) ?_
  show G T3 (mkF m 15 ls2 [(.int (f_pick w_COMPACT_STRINGS w_SIOOBE_FORMATTER p0 q1 (0 : Int32))), (.int 0), (.ref b1)])
  obtain ⟨x0, hx0⟩ : ∃ z : Int32, z = (f_pick w_COMPACT_STRINGS w_SIOOBE_FORMATTER p0 q1 (0 : Int32)) := ⟨_, rfl⟩
  rw [← hx0]
  show G T3 (mkF m 15 ls2 [(.int x0), (.int 0), (.ref b1)])
  have lx0 : ¬ x0 < 0 ∧ ¬ (255 : Int32) < x0 := by rw [hx0]; exact own_latpick _ _ _
  obtain ⟨T4, h4, X4, e4, W4, V4, st4⟩ := own_stC X3 hx hZ e3 V1 (j := (0 : Int32)) (by decide) (i := 0) rfl (by show 0 < 6; decide) (g := (mkF m 15 ls2 [(.int x0), (.int 0), (.ref b1)])) rfl rfl (hb hby at_15)
  replace V4 : Arv Z h4 b1 k1 .char (6 : Int32) [(.int x0), (.int 0), (.int 0), (.int 0), (.int 0), (.int 0)] (.int 0) := by rw [own_narc lx0] at V4; exact V4
  have N4 := Fr.snoc X4 N3 ge_b1
  obtain ⟨lc4, X4, N4⟩ := own_gen X4 N4
  have O4 := O1.wr W4 ge_b1
  refine step st4 ?_
  show G T4 (mkF m 16 ls2 [])
  refine step (fun t k => XS.aload X4.here hx rfl (hb hby at_16) (by rw [hls2]; rfl) rfl k) ?_
  show G T4 (mkF m 18 ls2 [(.ref b1)])
  refine step (fun t k => XS.iconst X4.here hx rfl (hb hby at_18) k) ?_
  show G T4 (mkF m 19 ls2 [(.int 1), (.ref b1)])
  refine step (fun t k => XS.iloadN X4.here hx rfl (hb hby at_19) (by rw [hls2]; rfl) k) ?_
  show G T4 (mkF m 20 ls2 [(.int p0), (.int 1), (.ref b1)])
  refine step (fun t k => XS.lloadN X4.here hx rfl (hb hby at_20) (by rw [hls2]; rfl) k) ?_
  show G T4 (mkF m 21 ls2 [(.long q1), (.int p0), (.int 1), (.ref b1)])
  refine step (fun t k => XS.iconst X4.here hx rfl (hb hby at_21) k) ?_
  show G T4 (mkF m 22 ls2 [(.int 1), (.long q1), (.int p0), (.int 1), (.ref b1)])
  have hK5 := (backOf (R := room_1) (p := p) (e := e) (below := below) (s := s) (args := #[(.int p0), (.long q1), (.int p2), (.int p3)]) (len := 3) (W := 2) (rm_pick l Z a0 hw [] w_COMPACT_STRINGS w_SIOOBE_FORMATTER p0 q1 (1 : Int32) h4 n0 (own_old_le O4) ST O4) hZ (ww4 hw) (ww3 hw) (by decide) (by decide))
  obtain ⟨_, _, ⟨T5, L5, k5, n5⟩, -, X5, ⟨Lc5, hQ5, l5, y5, z5⟩, st5⟩ := Jvm.LawKit.callS X4 hx (y := y_0) hown (mvT hZ (ww1 hw)) (mvT hZ (ww2 hw)) (mvT hZ (ww3 hw)) (mvT hZ (ww4 hw)) (by decide) hK5 (g := (mkF m 22 ls2 [(.int 1), (.long q1), (.int p0), (.int 1), (.ref b1)])) rfl (by rw [hml, hls2]; rfl) (argsL := [(.int p0), (.long q1), (.int 1)]) (rest := [(.int 1), (.ref b1)]) (lenOf pd_1 rfl) rfl (by show 2 * 0 + _ ≤ _; exact Nat.le_of_eq rfl) (hb hby at_22) (fun _ _ => ⟨rfl, e4, (by decide : 1 + 0 ≤ _), (by decide : 6 + 0 ≤ _)⟩)
  dsimp only [Pt.U, Pt.locs, Pt.cells, Pt.slots] at X5 l5 y5 z5 st5 hQ5
  subst l5 y5 z5
  obtain ⟨rfl, N5q, e5⟩ := hQ5
  have N5 := Fr.app N4 N5q
  obtain ⟨lc5, X5, N5⟩ := own_gen X5 N5
  refine step (fun t k => st5 t k) ?_
  show G T5 (mkF m 25 ls2 [(.int (f_pick w_COMPACT_STRINGS w_SIOOBE_FORMATTER p0 q1 (1 : Int32))), (.int 1), (.ref b1)])
  obtain ⟨x1, hx1⟩ : ∃ z : Int32, z = (f_pick w_COMPACT_STRINGS w_SIOOBE_FORMATTER p0 q1 (1 : Int32)) := ⟨_, rfl⟩
  rw [← hx1]
  show G T5 (mkF m 25 ls2 [(.int x1), (.int 1), (.ref b1)])
  have lx1 : ¬ x1 < 0 ∧ ¬ (255 : Int32) < x1 := by rw [hx1]; exact own_latpick _ _ _
  obtain ⟨T6, h6, X6, e6, W6, V6, st6⟩ := own_stC X5 hx hZ e5 V4 (j := (1 : Int32)) (by decide) (i := 1) rfl (by show 1 < 6; decide) (g := (mkF m 25 ls2 [(.int x1), (.int 1), (.ref b1)])) rfl rfl (hb hby at_25)
  replace V6 : Arv Z h6 b1 k1 .char (6 : Int32) [(.int x0), (.int x1), (.int 0), (.int 0), (.int 0), (.int 0)] (.int 0) := by rw [own_narc lx1] at V6; exact V6
  have N6 := Fr.snoc X6 N5 ge_b1
  obtain ⟨lc6, X6, N6⟩ := own_gen X6 N6
  have O6 := O4.wr W6 ge_b1
  refine step st6 ?_
  show G T6 (mkF m 26 ls2 [])
  refine step (fun t k => XS.aload X6.here hx rfl (hb hby at_26) (by rw [hls2]; rfl) rfl k) ?_
  show G T6 (mkF m 28 ls2 [(.ref b1)])
  refine step (fun t k => XS.iconst X6.here hx rfl (hb hby at_28) k) ?_
  show G T6 (mkF m 29 ls2 [(.int 2), (.ref b1)])
  refine step (fun t k => XS.iloadN X6.here hx rfl (hb hby at_29) (by rw [hls2]; rfl) k) ?_
  show G T6 (mkF m 30 ls2 [(.int p0), (.int 2), (.ref b1)])
  refine step (fun t k => XS.lloadN X6.here hx rfl (hb hby at_30) (by rw [hls2]; rfl) k) ?_
  show G T6 (mkF m 31 ls2 [(.long q1), (.int p0), (.int 2), (.ref b1)])
  refine step (fun t k => XS.iconst X6.here hx rfl (hb hby at_31) k) ?_
  show G T6 (mkF m 32 ls2 [(.int 2), (.long q1), (.int p0), (.int 2), (.ref b1)])
  have hK7 := (backOf (R := room_1) (p := p) (e := e) (below := below) (s := s) (args := #[(.int p0), (.long q1), (.int p2), (.int p3)]) (len := 3) (W := 2) (rm_pick l Z a0 hw [] w_COMPACT_STRINGS w_SIOOBE_FORMATTER p0 q1 (2 : Int32) h6 n0 (own_old_le O6) ST O6) hZ (ww4 hw) (ww3 hw) (by decide) (by decide))
  obtain ⟨_, _, ⟨T7, L7, k7, n7⟩, -, X7, ⟨Lc7, hQ7, l7, y7, z7⟩, st7⟩ := Jvm.LawKit.callS X6 hx (y := y_0) hown (mvT hZ (ww1 hw)) (mvT hZ (ww2 hw)) (mvT hZ (ww3 hw)) (mvT hZ (ww4 hw)) (by decide) hK7 (g := (mkF m 32 ls2 [(.int 2), (.long q1), (.int p0), (.int 2), (.ref b1)])) rfl (by rw [hml, hls2]; rfl) (argsL := [(.int p0), (.long q1), (.int 2)]) (rest := [(.int 2), (.ref b1)]) (lenOf pd_1 rfl) rfl (by show 2 * 0 + _ ≤ _; exact Nat.le_of_eq rfl) (hb hby at_32) (fun _ _ => ⟨rfl, e6, (by decide : 1 + 0 ≤ _), (by decide : 6 + 0 ≤ _)⟩)
  dsimp only [Pt.U, Pt.locs, Pt.cells, Pt.slots] at X7 l7 y7 z7 st7 hQ7
  subst l7 y7 z7
  obtain ⟨rfl, N7q, e7⟩ := hQ7
  have N7 := Fr.app N6 N7q
  obtain ⟨lc7, X7, N7⟩ := own_gen X7 N7
  refine step (fun t k => st7 t k) ?_
  show G T7 (mkF m 35 ls2 [(.int (f_pick w_COMPACT_STRINGS w_SIOOBE_FORMATTER p0 q1 (2 : Int32))), (.int 2), (.ref b1)])
  obtain ⟨x2, hx2⟩ : ∃ z : Int32, z = (f_pick w_COMPACT_STRINGS w_SIOOBE_FORMATTER p0 q1 (2 : Int32)) := ⟨_, rfl⟩
  rw [← hx2]
  show G T7 (mkF m 35 ls2 [(.int x2), (.int 2), (.ref b1)])
  have lx2 : ¬ x2 < 0 ∧ ¬ (255 : Int32) < x2 := by rw [hx2]; exact own_latpick _ _ _
  obtain ⟨T8, h8, X8, e8, W8, V8, st8⟩ := own_stC X7 hx hZ e7 V6 (j := (2 : Int32)) (by decide) (i := 2) rfl (by show 2 < 6; decide) (g := (mkF m 35 ls2 [(.int x2), (.int 2), (.ref b1)])) rfl rfl (hb hby at_35)
  replace V8 : Arv Z h8 b1 k1 .char (6 : Int32) [(.int x0), (.int x1), (.int x2), (.int 0), (.int 0), (.int 0)] (.int 0) := by rw [own_narc lx2] at V8; exact V8
  have N8 := Fr.snoc X8 N7 ge_b1
  obtain ⟨lc8, X8, N8⟩ := own_gen X8 N8
  have O8 := O6.wr W8 ge_b1
  refine step st8 ?_
  show G T8 (mkF m 36 ls2 [])
  refine step (fun t k => XS.aload X8.here hx rfl (hb hby at_36) (by rw [hls2]; rfl) rfl k) ?_
  show G T8 (mkF m 38 ls2 [(.ref b1)])
  refine step (fun t k => XS.iconst X8.here hx rfl (hb hby at_38) k) ?_
  show G T8 (mkF m 39 ls2 [(.int 3), (.ref b1)])
  refine step (fun t k => XS.iloadN X8.here hx rfl (hb hby at_39) (by rw [hls2]; rfl) k) ?_
  show G T8 (mkF m 40 ls2 [(.int p0), (.int 3), (.ref b1)])
  refine step (fun t k => XS.lloadN X8.here hx rfl (hb hby at_40) (by rw [hls2]; rfl) k) ?_
  show G T8 (mkF m 41 ls2 [(.long q1), (.int p0), (.int 3), (.ref b1)])
  refine step (fun t k => XS.iconst X8.here hx rfl (hb hby at_41) k) ?_
  show G T8 (mkF m 42 ls2 [(.int 3), (.long q1), (.int p0), (.int 3), (.ref b1)])
  have hK9 := (backOf (R := room_1) (p := p) (e := e) (below := below) (s := s) (args := #[(.int p0), (.long q1), (.int p2), (.int p3)]) (len := 3) (W := 2) (rm_pick l Z a0 hw [] w_COMPACT_STRINGS w_SIOOBE_FORMATTER p0 q1 (3 : Int32) h8 n0 (own_old_le O8) ST O8) hZ (ww4 hw) (ww3 hw) (by decide) (by decide))
  obtain ⟨_, _, ⟨T9, L9, k9, n9⟩, -, X9, ⟨Lc9, hQ9, l9, y9, z9⟩, st9⟩ := Jvm.LawKit.callS X8 hx (y := y_0) hown (mvT hZ (ww1 hw)) (mvT hZ (ww2 hw)) (mvT hZ (ww3 hw)) (mvT hZ (ww4 hw)) (by decide) hK9 (g := (mkF m 42 ls2 [(.int 3), (.long q1), (.int p0), (.int 3), (.ref b1)])) rfl (by rw [hml, hls2]; rfl) (argsL := [(.int p0), (.long q1), (.int 3)]) (rest := [(.int 3), (.ref b1)]) (lenOf pd_1 rfl) rfl (by show 2 * 0 + _ ≤ _; exact Nat.le_of_eq rfl) (hb hby at_42) (fun _ _ => ⟨rfl, e8, (by decide : 1 + 0 ≤ _), (by decide : 6 + 0 ≤ _)⟩)
  dsimp only [Pt.U, Pt.locs, Pt.cells, Pt.slots] at X9 l9 y9 z9 st9 hQ9
  subst l9 y9 z9
  obtain ⟨rfl, N9q, e9⟩ := hQ9
  have N9 := Fr.app N8 N9q
  obtain ⟨lc9, X9, N9⟩ := own_gen X9 N9
  refine step (fun t k => st9 t k) ?_
  show G T9 (mkF m 45 ls2 [(.int (f_pick w_COMPACT_STRINGS w_SIOOBE_FORMATTER p0 q1 (3 : Int32))), (.int 3), (.ref b1)])
  obtain ⟨x3, hx3⟩ : ∃ z : Int32, z = (f_pick w_COMPACT_STRINGS w_SIOOBE_FORMATTER p0 q1 (3 : Int32)) := ⟨_, rfl⟩
  rw [← hx3]
  show G T9 (mkF m 45 ls2 [(.int x3), (.int 3), (.ref b1)])
  have lx3 : ¬ x3 < 0 ∧ ¬ (255 : Int32) < x3 := by rw [hx3]; exact own_latpick _ _ _
  obtain ⟨T10, h10, X10, e10, W10, V10, st10⟩ := own_stC X9 hx hZ e9 V8 (j := (3 : Int32)) (by decide) (i := 3) rfl (by show 3 < 6; decide) (g := (mkF m 45 ls2 [(.int x3), (.int 3), (.ref b1)])) rfl rfl (hb hby at_45)
  replace V10 : Arv Z h10 b1 k1 .char (6 : Int32) [(.int x0), (.int x1), (.int x2), (.int x3), (.int 0), (.int 0)] (.int 0) := by rw [own_narc lx3] at V10; exact V10
  have N10 := Fr.snoc X10 N9 ge_b1
  obtain ⟨lc10, X10, N10⟩ := own_gen X10 N10
  have O10 := O8.wr W10 ge_b1
  refine step st10 ?_
  show G T10 (mkF m 46 ls2 [])
  refine step (fun t k => XS.aload X10.here hx rfl (hb hby at_46) (by rw [hls2]; rfl) rfl k) ?_
  show G T10 (mkF m 48 ls2 [(.ref b1)])
  refine step (fun t k => XS.iconst X10.here hx rfl (hb hby at_48) k) ?_
  show G T10 (mkF m 49 ls2 [(.int 4), (.ref b1)])
  refine step (fun t k => XS.iloadN X10.here hx rfl (hb hby at_49) (by rw [hls2]; rfl) k) ?_
  show G T10 (mkF m 50 ls2 [(.int p0), (.int 4), (.ref b1)])
  refine step (fun t k => XS.lloadN X10.here hx rfl (hb hby at_50) (by rw [hls2]; rfl) k) ?_
  show G T10 (mkF m 51 ls2 [(.long q1), (.int p0), (.int 4), (.ref b1)])
  refine step (fun t k => XS.iconst X10.here hx rfl (hb hby at_51) k) ?_
  show G T10 (mkF m 52 ls2 [(.int 4), (.long q1), (.int p0), (.int 4), (.ref b1)])
  have hK11 := (backOf (R := room_1) (p := p) (e := e) (below := below) (s := s) (args := #[(.int p0), (.long q1), (.int p2), (.int p3)]) (len := 3) (W := 2) (rm_pick l Z a0 hw [] w_COMPACT_STRINGS w_SIOOBE_FORMATTER p0 q1 (4 : Int32) h10 n0 (own_old_le O10) ST O10) hZ (ww4 hw) (ww3 hw) (by decide) (by decide))
  obtain ⟨_, _, ⟨T11, L11, k11, n11⟩, -, X11, ⟨Lc11, hQ11, l11, y11, z11⟩, st11⟩ := Jvm.LawKit.callS X10 hx (y := y_0) hown (mvT hZ (ww1 hw)) (mvT hZ (ww2 hw)) (mvT hZ (ww3 hw)) (mvT hZ (ww4 hw)) (by decide) hK11 (g := (mkF m 52 ls2 [(.int 4), (.long q1), (.int p0), (.int 4), (.ref b1)])) rfl (by rw [hml, hls2]; rfl) (argsL := [(.int p0), (.long q1), (.int 4)]) (rest := [(.int 4), (.ref b1)]) (lenOf pd_1 rfl) rfl (by show 2 * 0 + _ ≤ _; exact Nat.le_of_eq rfl) (hb hby at_52) (fun _ _ => ⟨rfl, e10, (by decide : 1 + 0 ≤ _), (by decide : 6 + 0 ≤ _)⟩)
  dsimp only [Pt.U, Pt.locs, Pt.cells, Pt.slots] at X11 l11 y11 z11 st11 hQ11
  subst l11 y11 z11
  obtain ⟨rfl, N11q, e11⟩ := hQ11
  have N11 := Fr.app N10 N11q
  obtain ⟨lc11, X11, N11⟩ := own_gen X11 N11
  refine step (fun t k => st11 t k) ?_
  show G T11 (mkF m 55 ls2 [(.int (f_pick w_COMPACT_STRINGS w_SIOOBE_FORMATTER p0 q1 (4 : Int32))), (.int 4), (.ref b1)])
  obtain ⟨x4, hx4⟩ : ∃ z : Int32, z = (f_pick w_COMPACT_STRINGS w_SIOOBE_FORMATTER p0 q1 (4 : Int32)) := ⟨_, rfl⟩
  rw [← hx4]
  show G T11 (mkF m 55 ls2 [(.int x4), (.int 4), (.ref b1)])
  have lx4 : ¬ x4 < 0 ∧ ¬ (255 : Int32) < x4 := by rw [hx4]; exact own_latpick _ _ _
  obtain ⟨T12, h12, X12, e12, W12, V12, st12⟩ := own_stC X11 hx hZ e11 V10 (j := (4 : Int32)) (by decide) (i := 4) rfl (by show 4 < 6; decide) (g := (mkF m 55 ls2 [(.int x4), (.int 4), (.ref b1)])) rfl rfl (hb hby at_55)
  replace V12 : Arv Z h12 b1 k1 .char (6 : Int32) [(.int x0), (.int x1), (.int x2), (.int x3), (.int x4), (.int 0)] (.int 0) := by rw [own_narc lx4] at V12; exact V12
  have N12 := Fr.snoc X12 N11 ge_b1
  obtain ⟨lc12, X12, N12⟩ := own_gen X12 N12
  have O12 := O10.wr W12 ge_b1
  refine step st12 ?_
  show G T12 (mkF m 56 ls2 [])
  refine step (fun t k => XS.aload X12.here hx rfl (hb hby at_56) (by rw [hls2]; rfl) rfl k) ?_
  show G T12 (mkF m 58 ls2 [(.ref b1)])
  refine step (fun t k => XS.iconst X12.here hx rfl (hb hby at_58) k) ?_
  show G T12 (mkF m 59 ls2 [(.int 5), (.ref b1)])
  refine step (fun t k => XS.iloadN X12.here hx rfl (hb hby at_59) (by rw [hls2]; rfl) k) ?_
  show G T12 (mkF m 60 ls2 [(.int p0), (.int 5), (.ref b1)])
  refine step (fun t k => XS.lloadN X12.here hx rfl (hb hby at_60) (by rw [hls2]; rfl) k) ?_
  show G T12 (mkF m 61 ls2 [(.long q1), (.int p0), (.int 5), (.ref b1)])
  refine step (fun t k => XS.iconst X12.here hx rfl (hb hby at_61) k) ?_
  show G T12 (mkF m 62 ls2 [(.int 5), (.long q1), (.int p0), (.int 5), (.ref b1)])
  have hK13 := (backOf (R := room_1) (p := p) (e := e) (below := below) (s := s) (args := #[(.int p0), (.long q1), (.int p2), (.int p3)]) (len := 3) (W := 2) (rm_pick l Z a0 hw [] w_COMPACT_STRINGS w_SIOOBE_FORMATTER p0 q1 (5 : Int32) h12 n0 (own_old_le O12) ST O12) hZ (ww4 hw) (ww3 hw) (by decide) (by decide))
  obtain ⟨_, _, ⟨T13, L13, k13, n13⟩, -, X13, ⟨Lc13, hQ13, l13, y13, z13⟩, st13⟩ := Jvm.LawKit.callS X12 hx (y := y_0) hown (mvT hZ (ww1 hw)) (mvT hZ (ww2 hw)) (mvT hZ (ww3 hw)) (mvT hZ (ww4 hw)) (by decide) hK13 (g := (mkF m 62 ls2 [(.int 5), (.long q1), (.int p0), (.int 5), (.ref b1)])) rfl (by rw [hml, hls2]; rfl) (argsL := [(.int p0), (.long q1), (.int 5)]) (rest := [(.int 5), (.ref b1)]) (lenOf pd_1 rfl) rfl (by show 2 * 0 + _ ≤ _; exact Nat.le_of_eq rfl) (hb hby at_62) (fun _ _ => ⟨rfl, e12, (by decide : 1 + 0 ≤ _), (by decide : 6 + 0 ≤ _)⟩)
  dsimp only [Pt.U, Pt.locs, Pt.cells, Pt.slots] at X13 l13 y13 z13 st13 hQ13
  subst l13 y13 z13
  obtain ⟨rfl, N13q, e13⟩ := hQ13
  have N13 := Fr.app N12 N13q
  obtain ⟨lc13, X13, N13⟩ := own_gen X13 N13
  refine step (fun t k => st13 t k) ?_
  show G T13 (mkF m 65 ls2 [(.int (f_pick w_COMPACT_STRINGS w_SIOOBE_FORMATTER p0 q1 (5 : Int32))), (.int 5), (.ref b1)])
  obtain ⟨x5, hx5⟩ : ∃ z : Int32, z = (f_pick w_COMPACT_STRINGS w_SIOOBE_FORMATTER p0 q1 (5 : Int32)) := ⟨_, rfl⟩
  rw [← hx5]
  show G T13 (mkF m 65 ls2 [(.int x5), (.int 5), (.ref b1)])
  have lx5 : ¬ x5 < 0 ∧ ¬ (255 : Int32) < x5 := by rw [hx5]; exact own_latpick _ _ _
  obtain ⟨T14, h14, X14, e14, W14, V14, st14⟩ := own_stC X13 hx hZ e13 V12 (j := (5 : Int32)) (by decide) (i := 5) rfl (by show 5 < 6; decide) (g := (mkF m 65 ls2 [(.int x5), (.int 5), (.ref b1)])) rfl rfl (hb hby at_65)
  replace V14 : Arv Z h14 b1 k1 .char (6 : Int32) [(.int x0), (.int x1), (.int x2), (.int x3), (.int x4), (.int x5)] (.int 0) := by rw [own_narc lx5] at V14; exact V14
  have N14 := Fr.snoc X14 N13 ge_b1
  obtain ⟨lc14, X14, N14⟩ := own_gen X14 N14
  have O14 := O12.wr W14 ge_b1
  refine step st14 ?_
  show G T14 (mkF m 66 ls2 [])
  refine step (fun t k => XS.iloadN X14.here hx rfl (hb hby at_66) (by rw [hls2]; rfl) k) ?_
  show G T14 (mkF m 67 ls2 [(.int p2)])
  have q15 := X14.ldcInt hx hown (mvT hZ (ww5 hw)) (g := (mkF m 67 ls2 [(.int p2)])) rfl (hb hby at_67)
  refine step q15 ?_
  show G T14 (mkF m 69 ls2 [(.int 2147483647), (.int p2)])
  refine step (fun t k => XS.iand X14.here hx rfl (hb hby at_69) rfl k) ?_
  show G T14 (mkF m 70 ls2 [(.int (p2 &&& (2147483647 : Int32)))])
  refine step (fun t k => XS.bipush X14.here hx rfl (hb hby at_70) k) ?_
  show G T14 (mkF m 72 ls2 [(.int 6), (.int (p2 &&& (2147483647 : Int32)))])
  refine step (fun t k => iremM X14 hx rfl (hb hby at_72) rfl (by decide) k) ?_
  show G T14 (mkF m 73 ls2 [(.int ((p2 &&& (2147483647 : Int32)) % (6 : Int32)))])
  obtain ⟨ls16, hls16⟩  := own_sl #[.val (.int p0), .val (.long q1), .second, .val (.int p2), .val (.int p3), .val (.ref b1), .val (.int ((p2 &&& (2147483647 : Int32)) % (6 : Int32))), .unset, .unset, .unset, .unset, .unset, .unset, .unset, .unset, .unset, .unset]
  refine step (fun t k => XS.istore X14.here hx rfl (hb hby at_73) rfl (l' := ls16) (by rw [hls2, hls16]; rfl) k) ?_
  show G T14 (mkF m 75 ls16 [])
  rcases own_sp6 p2 with hO | hO | hO | hO | hO | hO
  · skip
    obtain ⟨ls17, hls17⟩  := own_sl #[.val (.int p0), .val (.long q1), .second, .val (.int p2), .val (.int p3), .val (.ref b1), .val (.int 0), .unset, .unset, .unset, .unset, .unset, .unset, .unset, .unset, .unset, .unset]
    rw [show ls16 = ls17 from by rw [hls16, hls17, hO]]
    show G T14 (mkF m 75 ls17 [])
    refine step (fun t k => XS.iload X14.here hx rfl (hb hby at_75) (by rw [hls17]; rfl) k) ?_
    show G T14 (mkF m 77 ls17 [(.int 0)])
    refine step (fun t k => XS.iload X14.here hx rfl (hb hby at_77) (by rw [hls17]; rfl) k) ?_
    show G T14 (mkF m 79 ls17 [(.int p3), (.int 0)])
    have q18 := X14.ldcInt hx hown (mvT hZ (ww5 hw)) (g := (mkF m 79 ls17 [(.int p3), (.int 0)])) rfl (hb hby at_79)
    refine step q18 ?_
    show G T14 (mkF m 81 ls17 [(.int 2147483647), (.int p3), (.int 0)])
    refine step (fun t k => XS.iand X14.here hx rfl (hb hby at_81) rfl k) ?_
    show G T14 (mkF m 82 ls17 [(.int (p3 &&& (2147483647 : Int32))), (.int 0)])
    refine step (fun t k => XS.bipush X14.here hx rfl (hb hby at_82) k) ?_
    show G T14 (mkF m 84 ls17 [(.int 7), (.int (p3 &&& (2147483647 : Int32))), (.int 0)])
    refine step (fun t k => XS.iload X14.here hx rfl (hb hby at_84) (by rw [hls17]; rfl) k) ?_
    show G T14 (mkF m 86 ls17 [(.int 0), (.int 7), (.int (p3 &&& (2147483647 : Int32))), (.int 0)])
    refine step (fun t k => XS.isub X14.here hx rfl (hb hby at_86) rfl k) ?_
    show G T14 (mkF m 87 ls17 [(.int ((7 : Int32) - (0 : Int32))), (.int (p3 &&& (2147483647 : Int32))), (.int 0)])
    rw [(by decide : ((7 : Int32) - (0 : Int32)) = (7 : Int32))]
    show G T14 (mkF m 87 ls17 [(.int 7), (.int (p3 &&& (2147483647 : Int32))), (.int 0)])
    refine step (fun t k => iremM X14 hx rfl (hb hby at_87) rfl (by decide) k) ?_
    show G T14 (mkF m 88 ls17 [(.int ((p3 &&& (2147483647 : Int32)) % (7 : Int32))), (.int 0)])
    refine step (fun t k => XS.iadd X14.here hx rfl (hb hby at_88) rfl k) ?_
    show G T14 (mkF m 89 ls17 [(.int ((0 : Int32) + ((p3 &&& (2147483647 : Int32)) % (7 : Int32))))])
    obtain ⟨ls19, hls19⟩  := own_sl #[.val (.int p0), .val (.long q1), .second, .val (.int p2), .val (.int p3), .val (.ref b1), .val (.int 0), .val (.int ((0 : Int32) + ((p3 &&& (2147483647 : Int32)) % (7 : Int32)))), .unset, .unset, .unset, .unset, .unset, .unset, .unset, .unset, .unset]
    refine step (fun t k => XS.istore X14.here hx rfl (hb hby at_89) rfl (l' := ls19) (by rw [hls17, hls19]; rfl) k) ?_
    show G T14 (mkF m 91 ls19 [])
    obtain ⟨tt, htt⟩ : ∃ z : Int32, z = ((0 : Int32) + ((p3 &&& (2147483647 : Int32)) % (7 : Int32))) := ⟨_, rfl⟩
    obtain ⟨ls20, hls20⟩  := own_sl #[.val (.int p0), .val (.long q1), .second, .val (.int p2), .val (.int p3), .val (.ref b1), .val (.int 0), .val (.int tt), .unset, .unset, .unset, .unset, .unset, .unset, .unset, .unset, .unset]
    rw [show ls19 = ls20 from by rw [hls19, hls20, htt]]
    show G T14 (mkF m 91 ls20 [])
    obtain ⟨NN, hNN, hKN, hN6⟩ := own_to0 p3 tt htt
    refine step (fun t k => XS.aload X14.here hx rfl (hb hby at_91) (by rw [hls20]; rfl) rfl k) ?_
    show G T14 (mkF m 93 ls20 [(.ref b1)])
    refine step (fun t k => XS.iload X14.here hx rfl (hb hby at_93) (by rw [hls20]; rfl) k) ?_
    show G T14 (mkF m 95 ls20 [(.int 0), (.ref b1)])
    refine step (fun t k => XS.bipush X14.here hx rfl (hb hby at_95) k) ?_
    show G T14 (mkF m 97 ls20 [(.int 123), (.int 0), (.ref b1)])
    obtain ⟨T21, h21, X21, e21, W21, V21, st21⟩ := own_stC X14 hx hZ e14 V14 (j := (0 : Int32)) (by decide) (i := 0) rfl (by show 0 < 6; decide) (g := (mkF m 97 ls20 [(.int 123), (.int 0), (.ref b1)])) rfl rfl (hb hby at_97)
    replace V21 : Arv Z h21 b1 k1 .char (6 : Int32) [(.int 123), (.int x1), (.int x2), (.int x3), (.int x4), (.int x5)] (.int 0) := by rw [own_narc (by decide : ¬ (123 : Int32) < 0 ∧ ¬ (255 : Int32) < (123 : Int32))] at V21; exact V21
    have N21 := Fr.snoc X21 N14 ge_b1
    obtain ⟨lc21, X21, N21⟩ := own_gen X21 N21
    have O21 := O14.wr W21 ge_b1
    refine step st21 ?_
    show G T21 (mkF m 98 ls20 [])
    have f23 := (Exa.wr W21 (Exa.wr W14 (Exa.wr W12 (Exa.wr W10 (Exa.wr W8 (Exa.wr W6 (Exa.wr W4 B1)))))))
    obtain ⟨T22, h22, X22, e22, E22, A22, D22, -, st22⟩ := newO X21 hx hZ hown (ww6 hw) (ww7 hw) (ww8 hw) e21 (g := (mkF m 98 ls20 [])) rfl (hb hby at_98) (by decide) (by decide)
    obtain ⟨b22, g22⟩ : ∃ z, z = h21.size := ⟨_, rfl⟩
    rw [← g22] at A22 D22 st22
    have ge_b22 : n0 ≤ b22 := Nat.le_trans (own_old_le O21) (Nat.le_of_eq g22.symm)
    have lt_b1_b22 : b1 < b22 := Nat.lt_of_lt_of_le f23.lt (Nat.le_of_eq g22.symm)
    have O22 := O21.ext E22
    have F22_coder : Fld Z h22 b22 cn_1 "coder" "B" (.int 0) := D22 (Or.inr (ww32 hw)) (ty := .byte) (by decide)
    have F22_value : Fld Z h22 b22 cn_1 "value" "[B" .null := D22 (Or.inr (ww34 hw)) (ty := (.array .byte)) (by decide)
    refine step st22 ?_
    show G T22 (mkF m 101 ls20 [(.ref b22)])
    refine step (fun t k => XS.dup X22.here hx rfl (hb hby at_101) rfl rfl k) ?_
    show G T22 (mkF m 102 ls20 [(.ref b22), (.ref b22)])
    refine step (fun t k => XS.aload X22.here hx rfl (hb hby at_102) (by rw [hls20]; rfl) rfl k) ?_
    show G T22 (mkF m 104 ls20 [(.ref b1), (.ref b22), (.ref b22)])
    have f25 := (V21.ext E22)
    have f26 := (Exa.ext E22 f23)
    have hK24 := (StrChars.Road.backV (l := l) (R := room_1) (p := p) (e := e) (below := below) (s := s) (args := #[(.int p0), (.long q1), (.int p2), (.int p3)]) (len := 3) (W := 1) hZ (own_hwV hw) (kI := 4) (ww7 hw) (cs := [(123 : Int32), x1, x2, x3, x4, x5]) (bs := [((123 : Int32).toInt8.toInt32), (x1.toInt8.toInt32), (x2.toInt8.toInt32), (x3.toInt8.toInt32), (x4.toInt8.toInt32), (x5.toInt8.toInt32)]) (n := 6) ge_b22 (own_old_le O22) A22 F22_value F22_coder f25 (Sta.ext O22.2 ST.k0) ST.k3 rfl rfl (by decide) (by decide) (List.forall_mem_cons.mpr ⟨(by decide : ¬ (123 : Int32) < 0 ∧ ¬ (255 : Int32) < (123 : Int32)), (List.forall_mem_cons.mpr ⟨lx1, (List.forall_mem_cons.mpr ⟨lx2, (List.forall_mem_cons.mpr ⟨lx3, (List.forall_mem_cons.mpr ⟨lx4, (List.forall_mem_cons.mpr ⟨lx5, (fun _ h => nomatch h)⟩)⟩)⟩)⟩)⟩)⟩) rfl (by decide) (by decide))
    obtain ⟨_, _, ⟨T24, L24, k24, n24⟩, -, X24, ⟨Lc24, hQ24, l24, y24, z24⟩, st24⟩ := X22.specialBack hx (y := y_5) rfl hown (mvT hZ (ww9 hw)) (mvT hZ (ww10 hw)) (mvT hZ (ww11 hw)) (by decide) hK24 (g := (mkF m 104 ls20 [(.ref b1), (.ref b22), (.ref b22)])) rfl (by rw [hml, hls20]; rfl) (Steps.refl _) (a := b22) (argsL := [(.ref b1)]) (rest := [(.ref b22)]) (lenOf pd_2 rfl) rfl (by show 2 * 0 + _ ≤ _; exact Nat.le_of_eq rfl) (hb hby at_104) (fun _ _ => ⟨rfl, e22, (by decide : 2 + 1 ≤ _), (by decide : 10 + 6 ≤ _)⟩)
    dsimp only [Pt.U, Pt.locs, Pt.cells, Pt.slots] at X24 l24 y24 z24 st24 hQ24
    subst l24 y24 z24
    obtain ⟨rfl, N24q, K24q, Es24, Cs24, b24, kb24, gt24, gh24, -, Fv24, Vb24⟩ := hQ24
    have N24 := Fr.app N21 N24q
    obtain ⟨lc24, X24, N24⟩ := own_gen X24 N24
    replace Vb24 : Arv Z T24.heap b24 kb24 .byte (6 : Int32) [(.int ((123 : Int32).toInt8.toInt32)), (.int (x1.toInt8.toInt32)), (.int (x2.toInt8.toInt32)), (.int (x3.toInt8.toInt32)), (.int (x4.toInt8.toInt32)), (.int (x5.toInt8.toInt32))] (.int 0) := Vb24
    have lt_b1_b24 : b1 < b24 := Nat.lt_of_lt_of_le f26.lt gh24
    have lt_b22_b24 : b22 < b24 := Nat.lt_of_lt_of_le A22.lt gh24
    have O24 := O22.keep K24q (allS ge_b22 all0)
    refine step (fun t k => st24.trans k) ?_
    show G T24 (mkF m 107 ls20 [(.ref b22)])
    obtain ⟨ls27, hls27⟩  := own_sl #[.val (.int p0), .val (.long q1), .second, .val (.int p2), .val (.int p3), .val (.ref b1), .val (.int 0), .val (.int tt), .val (.ref b22), .unset, .unset, .unset, .unset, .unset, .unset, .unset, .unset]
    refine step (fun t k => XS.astore X24.here hx rfl (hb hby at_107) rfl rfl (l' := ls27) (by rw [hls20, hls27]; rfl) k) ?_
    show G T24 (mkF m 109 ls27 [])
    refine step (fun t k => XS.aload X24.here hx rfl (hb hby at_109) (by rw [hls27]; rfl) rfl k) ?_
    show G T24 (mkF m 111 ls27 [(.ref b22)])
    refine step (fun t k => XS.iload X24.here hx rfl (hb hby at_111) (by rw [hls27]; rfl) k) ?_
    show G T24 (mkF m 113 ls27 [(.int 0), (.ref b22)])
    refine step (fun t k => XS.iload X24.here hx rfl (hb hby at_113) (by rw [hls27]; rfl) k) ?_
    show G T24 (mkF m 115 ls27 [(.int tt), (.int 0), (.ref b22)])
    have hK28 := (backOf (R := room_1) (p := p) (e := e) (below := below) (s := s) (args := #[(.int p0), (.long q1), (.int p2), (.int p3)]) (len := 3) (W := 0) (rm_clo l Z a0 hw [] w_COMPACT_STRINGS w_SIOOBE_FORMATTER b22 (0 : Int32) tt (123 : Int32) x1 x2 x3 x4 x5 b24 kb24 0 NN T24.heap n0 (own_old_le O24) ST O24 (by decide : ¬ (123 : Int32) < 0 ∧ ¬ (255 : Int32) < (123 : Int32)) lx1 lx2 lx3 lx4 lx5 Es24 Fv24 Cs24 Vb24 rfl hNN hKN hN6) hZ (ww38 hw) (ww37 hw) (by decide) (by decide))
    obtain ⟨_, _, ⟨T28, L28, k28, n28⟩, -, X28, ⟨Lc28, hQ28, l28, y28, z28⟩, st28⟩ := Jvm.LawKit.callS X24 hx (y := y_4) hown (mvT hZ (ww35 hw)) (mvT hZ (ww36 hw)) (mvT hZ (ww37 hw)) (mvT hZ (ww38 hw)) (by decide) hK28 (g := (mkF m 115 ls27 [(.int tt), (.int 0), (.ref b22)])) rfl (by rw [hml, hls27]; rfl) (argsL := [(.ref b22), (.int 0), (.int tt)]) (rest := []) (lenOf pd_3 rfl) rfl (by show 2 * 0 + _ ≤ _; exact Nat.le_of_eq rfl) (hb hby at_115) (fun _ _ => ⟨rfl, rfl, (by decide : 3 + 0 ≤ _), (by decide : 16 + 0 ≤ _)⟩)
    dsimp only [Pt.U, Pt.locs, Pt.cells, Pt.slots] at X28 l28 y28 z28 st28 hQ28
    subst l28 y28 z28
    obtain ⟨rfl, N28q, e28⟩ := hQ28
    have N28 := Fr.app N24 N28q
    refine step (fun t k => st28 t k) ?_
    show G T28 (mkF m 118 ls27 [(.int (own_go [(123 : Int32), x1, x2, x3, x4, x5] NN (NN - 0) 0 0))])
    obtain ⟨ls29, hls29⟩  := own_sl #[.val (.int p0), .val (.long q1), .second, .val (.int p2), .val (.int p3), .val (.ref b1), .val (.int 0), .val (.int tt), .val (.ref b22), .val (.int (own_go [(123 : Int32), x1, x2, x3, x4, x5] NN (NN - 0) 0 0)), .unset, .unset, .unset, .unset, .unset, .unset, .unset]
    refine step (fun t k => XS.istore X28.here hx rfl (hb hby at_118) rfl (l' := ls29) (by rw [hls27, hls29]; rfl) k) ?_
    show G T28 (mkF m 120 ls29 [])
    refine step (fun t k => XS.aload X28.here hx rfl (hb hby at_120) (by rw [hls29]; rfl) rfl k) ?_
    show G T28 (mkF m 122 ls29 [(.ref b1)])
    refine step (fun t k => XS.iconst X28.here hx rfl (hb hby at_122) k) ?_
    show G T28 (mkF m 123 ls29 [(.int 0), (.ref b1)])
    refine step (fun t k => XS.iload X28.here hx rfl (hb hby at_123) (by rw [hls29]; rfl) k) ?_
    show G T28 (mkF m 125 ls29 [(.int 0), (.int 0), (.ref b1)])
    have f31 := (Arv.keep f25 K24q (ninS (Nat.ne_of_lt lt_b1_b22) nin0))
    have hK30 := (backOf (R := room_1) (p := p) (e := e) (below := below) (s := s) (args := #[(.int p0), (.long q1), (.int p2), (.int p3)]) (len := 3) (W := 0) (rm_v0 l Z a0 hw [] w_COMPACT_STRINGS w_SIOOBE_FORMATTER b1 (0 : Int32) k1 (123 : Int32) x1 x2 x3 x4 x5 T24.heap n0 (own_old_le O24) ST O24 f31) hZ (ww41 hw) (ww3 hw) (by decide) (by decide))
    obtain ⟨_, _, ⟨T30, L30, k30, n30⟩, -, X30, ⟨Lc30, hQ30, l30, y30, z30⟩, st30⟩ := Jvm.LawKit.callS X28 hx (y := y_1) hown (mvT hZ (ww39 hw)) (mvT hZ (ww40 hw)) (mvT hZ (ww3 hw)) (mvT hZ (ww41 hw)) (by decide) hK30 (g := (mkF m 125 ls29 [(.int 0), (.int 0), (.ref b1)])) rfl (by rw [hml, hls29]; rfl) (argsL := [(.ref b1), (.int 0), (.int 0)]) (rest := []) (lenOf pd_4 rfl) rfl (by show 2 * 0 + _ ≤ _; exact Nat.le_of_eq rfl) (hb hby at_125) (fun _ _ => ⟨rfl, e28, (by decide : 3 + 0 ≤ _), (by decide : 16 + 0 ≤ _)⟩)
    dsimp only [Pt.U, Pt.locs, Pt.cells, Pt.slots] at X30 l30 y30 z30 st30 hQ30
    subst l30 y30 z30
    obtain ⟨rfl, N30q, e30⟩ := hQ30
    have N30 := Fr.app N28 N30q
    obtain ⟨lc30, X30, N30⟩ := own_gen X30 N30
    refine step (fun t k => st30 t k) ?_
    show G T30 (mkF m 128 ls29 [(.int (f_v0 w_COMPACT_STRINGS w_SIOOBE_FORMATTER b1 (0 : Int32) k1 (123 : Int32) x1 x2 x3 x4 x5))])
    obtain ⟨ls32, hls32⟩  := own_sl #[.val (.int p0), .val (.long q1), .second, .val (.int p2), .val (.int p3), .val (.ref b1), .val (.int 0), .val (.int tt), .val (.ref b22), .val (.int (own_go [(123 : Int32), x1, x2, x3, x4, x5] NN (NN - 0) 0 0)), .val (.int (f_v0 w_COMPACT_STRINGS w_SIOOBE_FORMATTER b1 (0 : Int32) k1 (123 : Int32) x1 x2 x3 x4 x5)), .unset, .unset, .unset, .unset, .unset, .unset]
    refine step (fun t k => XS.istore X30.here hx rfl (hb hby at_128) rfl (l' := ls32) (by rw [hls29, hls32]; rfl) k) ?_
    show G T30 (mkF m 130 ls32 [])
    obtain ⟨d0, hd0⟩ : ∃ z : Int32, z = (f_v0 w_COMPACT_STRINGS w_SIOOBE_FORMATTER b1 (0 : Int32) k1 (123 : Int32) x1 x2 x3 x4 x5) := ⟨_, rfl⟩
    obtain ⟨ls33, hls33⟩  := own_sl #[.val (.int p0), .val (.long q1), .second, .val (.int p2), .val (.int p3), .val (.ref b1), .val (.int 0), .val (.int tt), .val (.ref b22), .val (.int (own_go [(123 : Int32), x1, x2, x3, x4, x5] NN (NN - 0) 0 0)), .val (.int d0), .unset, .unset, .unset, .unset, .unset, .unset]
    rw [show ls32 = ls33 from by rw [hls32, hls33, hd0]]
    show G T30 (mkF m 130 ls33 [])
    have hv0 : d0 = 0 + own_vv (123 : Int32) := by rw [hd0]; unfold f_v0; rw [if_neg (by decide)]; rw [Int32.zero_add]; rfl
    refine step (fun t k => XS.iload X30.here hx rfl (hb hby at_130) (by rw [hls33]; rfl) k) ?_
    show G T30 (mkF m 132 ls33 [(.int d0)])
    refine step (fun t k => XS.aload X30.here hx rfl (hb hby at_132) (by rw [hls33]; rfl) rfl k) ?_
    show G T30 (mkF m 134 ls33 [(.ref b1), (.int d0)])
    refine step (fun t k => XS.iconst X30.here hx rfl (hb hby at_134) k) ?_
    show G T30 (mkF m 135 ls33 [(.int 1), (.ref b1), (.int d0)])
    refine step (fun t k => XS.iload X30.here hx rfl (hb hby at_135) (by rw [hls33]; rfl) k) ?_
    show G T30 (mkF m 137 ls33 [(.int 0), (.int 1), (.ref b1), (.int d0)])
    have hK34 := (backOf (R := room_1) (p := p) (e := e) (below := below) (s := s) (args := #[(.int p0), (.long q1), (.int p2), (.int p3)]) (len := 3) (W := 1) (rm_v1 l Z a0 hw [] w_COMPACT_STRINGS w_SIOOBE_FORMATTER b1 (0 : Int32) k1 (123 : Int32) x1 x2 x3 x4 x5 T24.heap n0 (own_old_le O24) ST O24 f31) hZ (ww41 hw) (ww3 hw) (by decide) (by decide))
    obtain ⟨_, _, ⟨T34, L34, k34, n34⟩, -, X34, ⟨Lc34, hQ34, l34, y34, z34⟩, st34⟩ := Jvm.LawKit.callS X30 hx (y := y_1) hown (mvT hZ (ww39 hw)) (mvT hZ (ww40 hw)) (mvT hZ (ww3 hw)) (mvT hZ (ww41 hw)) (by decide) hK34 (g := (mkF m 137 ls33 [(.int 0), (.int 1), (.ref b1), (.int d0)])) rfl (by rw [hml, hls33]; rfl) (argsL := [(.ref b1), (.int 1), (.int 0)]) (rest := [(.int d0)]) (lenOf pd_4 rfl) rfl (by show 2 * 0 + _ ≤ _; exact Nat.le_of_eq rfl) (hb hby at_137) (fun _ _ => ⟨rfl, e30, (by decide : 3 + 0 ≤ _), (by decide : 16 + 0 ≤ _)⟩)
    dsimp only [Pt.U, Pt.locs, Pt.cells, Pt.slots] at X34 l34 y34 z34 st34 hQ34
    subst l34 y34 z34
    obtain ⟨rfl, N34q, e34⟩ := hQ34
    have N34 := Fr.app N30 N34q
    obtain ⟨lc34, X34, N34⟩ := own_gen X34 N34
    refine step (fun t k => st34 t k) ?_
    show G T34 (mkF m 140 ls33 [(.int (f_v1 w_COMPACT_STRINGS w_SIOOBE_FORMATTER b1 (0 : Int32) k1 (123 : Int32) x1 x2 x3 x4 x5)), (.int d0)])
    refine step (fun t k => XS.iadd X34.here hx rfl (hb hby at_140) rfl k) ?_
    show G T34 (mkF m 141 ls33 [(.int (d0 + (f_v1 w_COMPACT_STRINGS w_SIOOBE_FORMATTER b1 (0 : Int32) k1 (123 : Int32) x1 x2 x3 x4 x5)))])
    obtain ⟨ls35, hls35⟩  := own_sl #[.val (.int p0), .val (.long q1), .second, .val (.int p2), .val (.int p3), .val (.ref b1), .val (.int 0), .val (.int tt), .val (.ref b22), .val (.int (own_go [(123 : Int32), x1, x2, x3, x4, x5] NN (NN - 0) 0 0)), .val (.int d0), .val (.int (d0 + (f_v1 w_COMPACT_STRINGS w_SIOOBE_FORMATTER b1 (0 : Int32) k1 (123 : Int32) x1 x2 x3 x4 x5))), .unset, .unset, .unset, .unset, .unset]
    refine step (fun t k => XS.istore X34.here hx rfl (hb hby at_141) rfl (l' := ls35) (by rw [hls33, hls35]; rfl) k) ?_
    show G T34 (mkF m 143 ls35 [])
    obtain ⟨d1, hd1⟩ : ∃ z : Int32, z = (d0 + (f_v1 w_COMPACT_STRINGS w_SIOOBE_FORMATTER b1 (0 : Int32) k1 (123 : Int32) x1 x2 x3 x4 x5)) := ⟨_, rfl⟩
    obtain ⟨ls36, hls36⟩  := own_sl #[.val (.int p0), .val (.long q1), .second, .val (.int p2), .val (.int p3), .val (.ref b1), .val (.int 0), .val (.int tt), .val (.ref b22), .val (.int (own_go [(123 : Int32), x1, x2, x3, x4, x5] NN (NN - 0) 0 0)), .val (.int d0), .val (.int d1), .unset, .unset, .unset, .unset, .unset]
    rw [show ls35 = ls36 from by rw [hls35, hls36, hd1]]
    show G T34 (mkF m 143 ls36 [])
    have hv1 : d1 = d0 + own_vv x1 := by rw [hd1]; unfold f_v1; rw [if_neg (by decide)]; rfl
    refine step (fun t k => XS.iload X34.here hx rfl (hb hby at_143) (by rw [hls36]; rfl) k) ?_
    show G T34 (mkF m 145 ls36 [(.int d1)])
    refine step (fun t k => XS.aload X34.here hx rfl (hb hby at_145) (by rw [hls36]; rfl) rfl k) ?_
    show G T34 (mkF m 147 ls36 [(.ref b1), (.int d1)])
    refine step (fun t k => XS.iconst X34.here hx rfl (hb hby at_147) k) ?_
    show G T34 (mkF m 148 ls36 [(.int 2), (.ref b1), (.int d1)])
    refine step (fun t k => XS.iload X34.here hx rfl (hb hby at_148) (by rw [hls36]; rfl) k) ?_
    show G T34 (mkF m 150 ls36 [(.int 0), (.int 2), (.ref b1), (.int d1)])
    have hK37 := (backOf (R := room_1) (p := p) (e := e) (below := below) (s := s) (args := #[(.int p0), (.long q1), (.int p2), (.int p3)]) (len := 3) (W := 1) (rm_v2 l Z a0 hw [] w_COMPACT_STRINGS w_SIOOBE_FORMATTER b1 (0 : Int32) k1 (123 : Int32) x1 x2 x3 x4 x5 T24.heap n0 (own_old_le O24) ST O24 f31) hZ (ww41 hw) (ww3 hw) (by decide) (by decide))
    obtain ⟨_, _, ⟨T37, L37, k37, n37⟩, -, X37, ⟨Lc37, hQ37, l37, y37, z37⟩, st37⟩ := Jvm.LawKit.callS X34 hx (y := y_1) hown (mvT hZ (ww39 hw)) (mvT hZ (ww40 hw)) (mvT hZ (ww3 hw)) (mvT hZ (ww41 hw)) (by decide) hK37 (g := (mkF m 150 ls36 [(.int 0), (.int 2), (.ref b1), (.int d1)])) rfl (by rw [hml, hls36]; rfl) (argsL := [(.ref b1), (.int 2), (.int 0)]) (rest := [(.int d1)]) (lenOf pd_4 rfl) rfl (by show 2 * 0 + _ ≤ _; exact Nat.le_of_eq rfl) (hb hby at_150) (fun _ _ => ⟨rfl, e34, (by decide : 3 + 0 ≤ _), (by decide : 16 + 0 ≤ _)⟩)
    dsimp only [Pt.U, Pt.locs, Pt.cells, Pt.slots] at X37 l37 y37 z37 st37 hQ37
    subst l37 y37 z37
    obtain ⟨rfl, N37q, e37⟩ := hQ37
    have N37 := Fr.app N34 N37q
    obtain ⟨lc37, X37, N37⟩ := own_gen X37 N37
    refine step (fun t k => st37 t k) ?_
    show G T37 (mkF m 153 ls36 [(.int (f_v2 w_COMPACT_STRINGS w_SIOOBE_FORMATTER b1 (0 : Int32) k1 (123 : Int32) x1 x2 x3 x4 x5)), (.int d1)])
    refine step (fun t k => XS.iadd X37.here hx rfl (hb hby at_153) rfl k) ?_
    show G T37 (mkF m 154 ls36 [(.int (d1 + (f_v2 w_COMPACT_STRINGS w_SIOOBE_FORMATTER b1 (0 : Int32) k1 (123 : Int32) x1 x2 x3 x4 x5)))])
    obtain ⟨ls38, hls38⟩  := own_sl #[.val (.int p0), .val (.long q1), .second, .val (.int p2), .val (.int p3), .val (.ref b1), .val (.int 0), .val (.int tt), .val (.ref b22), .val (.int (own_go [(123 : Int32), x1, x2, x3, x4, x5] NN (NN - 0) 0 0)), .val (.int d0), .val (.int d1), .val (.int (d1 + (f_v2 w_COMPACT_STRINGS w_SIOOBE_FORMATTER b1 (0 : Int32) k1 (123 : Int32) x1 x2 x3 x4 x5))), .unset, .unset, .unset, .unset]
    refine step (fun t k => XS.istore X37.here hx rfl (hb hby at_154) rfl (l' := ls38) (by rw [hls36, hls38]; rfl) k) ?_
    show G T37 (mkF m 156 ls38 [])
    obtain ⟨d2, hd2⟩ : ∃ z : Int32, z = (d1 + (f_v2 w_COMPACT_STRINGS w_SIOOBE_FORMATTER b1 (0 : Int32) k1 (123 : Int32) x1 x2 x3 x4 x5)) := ⟨_, rfl⟩
    obtain ⟨ls39, hls39⟩  := own_sl #[.val (.int p0), .val (.long q1), .second, .val (.int p2), .val (.int p3), .val (.ref b1), .val (.int 0), .val (.int tt), .val (.ref b22), .val (.int (own_go [(123 : Int32), x1, x2, x3, x4, x5] NN (NN - 0) 0 0)), .val (.int d0), .val (.int d1), .val (.int d2), .unset, .unset, .unset, .unset]
    rw [show ls38 = ls39 from by rw [hls38, hls39, hd2]]
    show G T37 (mkF m 156 ls39 [])
    have hv2 : d2 = d1 + own_vv x2 := by rw [hd2]; unfold f_v2; rw [if_neg (by decide)]; rfl
    refine step (fun t k => XS.iload X37.here hx rfl (hb hby at_156) (by rw [hls39]; rfl) k) ?_
    show G T37 (mkF m 158 ls39 [(.int d2)])
    refine step (fun t k => XS.aload X37.here hx rfl (hb hby at_158) (by rw [hls39]; rfl) rfl k) ?_
    show G T37 (mkF m 160 ls39 [(.ref b1), (.int d2)])
    refine step (fun t k => XS.iconst X37.here hx rfl (hb hby at_160) k) ?_
    show G T37 (mkF m 161 ls39 [(.int 3), (.ref b1), (.int d2)])
    refine step (fun t k => XS.iload X37.here hx rfl (hb hby at_161) (by rw [hls39]; rfl) k) ?_
    show G T37 (mkF m 163 ls39 [(.int 0), (.int 3), (.ref b1), (.int d2)])
    have hK40 := (backOf (R := room_1) (p := p) (e := e) (below := below) (s := s) (args := #[(.int p0), (.long q1), (.int p2), (.int p3)]) (len := 3) (W := 1) (rm_v3 l Z a0 hw [] w_COMPACT_STRINGS w_SIOOBE_FORMATTER b1 (0 : Int32) k1 (123 : Int32) x1 x2 x3 x4 x5 T24.heap n0 (own_old_le O24) ST O24 f31) hZ (ww41 hw) (ww3 hw) (by decide) (by decide))
    obtain ⟨_, _, ⟨T40, L40, k40, n40⟩, -, X40, ⟨Lc40, hQ40, l40, y40, z40⟩, st40⟩ := Jvm.LawKit.callS X37 hx (y := y_1) hown (mvT hZ (ww39 hw)) (mvT hZ (ww40 hw)) (mvT hZ (ww3 hw)) (mvT hZ (ww41 hw)) (by decide) hK40 (g := (mkF m 163 ls39 [(.int 0), (.int 3), (.ref b1), (.int d2)])) rfl (by rw [hml, hls39]; rfl) (argsL := [(.ref b1), (.int 3), (.int 0)]) (rest := [(.int d2)]) (lenOf pd_4 rfl) rfl (by show 2 * 0 + _ ≤ _; exact Nat.le_of_eq rfl) (hb hby at_163) (fun _ _ => ⟨rfl, e37, (by decide : 3 + 0 ≤ _), (by decide : 16 + 0 ≤ _)⟩)
    dsimp only [Pt.U, Pt.locs, Pt.cells, Pt.slots] at X40 l40 y40 z40 st40 hQ40
    subst l40 y40 z40
    obtain ⟨rfl, N40q, e40⟩ := hQ40
    have N40 := Fr.app N37 N40q
    obtain ⟨lc40, X40, N40⟩ := own_gen X40 N40
    refine step (fun t k => st40 t k) ?_
    show G T40 (mkF m 166 ls39 [(.int (f_v3 w_COMPACT_STRINGS w_SIOOBE_FORMATTER b1 (0 : Int32) k1 (123 : Int32) x1 x2 x3 x4 x5)), (.int d2)])
    refine step (fun t k => XS.iadd X40.here hx rfl (hb hby at_166) rfl k) ?_
    show G T40 (mkF m 167 ls39 [(.int (d2 + (f_v3 w_COMPACT_STRINGS w_SIOOBE_FORMATTER b1 (0 : Int32) k1 (123 : Int32) x1 x2 x3 x4 x5)))])
    obtain ⟨ls41, hls41⟩  := own_sl #[.val (.int p0), .val (.long q1), .second, .val (.int p2), .val (.int p3), .val (.ref b1), .val (.int 0), .val (.int tt), .val (.ref b22), .val (.int (own_go [(123 : Int32), x1, x2, x3, x4, x5] NN (NN - 0) 0 0)), .val (.int d0), .val (.int d1), .val (.int d2), .val (.int (d2 + (f_v3 w_COMPACT_STRINGS w_SIOOBE_FORMATTER b1 (0 : Int32) k1 (123 : Int32) x1 x2 x3 x4 x5))), .unset, .unset, .unset]
    refine step (fun t k => XS.istore X40.here hx rfl (hb hby at_167) rfl (l' := ls41) (by rw [hls39, hls41]; rfl) k) ?_
    show G T40 (mkF m 169 ls41 [])
    obtain ⟨d3, hd3⟩ : ∃ z : Int32, z = (d2 + (f_v3 w_COMPACT_STRINGS w_SIOOBE_FORMATTER b1 (0 : Int32) k1 (123 : Int32) x1 x2 x3 x4 x5)) := ⟨_, rfl⟩
    obtain ⟨ls42, hls42⟩  := own_sl #[.val (.int p0), .val (.long q1), .second, .val (.int p2), .val (.int p3), .val (.ref b1), .val (.int 0), .val (.int tt), .val (.ref b22), .val (.int (own_go [(123 : Int32), x1, x2, x3, x4, x5] NN (NN - 0) 0 0)), .val (.int d0), .val (.int d1), .val (.int d2), .val (.int d3), .unset, .unset, .unset]
    rw [show ls41 = ls42 from by rw [hls41, hls42, hd3]]
    show G T40 (mkF m 169 ls42 [])
    have hv3 : d3 = d2 + own_vv x3 := by rw [hd3]; unfold f_v3; rw [if_neg (by decide)]; rfl
    refine step (fun t k => XS.iload X40.here hx rfl (hb hby at_169) (by rw [hls42]; rfl) k) ?_
    show G T40 (mkF m 171 ls42 [(.int d3)])
    refine step (fun t k => XS.aload X40.here hx rfl (hb hby at_171) (by rw [hls42]; rfl) rfl k) ?_
    show G T40 (mkF m 173 ls42 [(.ref b1), (.int d3)])
    refine step (fun t k => XS.iconst X40.here hx rfl (hb hby at_173) k) ?_
    show G T40 (mkF m 174 ls42 [(.int 4), (.ref b1), (.int d3)])
    refine step (fun t k => XS.iload X40.here hx rfl (hb hby at_174) (by rw [hls42]; rfl) k) ?_
    show G T40 (mkF m 176 ls42 [(.int 0), (.int 4), (.ref b1), (.int d3)])
    have hK43 := (backOf (R := room_1) (p := p) (e := e) (below := below) (s := s) (args := #[(.int p0), (.long q1), (.int p2), (.int p3)]) (len := 3) (W := 1) (rm_v4 l Z a0 hw [] w_COMPACT_STRINGS w_SIOOBE_FORMATTER b1 (0 : Int32) k1 (123 : Int32) x1 x2 x3 x4 x5 T24.heap n0 (own_old_le O24) ST O24 f31) hZ (ww41 hw) (ww3 hw) (by decide) (by decide))
    obtain ⟨_, _, ⟨T43, L43, k43, n43⟩, -, X43, ⟨Lc43, hQ43, l43, y43, z43⟩, st43⟩ := Jvm.LawKit.callS X40 hx (y := y_1) hown (mvT hZ (ww39 hw)) (mvT hZ (ww40 hw)) (mvT hZ (ww3 hw)) (mvT hZ (ww41 hw)) (by decide) hK43 (g := (mkF m 176 ls42 [(.int 0), (.int 4), (.ref b1), (.int d3)])) rfl (by rw [hml, hls42]; rfl) (argsL := [(.ref b1), (.int 4), (.int 0)]) (rest := [(.int d3)]) (lenOf pd_4 rfl) rfl (by show 2 * 0 + _ ≤ _; exact Nat.le_of_eq rfl) (hb hby at_176) (fun _ _ => ⟨rfl, e40, (by decide : 3 + 0 ≤ _), (by decide : 16 + 0 ≤ _)⟩)
    dsimp only [Pt.U, Pt.locs, Pt.cells, Pt.slots] at X43 l43 y43 z43 st43 hQ43
    subst l43 y43 z43
    obtain ⟨rfl, N43q, e43⟩ := hQ43
    have N43 := Fr.app N40 N43q
    obtain ⟨lc43, X43, N43⟩ := own_gen X43 N43
    refine step (fun t k => st43 t k) ?_
    show G T43 (mkF m 179 ls42 [(.int (f_v4 w_COMPACT_STRINGS w_SIOOBE_FORMATTER b1 (0 : Int32) k1 (123 : Int32) x1 x2 x3 x4 x5)), (.int d3)])
    refine step (fun t k => XS.iadd X43.here hx rfl (hb hby at_179) rfl k) ?_
    show G T43 (mkF m 180 ls42 [(.int (d3 + (f_v4 w_COMPACT_STRINGS w_SIOOBE_FORMATTER b1 (0 : Int32) k1 (123 : Int32) x1 x2 x3 x4 x5)))])
    obtain ⟨ls44, hls44⟩  := own_sl #[.val (.int p0), .val (.long q1), .second, .val (.int p2), .val (.int p3), .val (.ref b1), .val (.int 0), .val (.int tt), .val (.ref b22), .val (.int (own_go [(123 : Int32), x1, x2, x3, x4, x5] NN (NN - 0) 0 0)), .val (.int d0), .val (.int d1), .val (.int d2), .val (.int d3), .val (.int (d3 + (f_v4 w_COMPACT_STRINGS w_SIOOBE_FORMATTER b1 (0 : Int32) k1 (123 : Int32) x1 x2 x3 x4 x5))), .unset, .unset]
    refine step (fun t k => XS.istore X43.here hx rfl (hb hby at_180) rfl (l' := ls44) (by rw [hls42, hls44]; rfl) k) ?_
    show G T43 (mkF m 182 ls44 [])
    obtain ⟨d4, hd4⟩ : ∃ z : Int32, z = (d3 + (f_v4 w_COMPACT_STRINGS w_SIOOBE_FORMATTER b1 (0 : Int32) k1 (123 : Int32) x1 x2 x3 x4 x5)) := ⟨_, rfl⟩
    obtain ⟨ls45, hls45⟩  := own_sl #[.val (.int p0), .val (.long q1), .second, .val (.int p2), .val (.int p3), .val (.ref b1), .val (.int 0), .val (.int tt), .val (.ref b22), .val (.int (own_go [(123 : Int32), x1, x2, x3, x4, x5] NN (NN - 0) 0 0)), .val (.int d0), .val (.int d1), .val (.int d2), .val (.int d3), .val (.int d4), .unset, .unset]
    rw [show ls44 = ls45 from by rw [hls44, hls45, hd4]]
    show G T43 (mkF m 182 ls45 [])
    have hv4 : d4 = d3 + own_vv x4 := by rw [hd4]; unfold f_v4; rw [if_neg (by decide)]; rfl
    refine step (fun t k => XS.iload X43.here hx rfl (hb hby at_182) (by rw [hls45]; rfl) k) ?_
    show G T43 (mkF m 184 ls45 [(.int d4)])
    refine step (fun t k => XS.aload X43.here hx rfl (hb hby at_184) (by rw [hls45]; rfl) rfl k) ?_
    show G T43 (mkF m 186 ls45 [(.ref b1), (.int d4)])
    refine step (fun t k => XS.iconst X43.here hx rfl (hb hby at_186) k) ?_
    show G T43 (mkF m 187 ls45 [(.int 5), (.ref b1), (.int d4)])
    refine step (fun t k => XS.iload X43.here hx rfl (hb hby at_187) (by rw [hls45]; rfl) k) ?_
    show G T43 (mkF m 189 ls45 [(.int 0), (.int 5), (.ref b1), (.int d4)])
    have hK46 := (backOf (R := room_1) (p := p) (e := e) (below := below) (s := s) (args := #[(.int p0), (.long q1), (.int p2), (.int p3)]) (len := 3) (W := 1) (rm_v5 l Z a0 hw [] w_COMPACT_STRINGS w_SIOOBE_FORMATTER b1 (0 : Int32) k1 (123 : Int32) x1 x2 x3 x4 x5 T24.heap n0 (own_old_le O24) ST O24 f31) hZ (ww41 hw) (ww3 hw) (by decide) (by decide))
    obtain ⟨_, _, ⟨T46, L46, k46, n46⟩, -, X46, ⟨Lc46, hQ46, l46, y46, z46⟩, st46⟩ := Jvm.LawKit.callS X43 hx (y := y_1) hown (mvT hZ (ww39 hw)) (mvT hZ (ww40 hw)) (mvT hZ (ww3 hw)) (mvT hZ (ww41 hw)) (by decide) hK46 (g := (mkF m 189 ls45 [(.int 0), (.int 5), (.ref b1), (.int d4)])) rfl (by rw [hml, hls45]; rfl) (argsL := [(.ref b1), (.int 5), (.int 0)]) (rest := [(.int d4)]) (lenOf pd_4 rfl) rfl (by show 2 * 0 + _ ≤ _; exact Nat.le_of_eq rfl) (hb hby at_189) (fun _ _ => ⟨rfl, e43, (by decide : 3 + 0 ≤ _), (by decide : 16 + 0 ≤ _)⟩)
    dsimp only [Pt.U, Pt.locs, Pt.cells, Pt.slots] at X46 l46 y46 z46 st46 hQ46
    subst l46 y46 z46
    obtain ⟨rfl, N46q, e46⟩ := hQ46
    have N46 := Fr.app N43 N46q
    obtain ⟨lc46, X46, N46⟩ := own_gen X46 N46
    refine step (fun t k => st46 t k) ?_
    show G T46 (mkF m 192 ls45 [(.int (f_v5 w_COMPACT_STRINGS w_SIOOBE_FORMATTER b1 (0 : Int32) k1 (123 : Int32) x1 x2 x3 x4 x5)), (.int d4)])
    refine step (fun t k => XS.iadd X46.here hx rfl (hb hby at_192) rfl k) ?_
    show G T46 (mkF m 193 ls45 [(.int (d4 + (f_v5 w_COMPACT_STRINGS w_SIOOBE_FORMATTER b1 (0 : Int32) k1 (123 : Int32) x1 x2 x3 x4 x5)))])
    obtain ⟨ls47, hls47⟩  := own_sl #[.val (.int p0), .val (.long q1), .second, .val (.int p2), .val (.int p3), .val (.ref b1), .val (.int 0), .val (.int tt), .val (.ref b22), .val (.int (own_go [(123 : Int32), x1, x2, x3, x4, x5] NN (NN - 0) 0 0)), .val (.int d0), .val (.int d1), .val (.int d2), .val (.int d3), .val (.int d4), .val (.int (d4 + (f_v5 w_COMPACT_STRINGS w_SIOOBE_FORMATTER b1 (0 : Int32) k1 (123 : Int32) x1 x2 x3 x4 x5))), .unset]
    refine step (fun t k => XS.istore X46.here hx rfl (hb hby at_193) rfl (l' := ls47) (by rw [hls45, hls47]; rfl) k) ?_
    show G T46 (mkF m 195 ls47 [])
    obtain ⟨d5, hd5⟩ : ∃ z : Int32, z = (d4 + (f_v5 w_COMPACT_STRINGS w_SIOOBE_FORMATTER b1 (0 : Int32) k1 (123 : Int32) x1 x2 x3 x4 x5)) := ⟨_, rfl⟩
    obtain ⟨ls48, hls48⟩  := own_sl #[.val (.int p0), .val (.long q1), .second, .val (.int p2), .val (.int p3), .val (.ref b1), .val (.int 0), .val (.int tt), .val (.ref b22), .val (.int (own_go [(123 : Int32), x1, x2, x3, x4, x5] NN (NN - 0) 0 0)), .val (.int d0), .val (.int d1), .val (.int d2), .val (.int d3), .val (.int d4), .val (.int d5), .unset]
    rw [show ls47 = ls48 from by rw [hls47, hls48, hd5]]
    show G T46 (mkF m 195 ls48 [])
    have hv5 : d5 = d4 + own_vv x5 := by rw [hd5]; unfold f_v5; rw [if_neg (by decide)]; rfl
    refine step (fun t k => XS.aload X46.here hx rfl (hb hby at_195) (by rw [hls48]; rfl) rfl k) ?_
    show G T46 (mkF m 197 ls48 [(.ref b1)])
    refine step (fun t k => XS.iconst X46.here hx rfl (hb hby at_197) k) ?_
    show G T46 (mkF m 198 ls48 [(.int 0), (.ref b1)])
    refine step (fun t k => XS.iload X46.here hx rfl (hb hby at_198) (by rw [hls48]; rfl) k) ?_
    show G T46 (mkF m 200 ls48 [(.int 0), (.int 0), (.ref b1)])
    refine step (fun t k => XS.iload X46.here hx rfl (hb hby at_200) (by rw [hls48]; rfl) k) ?_
    show G T46 (mkF m 202 ls48 [(.int tt), (.int 0), (.int 0), (.ref b1)])
    refine step (fun t k => XS.iload X46.here hx rfl (hb hby at_202) (by rw [hls48]; rfl) k) ?_
    show G T46 (mkF m 204 ls48 [(.int d0), (.int tt), (.int 0), (.int 0), (.ref b1)])
    have hK49 := (backOf (R := room_1) (p := p) (e := e) (below := below) (s := s) (args := #[(.int p0), (.long q1), (.int p2), (.int p3)]) (len := 3) (W := 0) (rm_h0 l Z a0 hw [] w_COMPACT_STRINGS w_SIOOBE_FORMATTER b1 (0 : Int32) tt d0 k1 (123 : Int32) x1 x2 x3 x4 x5 T24.heap n0 (own_old_le O24) ST O24 f31) hZ (ww44 hw) (ww3 hw) (by decide) (by decide))
    obtain ⟨_, _, ⟨T49, L49, k49, n49⟩, -, X49, ⟨Lc49, hQ49, l49, y49, z49⟩, st49⟩ := Jvm.LawKit.callS X46 hx (y := y_2) hown (mvT hZ (ww42 hw)) (mvT hZ (ww43 hw)) (mvT hZ (ww3 hw)) (mvT hZ (ww44 hw)) (by decide) hK49 (g := (mkF m 204 ls48 [(.int d0), (.int tt), (.int 0), (.int 0), (.ref b1)])) rfl (by rw [hml, hls48]; rfl) (argsL := [(.ref b1), (.int 0), (.int 0), (.int tt), (.int d0)]) (rest := []) (lenOf pd_5 rfl) rfl (by show 2 * 0 + _ ≤ _; exact Nat.le_of_eq rfl) (hb hby at_204) (fun _ _ => ⟨rfl, e46, (by decide : 3 + 0 ≤ _), (by decide : 16 + 0 ≤ _)⟩)
    dsimp only [Pt.U, Pt.locs, Pt.cells, Pt.slots] at X49 l49 y49 z49 st49 hQ49
    subst l49 y49 z49
    obtain ⟨rfl, N49q, e49⟩ := hQ49
    have N49 := Fr.app N46 N49q
    obtain ⟨lc49, X49, N49⟩ := own_gen X49 N49
    refine step (fun t k => st49 t k) ?_
    show G T49 (mkF m 207 ls48 [(.int (f_h0 w_COMPACT_STRINGS w_SIOOBE_FORMATTER b1 (0 : Int32) tt d0 k1 (123 : Int32) x1 x2 x3 x4 x5))])
    by_cases hc50 : (f_h0 w_COMPACT_STRINGS w_SIOOBE_FORMATTER b1 (0 : Int32) tt d0 k1 (123 : Int32) x1 x2 x3 x4 x5) = (0 : Int32)
    · skip
      refine step (fun t k => XS.ifYes X49.here hx rfl (pc0 := 207) (pc' := 216) rfl (hb hby at_207) rfl ((if0 _ _).trans (teq hc50).1) (by decide) (by decide) k) ?_
      show G T49 (mkF m 216 ls48 [])
      refine step (fun t k => XS.aload X49.here hx rfl (hb hby at_216) (by rw [hls48]; rfl) rfl k) ?_
      show G T49 (mkF m 218 ls48 [(.ref b1)])
      refine step (fun t k => XS.iconst X49.here hx rfl (hb hby at_218) k) ?_
      show G T49 (mkF m 219 ls48 [(.int 1), (.ref b1)])
      refine step (fun t k => XS.iload X49.here hx rfl (hb hby at_219) (by rw [hls48]; rfl) k) ?_
      show G T49 (mkF m 221 ls48 [(.int 0), (.int 1), (.ref b1)])
      refine step (fun t k => XS.iload X49.here hx rfl (hb hby at_221) (by rw [hls48]; rfl) k) ?_
      show G T49 (mkF m 223 ls48 [(.int tt), (.int 0), (.int 1), (.ref b1)])
      refine step (fun t k => XS.iload X49.here hx rfl (hb hby at_223) (by rw [hls48]; rfl) k) ?_
      show G T49 (mkF m 225 ls48 [(.int d1), (.int tt), (.int 0), (.int 1), (.ref b1)])
      have hK51 := (backOf (R := room_1) (p := p) (e := e) (below := below) (s := s) (args := #[(.int p0), (.long q1), (.int p2), (.int p3)]) (len := 3) (W := 0) (rm_h1 l Z a0 hw [] w_COMPACT_STRINGS w_SIOOBE_FORMATTER b1 (0 : Int32) tt d1 k1 (123 : Int32) x1 x2 x3 x4 x5 T24.heap n0 (own_old_le O24) ST O24 f31) hZ (ww44 hw) (ww3 hw) (by decide) (by decide))
      obtain ⟨_, _, ⟨T51, L51, k51, n51⟩, -, X51, ⟨Lc51, hQ51, l51, y51, z51⟩, st51⟩ := Jvm.LawKit.callS X49 hx (y := y_2) hown (mvT hZ (ww42 hw)) (mvT hZ (ww43 hw)) (mvT hZ (ww3 hw)) (mvT hZ (ww44 hw)) (by decide) hK51 (g := (mkF m 225 ls48 [(.int d1), (.int tt), (.int 0), (.int 1), (.ref b1)])) rfl (by rw [hml, hls48]; rfl) (argsL := [(.ref b1), (.int 1), (.int 0), (.int tt), (.int d1)]) (rest := []) (lenOf pd_5 rfl) rfl (by show 2 * 0 + _ ≤ _; exact Nat.le_of_eq rfl) (hb hby at_225) (fun _ _ => ⟨rfl, e49, (by decide : 3 + 0 ≤ _), (by decide : 16 + 0 ≤ _)⟩)
      dsimp only [Pt.U, Pt.locs, Pt.cells, Pt.slots] at X51 l51 y51 z51 st51 hQ51
      subst l51 y51 z51
      obtain ⟨rfl, N51q, e51⟩ := hQ51
      have N51 := Fr.app N49 N51q
      obtain ⟨lc51, X51, N51⟩ := own_gen X51 N51
      refine step (fun t k => st51 t k) ?_
      show G T51 (mkF m 228 ls48 [(.int (f_h1 w_COMPACT_STRINGS w_SIOOBE_FORMATTER b1 (0 : Int32) tt d1 k1 (123 : Int32) x1 x2 x3 x4 x5))])
      by_cases hc52 : (f_h1 w_COMPACT_STRINGS w_SIOOBE_FORMATTER b1 (0 : Int32) tt d1 k1 (123 : Int32) x1 x2 x3 x4 x5) = (0 : Int32)
      · skip
        refine step (fun t k => XS.ifYes X51.here hx rfl (pc0 := 228) (pc' := 237) rfl (hb hby at_228) rfl ((if0 _ _).trans (teq hc52).1) (by decide) (by decide) k) ?_
        show G T51 (mkF m 237 ls48 [])
        refine step (fun t k => XS.aload X51.here hx rfl (hb hby at_237) (by rw [hls48]; rfl) rfl k) ?_
        show G T51 (mkF m 239 ls48 [(.ref b1)])
        refine step (fun t k => XS.iconst X51.here hx rfl (hb hby at_239) k) ?_
        show G T51 (mkF m 240 ls48 [(.int 2), (.ref b1)])
        refine step (fun t k => XS.iload X51.here hx rfl (hb hby at_240) (by rw [hls48]; rfl) k) ?_
        show G T51 (mkF m 242 ls48 [(.int 0), (.int 2), (.ref b1)])
        refine step (fun t k => XS.iload X51.here hx rfl (hb hby at_242) (by rw [hls48]; rfl) k) ?_
        show G T51 (mkF m 244 ls48 [(.int tt), (.int 0), (.int 2), (.ref b1)])
        refine step (fun t k => XS.iload X51.here hx rfl (hb hby at_244) (by rw [hls48]; rfl) k) ?_
        show G T51 (mkF m 246 ls48 [(.int d2), (.int tt), (.int 0), (.int 2), (.ref b1)])
        have hK53 := (backOf (R := room_1) (p := p) (e := e) (below := below) (s := s) (args := #[(.int p0), (.long q1), (.int p2), (.int p3)]) (len := 3) (W := 0) (rm_h2 l Z a0 hw [] w_COMPACT_STRINGS w_SIOOBE_FORMATTER b1 (0 : Int32) tt d2 k1 (123 : Int32) x1 x2 x3 x4 x5 T24.heap n0 (own_old_le O24) ST O24 f31) hZ (ww44 hw) (ww3 hw) (by decide) (by decide))
        obtain ⟨_, _, ⟨T53, L53, k53, n53⟩, -, X53, ⟨Lc53, hQ53, l53, y53, z53⟩, st53⟩ := Jvm.LawKit.callS X51 hx (y := y_2) hown (mvT hZ (ww42 hw)) (mvT hZ (ww43 hw)) (mvT hZ (ww3 hw)) (mvT hZ (ww44 hw)) (by decide) hK53 (g := (mkF m 246 ls48 [(.int d2), (.int tt), (.int 0), (.int 2), (.ref b1)])) rfl (by rw [hml, hls48]; rfl) (argsL := [(.ref b1), (.int 2), (.int 0), (.int tt), (.int d2)]) (rest := []) (lenOf pd_5 rfl) rfl (by show 2 * 0 + _ ≤ _; exact Nat.le_of_eq rfl) (hb hby at_246) (fun _ _ => ⟨rfl, e51, (by decide : 3 + 0 ≤ _), (by decide : 16 + 0 ≤ _)⟩)
        dsimp only [Pt.U, Pt.locs, Pt.cells, Pt.slots] at X53 l53 y53 z53 st53 hQ53
        subst l53 y53 z53
        obtain ⟨rfl, N53q, e53⟩ := hQ53
        have N53 := Fr.app N51 N53q
        obtain ⟨lc53, X53, N53⟩ := own_gen X53 N53
        refine step (fun t k => st53 t k) ?_
        show G T53 (mkF m 249 ls48 [(.int (f_h2 w_COMPACT_STRINGS w_SIOOBE_FORMATTER b1 (0 : Int32) tt d2 k1 (123 : Int32) x1 x2 x3 x4 x5))])
        by_cases hc54 : (f_h2 w_COMPACT_STRINGS w_SIOOBE_FORMATTER b1 (0 : Int32) tt d2 k1 (123 : Int32) x1 x2 x3 x4 x5) = (0 : Int32)
        · skip
          refine step (fun t k => XS.ifYes X53.here hx rfl (pc0 := 249) (pc' := 258) rfl (hb hby at_249) rfl ((if0 _ _).trans (teq hc54).1) (by decide) (by decide) k) ?_
          show G T53 (mkF m 258 ls48 [])
          refine step (fun t k => XS.aload X53.here hx rfl (hb hby at_258) (by rw [hls48]; rfl) rfl k) ?_
          show G T53 (mkF m 260 ls48 [(.ref b1)])
          refine step (fun t k => XS.iconst X53.here hx rfl (hb hby at_260) k) ?_
          show G T53 (mkF m 261 ls48 [(.int 3), (.ref b1)])
          refine step (fun t k => XS.iload X53.here hx rfl (hb hby at_261) (by rw [hls48]; rfl) k) ?_
          show G T53 (mkF m 263 ls48 [(.int 0), (.int 3), (.ref b1)])
          refine step (fun t k => XS.iload X53.here hx rfl (hb hby at_263) (by rw [hls48]; rfl) k) ?_
          show G T53 (mkF m 265 ls48 [(.int tt), (.int 0), (.int 3), (.ref b1)])
          refine step (fun t k => XS.iload X53.here hx rfl (hb hby at_265) (by rw [hls48]; rfl) k) ?_
          show G T53 (mkF m 267 ls48 [(.int d3), (.int tt), (.int 0), (.int 3), (.ref b1)])
          have hK55 := (backOf (R := room_1) (p := p) (e := e) (below := below) (s := s) (args := #[(.int p0), (.long q1), (.int p2), (.int p3)]) (len := 3) (W := 0) (rm_h3 l Z a0 hw [] w_COMPACT_STRINGS w_SIOOBE_FORMATTER b1 (0 : Int32) tt d3 k1 (123 : Int32) x1 x2 x3 x4 x5 T24.heap n0 (own_old_le O24) ST O24 f31) hZ (ww44 hw) (ww3 hw) (by decide) (by decide))
          obtain ⟨_, _, ⟨T55, L55, k55, n55⟩, -, X55, ⟨Lc55, hQ55, l55, y55, z55⟩, st55⟩ := Jvm.LawKit.callS X53 hx (y := y_2) hown (mvT hZ (ww42 hw)) (mvT hZ (ww43 hw)) (mvT hZ (ww3 hw)) (mvT hZ (ww44 hw)) (by decide) hK55 (g := (mkF m 267 ls48 [(.int d3), (.int tt), (.int 0), (.int 3), (.ref b1)])) rfl (by rw [hml, hls48]; rfl) (argsL := [(.ref b1), (.int 3), (.int 0), (.int tt), (.int d3)]) (rest := []) (lenOf pd_5 rfl) rfl (by show 2 * 0 + _ ≤ _; exact Nat.le_of_eq rfl) (hb hby at_267) (fun _ _ => ⟨rfl, e53, (by decide : 3 + 0 ≤ _), (by decide : 16 + 0 ≤ _)⟩)
          dsimp only [Pt.U, Pt.locs, Pt.cells, Pt.slots] at X55 l55 y55 z55 st55 hQ55
          subst l55 y55 z55
          obtain ⟨rfl, N55q, e55⟩ := hQ55
          have N55 := Fr.app N53 N55q
          obtain ⟨lc55, X55, N55⟩ := own_gen X55 N55
          refine step (fun t k => st55 t k) ?_
          show G T55 (mkF m 270 ls48 [(.int (f_h3 w_COMPACT_STRINGS w_SIOOBE_FORMATTER b1 (0 : Int32) tt d3 k1 (123 : Int32) x1 x2 x3 x4 x5))])
          by_cases hc56 : (f_h3 w_COMPACT_STRINGS w_SIOOBE_FORMATTER b1 (0 : Int32) tt d3 k1 (123 : Int32) x1 x2 x3 x4 x5) = (0 : Int32)
          · skip
            refine step (fun t k => XS.ifYes X55.here hx rfl (pc0 := 270) (pc' := 279) rfl (hb hby at_270) rfl ((if0 _ _).trans (teq hc56).1) (by decide) (by decide) k) ?_
            show G T55 (mkF m 279 ls48 [])
            refine step (fun t k => XS.aload X55.here hx rfl (hb hby at_279) (by rw [hls48]; rfl) rfl k) ?_
            show G T55 (mkF m 281 ls48 [(.ref b1)])
            refine step (fun t k => XS.iconst X55.here hx rfl (hb hby at_281) k) ?_
            show G T55 (mkF m 282 ls48 [(.int 4), (.ref b1)])
            refine step (fun t k => XS.iload X55.here hx rfl (hb hby at_282) (by rw [hls48]; rfl) k) ?_
            show G T55 (mkF m 284 ls48 [(.int 0), (.int 4), (.ref b1)])
            refine step (fun t k => XS.iload X55.here hx rfl (hb hby at_284) (by rw [hls48]; rfl) k) ?_
            show G T55 (mkF m 286 ls48 [(.int tt), (.int 0), (.int 4), (.ref b1)])
            refine step (fun t k => XS.iload X55.here hx rfl (hb hby at_286) (by rw [hls48]; rfl) k) ?_
            show G T55 (mkF m 288 ls48 [(.int d4), (.int tt), (.int 0), (.int 4), (.ref b1)])
            have hK57 := (backOf (R := room_1) (p := p) (e := e) (below := below) (s := s) (args := #[(.int p0), (.long q1), (.int p2), (.int p3)]) (len := 3) (W := 0) (rm_h4 l Z a0 hw [] w_COMPACT_STRINGS w_SIOOBE_FORMATTER b1 (0 : Int32) tt d4 k1 (123 : Int32) x1 x2 x3 x4 x5 T24.heap n0 (own_old_le O24) ST O24 f31) hZ (ww44 hw) (ww3 hw) (by decide) (by decide))
            obtain ⟨_, _, ⟨T57, L57, k57, n57⟩, -, X57, ⟨Lc57, hQ57, l57, y57, z57⟩, st57⟩ := Jvm.LawKit.callS X55 hx (y := y_2) hown (mvT hZ (ww42 hw)) (mvT hZ (ww43 hw)) (mvT hZ (ww3 hw)) (mvT hZ (ww44 hw)) (by decide) hK57 (g := (mkF m 288 ls48 [(.int d4), (.int tt), (.int 0), (.int 4), (.ref b1)])) rfl (by rw [hml, hls48]; rfl) (argsL := [(.ref b1), (.int 4), (.int 0), (.int tt), (.int d4)]) (rest := []) (lenOf pd_5 rfl) rfl (by show 2 * 0 + _ ≤ _; exact Nat.le_of_eq rfl) (hb hby at_288) (fun _ _ => ⟨rfl, e55, (by decide : 3 + 0 ≤ _), (by decide : 16 + 0 ≤ _)⟩)
            dsimp only [Pt.U, Pt.locs, Pt.cells, Pt.slots] at X57 l57 y57 z57 st57 hQ57
            subst l57 y57 z57
            obtain ⟨rfl, N57q, e57⟩ := hQ57
            have N57 := Fr.app N55 N57q
            obtain ⟨lc57, X57, N57⟩ := own_gen X57 N57
            refine step (fun t k => st57 t k) ?_
            show G T57 (mkF m 291 ls48 [(.int (f_h4 w_COMPACT_STRINGS w_SIOOBE_FORMATTER b1 (0 : Int32) tt d4 k1 (123 : Int32) x1 x2 x3 x4 x5))])
            by_cases hc58 : (f_h4 w_COMPACT_STRINGS w_SIOOBE_FORMATTER b1 (0 : Int32) tt d4 k1 (123 : Int32) x1 x2 x3 x4 x5) = (0 : Int32)
            · skip
              refine step (fun t k => XS.ifYes X57.here hx rfl (pc0 := 291) (pc' := 300) rfl (hb hby at_291) rfl ((if0 _ _).trans (teq hc58).1) (by decide) (by decide) k) ?_
              show G T57 (mkF m 300 ls48 [])
              refine step (fun t k => XS.aload X57.here hx rfl (hb hby at_300) (by rw [hls48]; rfl) rfl k) ?_
              show G T57 (mkF m 302 ls48 [(.ref b1)])
              refine step (fun t k => XS.iconst X57.here hx rfl (hb hby at_302) k) ?_
              show G T57 (mkF m 303 ls48 [(.int 5), (.ref b1)])
              refine step (fun t k => XS.iload X57.here hx rfl (hb hby at_303) (by rw [hls48]; rfl) k) ?_
              show G T57 (mkF m 305 ls48 [(.int 0), (.int 5), (.ref b1)])
              refine step (fun t k => XS.iload X57.here hx rfl (hb hby at_305) (by rw [hls48]; rfl) k) ?_
              show G T57 (mkF m 307 ls48 [(.int tt), (.int 0), (.int 5), (.ref b1)])
              refine step (fun t k => XS.iload X57.here hx rfl (hb hby at_307) (by rw [hls48]; rfl) k) ?_
              show G T57 (mkF m 309 ls48 [(.int d5), (.int tt), (.int 0), (.int 5), (.ref b1)])
              have hK59 := (backOf (R := room_1) (p := p) (e := e) (below := below) (s := s) (args := #[(.int p0), (.long q1), (.int p2), (.int p3)]) (len := 3) (W := 0) (rm_h5 l Z a0 hw [] w_COMPACT_STRINGS w_SIOOBE_FORMATTER b1 (0 : Int32) tt d5 k1 (123 : Int32) x1 x2 x3 x4 x5 T24.heap n0 (own_old_le O24) ST O24 f31) hZ (ww44 hw) (ww3 hw) (by decide) (by decide))
              obtain ⟨_, _, ⟨T59, L59, k59, n59⟩, -, X59, ⟨Lc59, hQ59, l59, y59, z59⟩, st59⟩ := Jvm.LawKit.callS X57 hx (y := y_2) hown (mvT hZ (ww42 hw)) (mvT hZ (ww43 hw)) (mvT hZ (ww3 hw)) (mvT hZ (ww44 hw)) (by decide) hK59 (g := (mkF m 309 ls48 [(.int d5), (.int tt), (.int 0), (.int 5), (.ref b1)])) rfl (by rw [hml, hls48]; rfl) (argsL := [(.ref b1), (.int 5), (.int 0), (.int tt), (.int d5)]) (rest := []) (lenOf pd_5 rfl) rfl (by show 2 * 0 + _ ≤ _; exact Nat.le_of_eq rfl) (hb hby at_309) (fun _ _ => ⟨rfl, e57, (by decide : 3 + 0 ≤ _), (by decide : 16 + 0 ≤ _)⟩)
              dsimp only [Pt.U, Pt.locs, Pt.cells, Pt.slots] at X59 l59 y59 z59 st59 hQ59
              subst l59 y59 z59
              obtain ⟨rfl, N59q, e59⟩ := hQ59
              have N59 := Fr.app N57 N59q
              obtain ⟨lc59, X59, N59⟩ := own_gen X59 N59
              refine step (fun t k => st59 t k) ?_
              show G T59 (mkF m 312 ls48 [(.int (f_h5 w_COMPACT_STRINGS w_SIOOBE_FORMATTER b1 (0 : Int32) tt d5 k1 (123 : Int32) x1 x2 x3 x4 x5))])
              by_cases hc60 : (f_h5 w_COMPACT_STRINGS w_SIOOBE_FORMATTER b1 (0 : Int32) tt d5 k1 (123 : Int32) x1 x2 x3 x4 x5) = (0 : Int32)
              · skip
                refine step (fun t k => XS.ifYes X59.here hx rfl (pc0 := 312) (pc' := 321) rfl (hb hby at_312) rfl ((if0 _ _).trans (teq hc60).1) (by decide) (by decide) k) ?_
                show G T59 (mkF m 321 ls48 [])
                refine step (fun t k => XS.iload X59.here hx rfl (hb hby at_321) (by rw [hls48]; rfl) k) ?_
                show G T59 (mkF m 323 ls48 [(.int tt)])
                obtain ⟨ls61, hls61⟩  := own_sl #[.val (.int p0), .val (.long q1), .second, .val (.int p2), .val (.int p3), .val (.ref b1), .val (.int 0), .val (.int tt), .val (.ref b22), .val (.int (own_go [(123 : Int32), x1, x2, x3, x4, x5] NN (NN - 0) 0 0)), .val (.int d0), .val (.int d1), .val (.int d2), .val (.int d3), .val (.int d4), .val (.int d5), .val (.int tt)]
                refine step (fun t k => XS.istore X59.here hx rfl (hb hby at_323) rfl (l' := ls61) (by rw [hls48, hls61]; rfl) k) ?_
                show G T59 (mkF m 325 ls61 [])
                refine step (fun t k => XS.iload X59.here hx rfl (hb hby at_325) (by rw [hls61]; rfl) k) ?_
                show G T59 (mkF m 327 ls61 [(.int (own_go [(123 : Int32), x1, x2, x3, x4, x5] NN (NN - 0) 0 0))])
                refine step (fun t k => XS.iload X59.here hx rfl (hb hby at_327) (by rw [hls61]; rfl) k) ?_
                show G T59 (mkF m 329 ls61 [(.int tt), (.int (own_go [(123 : Int32), x1, x2, x3, x4, x5] NN (NN - 0) 0 0))])
                refine step (fun t k => XS.icmpNo X59.here hx rfl (hb hby at_329) rfl (teq ((own_fin0 (123 : Int32) x1 x2 x3 x4 x5 d0 d1 d2 d3 d4 d5 NN hKN hN6 hv0 hv1 hv2 hv3 hv4 hv5).trans (by rw [if_neg (own_hn0 (by decide) hNN hN6 hc50), if_neg (own_hn1 (by decide) hNN hN6 hc52), if_neg (own_hn2 (by decide) hNN hN6 hc54), if_neg (own_hn3 (by decide) hNN hN6 hc56), if_neg (own_hn4 (by decide) hNN hN6 hc58), if_neg (own_hn5 (by decide) hNN hN6 hc60)]; exact hNN.symm))).2 k) ?_
                show G T59 (mkF m 332 ls61 [])
                refine step (fun t k => XS.iconst X59.here hx rfl (hb hby at_332) k) ?_
                show G T59 (mkF m 333 ls61 [(.int 1)])
                refine step (fun t k => XS.goto X59.here hx rfl (pc0 := 333) (pc' := 337) rfl (hb hby at_333) (by decide) (by decide) k) ?_
                show G T59 (mkF m 337 ls61 [(.int 1)])
                exact ret (v := some (.int 1)) X59 (fun h => by rw [Bd.returns] at h; cases h) (fun fs hr => retN X59 hx (t := .boolean) Bd.returns (by simp) (hb hby at_337) hr) e59 ⟨rfl, N59⟩ (by decide) (by decide)
              · skip
                refine step (fun t k => XS.ifNo X59.here hx rfl (hb hby at_312) rfl ((if0 _ _).trans (feq hc60).1) k) ?_
                show G T59 (mkF m 315 ls48 [])
                refine step (fun t k => XS.iconst X59.here hx rfl (hb hby at_315) k) ?_
                show G T59 (mkF m 316 ls48 [(.int 5)])
                obtain ⟨ls62, hls62⟩  := own_sl #[.val (.int p0), .val (.long q1), .second, .val (.int p2), .val (.int p3), .val (.ref b1), .val (.int 0), .val (.int tt), .val (.ref b22), .val (.int (own_go [(123 : Int32), x1, x2, x3, x4, x5] NN (NN - 0) 0 0)), .val (.int d0), .val (.int d1), .val (.int d2), .val (.int d3), .val (.int d4), .val (.int d5), .val (.int 5)]
                refine step (fun t k => XS.istore X59.here hx rfl (hb hby at_316) rfl (l' := ls62) (by rw [hls48, hls62]; rfl) k) ?_
                show G T59 (mkF m 318 ls62 [])
                refine step (fun t k => XS.goto X59.here hx rfl (pc0 := 318) (pc' := 325) rfl (hb hby at_318) (by decide) (by decide) k) ?_
                show G T59 (mkF m 325 ls62 [])
                refine step (fun t k => XS.iload X59.here hx rfl (hb hby at_325) (by rw [hls62]; rfl) k) ?_
                show G T59 (mkF m 327 ls62 [(.int (own_go [(123 : Int32), x1, x2, x3, x4, x5] NN (NN - 0) 0 0))])
                refine step (fun t k => XS.iload X59.here hx rfl (hb hby at_327) (by rw [hls62]; rfl) k) ?_
                show G T59 (mkF m 329 ls62 [(.int 5), (.int (own_go [(123 : Int32), x1, x2, x3, x4, x5] NN (NN - 0) 0 0))])
                refine step (fun t k => XS.icmpNo X59.here hx rfl (hb hby at_329) rfl (teq ((own_fin0 (123 : Int32) x1 x2 x3 x4 x5 d0 d1 d2 d3 d4 d5 NN hKN hN6 hv0 hv1 hv2 hv3 hv4 hv5).trans (by rw [if_neg (own_hn0 (by decide) hNN hN6 hc50), if_neg (own_hn1 (by decide) hNN hN6 hc52), if_neg (own_hn2 (by decide) hNN hN6 hc54), if_neg (own_hn3 (by decide) hNN hN6 hc56), if_neg (own_hn4 (by decide) hNN hN6 hc58), if_pos (own_hy5 (by decide) hNN hN6 hc60)]))).2 k) ?_
                show G T59 (mkF m 332 ls62 [])
                refine step (fun t k => XS.iconst X59.here hx rfl (hb hby at_332) k) ?_
                show G T59 (mkF m 333 ls62 [(.int 1)])
                refine step (fun t k => XS.goto X59.here hx rfl (pc0 := 333) (pc' := 337) rfl (hb hby at_333) (by decide) (by decide) k) ?_
                show G T59 (mkF m 337 ls62 [(.int 1)])
                exact ret (v := some (.int 1)) X59 (fun h => by rw [Bd.returns] at h; cases h) (fun fs hr => retN X59 hx (t := .boolean) Bd.returns (by simp) (hb hby at_337) hr) e59 ⟨rfl, N59⟩ (by decide) (by decide)
            · skip
              refine step (fun t k => XS.ifNo X57.here hx rfl (hb hby at_291) rfl ((if0 _ _).trans (feq hc58).1) k) ?_
              show G T57 (mkF m 294 ls48 [])
              refine step (fun t k => XS.iconst X57.here hx rfl (hb hby at_294) k) ?_
              show G T57 (mkF m 295 ls48 [(.int 4)])
              obtain ⟨ls63, hls63⟩  := own_sl #[.val (.int p0), .val (.long q1), .second, .val (.int p2), .val (.int p3), .val (.ref b1), .val (.int 0), .val (.int tt), .val (.ref b22), .val (.int (own_go [(123 : Int32), x1, x2, x3, x4, x5] NN (NN - 0) 0 0)), .val (.int d0), .val (.int d1), .val (.int d2), .val (.int d3), .val (.int d4), .val (.int d5), .val (.int 4)]
              refine step (fun t k => XS.istore X57.here hx rfl (hb hby at_295) rfl (l' := ls63) (by rw [hls48, hls63]; rfl) k) ?_
              show G T57 (mkF m 297 ls63 [])
              refine step (fun t k => XS.goto X57.here hx rfl (pc0 := 297) (pc' := 325) rfl (hb hby at_297) (by decide) (by decide) k) ?_
              show G T57 (mkF m 325 ls63 [])
              refine step (fun t k => XS.iload X57.here hx rfl (hb hby at_325) (by rw [hls63]; rfl) k) ?_
              show G T57 (mkF m 327 ls63 [(.int (own_go [(123 : Int32), x1, x2, x3, x4, x5] NN (NN - 0) 0 0))])
              refine step (fun t k => XS.iload X57.here hx rfl (hb hby at_327) (by rw [hls63]; rfl) k) ?_
              show G T57 (mkF m 329 ls63 [(.int 4), (.int (own_go [(123 : Int32), x1, x2, x3, x4, x5] NN (NN - 0) 0 0))])
              refine step (fun t k => XS.icmpNo X57.here hx rfl (hb hby at_329) rfl (teq ((own_fin0 (123 : Int32) x1 x2 x3 x4 x5 d0 d1 d2 d3 d4 d5 NN hKN hN6 hv0 hv1 hv2 hv3 hv4 hv5).trans (by rw [if_neg (own_hn0 (by decide) hNN hN6 hc50), if_neg (own_hn1 (by decide) hNN hN6 hc52), if_neg (own_hn2 (by decide) hNN hN6 hc54), if_neg (own_hn3 (by decide) hNN hN6 hc56), if_pos (own_hy4 (by decide) hNN hN6 hc58)]))).2 k) ?_
              show G T57 (mkF m 332 ls63 [])
              refine step (fun t k => XS.iconst X57.here hx rfl (hb hby at_332) k) ?_
              show G T57 (mkF m 333 ls63 [(.int 1)])
              refine step (fun t k => XS.goto X57.here hx rfl (pc0 := 333) (pc' := 337) rfl (hb hby at_333) (by decide) (by decide) k) ?_
              show G T57 (mkF m 337 ls63 [(.int 1)])
              exact ret (v := some (.int 1)) X57 (fun h => by rw [Bd.returns] at h; cases h) (fun fs hr => retN X57 hx (t := .boolean) Bd.returns (by simp) (hb hby at_337) hr) e57 ⟨rfl, N57⟩ (by decide) (by decide)
          · skip
            refine step (fun t k => XS.ifNo X55.here hx rfl (hb hby at_270) rfl ((if0 _ _).trans (feq hc56).1) k) ?_
            show G T55 (mkF m 273 ls48 [])
            refine step (fun t k => XS.iconst X55.here hx rfl (hb hby at_273) k) ?_
            show G T55 (mkF m 274 ls48 [(.int 3)])
            obtain ⟨ls64, hls64⟩  := own_sl #[.val (.int p0), .val (.long q1), .second, .val (.int p2), .val (.int p3), .val (.ref b1), .val (.int 0), .val (.int tt), .val (.ref b22), .val (.int (own_go [(123 : Int32), x1, x2, x3, x4, x5] NN (NN - 0) 0 0)), .val (.int d0), .val (.int d1), .val (.int d2), .val (.int d3), .val (.int d4), .val (.int d5), .val (.int 3)]
            refine step (fun t k => XS.istore X55.here hx rfl (hb hby at_274) rfl (l' := ls64) (by rw [hls48, hls64]; rfl) k) ?_
            show G T55 (mkF m 276 ls64 [])
            refine step (fun t k => XS.goto X55.here hx rfl (pc0 := 276) (pc' := 325) rfl (hb hby at_276) (by decide) (by decide) k) ?_
            show G T55 (mkF m 325 ls64 [])
            refine step (fun t k => XS.iload X55.here hx rfl (hb hby at_325) (by rw [hls64]; rfl) k) ?_
            show G T55 (mkF m 327 ls64 [(.int (own_go [(123 : Int32), x1, x2, x3, x4, x5] NN (NN - 0) 0 0))])
            refine step (fun t k => XS.iload X55.here hx rfl (hb hby at_327) (by rw [hls64]; rfl) k) ?_
            show G T55 (mkF m 329 ls64 [(.int 3), (.int (own_go [(123 : Int32), x1, x2, x3, x4, x5] NN (NN - 0) 0 0))])
            refine step (fun t k => XS.icmpNo X55.here hx rfl (hb hby at_329) rfl (teq ((own_fin0 (123 : Int32) x1 x2 x3 x4 x5 d0 d1 d2 d3 d4 d5 NN hKN hN6 hv0 hv1 hv2 hv3 hv4 hv5).trans (by rw [if_neg (own_hn0 (by decide) hNN hN6 hc50), if_neg (own_hn1 (by decide) hNN hN6 hc52), if_neg (own_hn2 (by decide) hNN hN6 hc54), if_pos (own_hy3 (by decide) hNN hN6 hc56)]))).2 k) ?_
            show G T55 (mkF m 332 ls64 [])
            refine step (fun t k => XS.iconst X55.here hx rfl (hb hby at_332) k) ?_
            show G T55 (mkF m 333 ls64 [(.int 1)])
            refine step (fun t k => XS.goto X55.here hx rfl (pc0 := 333) (pc' := 337) rfl (hb hby at_333) (by decide) (by decide) k) ?_
            show G T55 (mkF m 337 ls64 [(.int 1)])
            exact ret (v := some (.int 1)) X55 (fun h => by rw [Bd.returns] at h; cases h) (fun fs hr => retN X55 hx (t := .boolean) Bd.returns (by simp) (hb hby at_337) hr) e55 ⟨rfl, N55⟩ (by decide) (by decide)
        · skip
          refine step (fun t k => XS.ifNo X53.here hx rfl (hb hby at_249) rfl ((if0 _ _).trans (feq hc54).1) k) ?_
          show G T53 (mkF m 252 ls48 [])
          refine step (fun t k => XS.iconst X53.here hx rfl (hb hby at_252) k) ?_
          show G T53 (mkF m 253 ls48 [(.int 2)])
          obtain ⟨ls65, hls65⟩  := own_sl #[.val (.int p0), .val (.long q1), .second, .val (.int p2), .val (.int p3), .val (.ref b1), .val (.int 0), .val (.int tt), .val (.ref b22), .val (.int (own_go [(123 : Int32), x1, x2, x3, x4, x5] NN (NN - 0) 0 0)), .val (.int d0), .val (.int d1), .val (.int d2), .val (.int d3), .val (.int d4), .val (.int d5), .val (.int 2)]
          refine step (fun t k => XS.istore X53.here hx rfl (hb hby at_253) rfl (l' := ls65) (by rw [hls48, hls65]; rfl) k) ?_
          show G T53 (mkF m 255 ls65 [])
          refine step (fun t k => XS.goto X53.here hx rfl (pc0 := 255) (pc' := 325) rfl (hb hby at_255) (by decide) (by decide) k) ?_
          show G T53 (mkF m 325 ls65 [])
          refine step (fun t k => XS.iload X53.here hx rfl (hb hby at_325) (by rw [hls65]; rfl) k) ?_
          show G T53 (mkF m 327 ls65 [(.int (own_go [(123 : Int32), x1, x2, x3, x4, x5] NN (NN - 0) 0 0))])
          refine step (fun t k => XS.iload X53.here hx rfl (hb hby at_327) (by rw [hls65]; rfl) k) ?_
          show G T53 (mkF m 329 ls65 [(.int 2), (.int (own_go [(123 : Int32), x1, x2, x3, x4, x5] NN (NN - 0) 0 0))])
          refine step (fun t k => XS.icmpNo X53.here hx rfl (hb hby at_329) rfl (teq ((own_fin0 (123 : Int32) x1 x2 x3 x4 x5 d0 d1 d2 d3 d4 d5 NN hKN hN6 hv0 hv1 hv2 hv3 hv4 hv5).trans (by rw [if_neg (own_hn0 (by decide) hNN hN6 hc50), if_neg (own_hn1 (by decide) hNN hN6 hc52), if_pos (own_hy2 (by decide) hNN hN6 hc54)]))).2 k) ?_
          show G T53 (mkF m 332 ls65 [])
          refine step (fun t k => XS.iconst X53.here hx rfl (hb hby at_332) k) ?_
          show G T53 (mkF m 333 ls65 [(.int 1)])
          refine step (fun t k => XS.goto X53.here hx rfl (pc0 := 333) (pc' := 337) rfl (hb hby at_333) (by decide) (by decide) k) ?_
          show G T53 (mkF m 337 ls65 [(.int 1)])
          exact ret (v := some (.int 1)) X53 (fun h => by rw [Bd.returns] at h; cases h) (fun fs hr => retN X53 hx (t := .boolean) Bd.returns (by simp) (hb hby at_337) hr) e53 ⟨rfl, N53⟩ (by decide) (by decide)
      · skip
        refine step (fun t k => XS.ifNo X51.here hx rfl (hb hby at_228) rfl ((if0 _ _).trans (feq hc52).1) k) ?_
        show G T51 (mkF m 231 ls48 [])
        refine step (fun t k => XS.iconst X51.here hx rfl (hb hby at_231) k) ?_
        show G T51 (mkF m 232 ls48 [(.int 1)])
        obtain ⟨ls66, hls66⟩  := own_sl #[.val (.int p0), .val (.long q1), .second, .val (.int p2), .val (.int p3), .val (.ref b1), .val (.int 0), .val (.int tt), .val (.ref b22), .val (.int (own_go [(123 : Int32), x1, x2, x3, x4, x5] NN (NN - 0) 0 0)), .val (.int d0), .val (.int d1), .val (.int d2), .val (.int d3), .val (.int d4), .val (.int d5), .val (.int 1)]
        refine step (fun t k => XS.istore X51.here hx rfl (hb hby at_232) rfl (l' := ls66) (by rw [hls48, hls66]; rfl) k) ?_
        show G T51 (mkF m 234 ls66 [])
        refine step (fun t k => XS.goto X51.here hx rfl (pc0 := 234) (pc' := 325) rfl (hb hby at_234) (by decide) (by decide) k) ?_
        show G T51 (mkF m 325 ls66 [])
        refine step (fun t k => XS.iload X51.here hx rfl (hb hby at_325) (by rw [hls66]; rfl) k) ?_
        show G T51 (mkF m 327 ls66 [(.int (own_go [(123 : Int32), x1, x2, x3, x4, x5] NN (NN - 0) 0 0))])
        refine step (fun t k => XS.iload X51.here hx rfl (hb hby at_327) (by rw [hls66]; rfl) k) ?_
        show G T51 (mkF m 329 ls66 [(.int 1), (.int (own_go [(123 : Int32), x1, x2, x3, x4, x5] NN (NN - 0) 0 0))])
        refine step (fun t k => XS.icmpNo X51.here hx rfl (hb hby at_329) rfl (teq ((own_fin0 (123 : Int32) x1 x2 x3 x4 x5 d0 d1 d2 d3 d4 d5 NN hKN hN6 hv0 hv1 hv2 hv3 hv4 hv5).trans (by rw [if_neg (own_hn0 (by decide) hNN hN6 hc50), if_pos (own_hy1 (by decide) hNN hN6 hc52)]))).2 k) ?_
        show G T51 (mkF m 332 ls66 [])
        refine step (fun t k => XS.iconst X51.here hx rfl (hb hby at_332) k) ?_
        show G T51 (mkF m 333 ls66 [(.int 1)])
        refine step (fun t k => XS.goto X51.here hx rfl (pc0 := 333) (pc' := 337) rfl (hb hby at_333) (by decide) (by decide) k) ?_
        show G T51 (mkF m 337 ls66 [(.int 1)])
        exact ret (v := some (.int 1)) X51 (fun h => by rw [Bd.returns] at h; cases h) (fun fs hr => retN X51 hx (t := .boolean) Bd.returns (by simp) (hb hby at_337) hr) e51 ⟨rfl, N51⟩ (by decide) (by decide)
    · skip
      refine step (fun t k => XS.ifNo X49.here hx rfl (hb hby at_207) rfl ((if0 _ _).trans (feq hc50).1) k) ?_
      show G T49 (mkF m 210 ls48 [])
      refine step (fun t k => XS.iconst X49.here hx rfl (hb hby at_210) k) ?_
      show G T49 (mkF m 211 ls48 [(.int 0)])
      obtain ⟨ls67, hls67⟩  := own_sl #[.val (.int p0), .val (.long q1), .second, .val (.int p2), .val (.int p3), .val (.ref b1), .val (.int 0), .val (.int tt), .val (.ref b22), .val (.int (own_go [(123 : Int32), x1, x2, x3, x4, x5] NN (NN - 0) 0 0)), .val (.int d0), .val (.int d1), .val (.int d2), .val (.int d3), .val (.int d4), .val (.int d5), .val (.int 0)]
      refine step (fun t k => XS.istore X49.here hx rfl (hb hby at_211) rfl (l' := ls67) (by rw [hls48, hls67]; rfl) k) ?_
      show G T49 (mkF m 213 ls67 [])
      refine step (fun t k => XS.goto X49.here hx rfl (pc0 := 213) (pc' := 325) rfl (hb hby at_213) (by decide) (by decide) k) ?_
      show G T49 (mkF m 325 ls67 [])
      refine step (fun t k => XS.iload X49.here hx rfl (hb hby at_325) (by rw [hls67]; rfl) k) ?_
      show G T49 (mkF m 327 ls67 [(.int (own_go [(123 : Int32), x1, x2, x3, x4, x5] NN (NN - 0) 0 0))])
      refine step (fun t k => XS.iload X49.here hx rfl (hb hby at_327) (by rw [hls67]; rfl) k) ?_
      show G T49 (mkF m 329 ls67 [(.int 0), (.int (own_go [(123 : Int32), x1, x2, x3, x4, x5] NN (NN - 0) 0 0))])
      refine step (fun t k => XS.icmpNo X49.here hx rfl (hb hby at_329) rfl (teq ((own_fin0 (123 : Int32) x1 x2 x3 x4 x5 d0 d1 d2 d3 d4 d5 NN hKN hN6 hv0 hv1 hv2 hv3 hv4 hv5).trans (by rw [if_pos (own_hy0 (by decide) hNN hN6 hc50)]))).2 k) ?_
      show G T49 (mkF m 332 ls67 [])
      refine step (fun t k => XS.iconst X49.here hx rfl (hb hby at_332) k) ?_
      show G T49 (mkF m 333 ls67 [(.int 1)])
      refine step (fun t k => XS.goto X49.here hx rfl (pc0 := 333) (pc' := 337) rfl (hb hby at_333) (by decide) (by decide) k) ?_
      show G T49 (mkF m 337 ls67 [(.int 1)])
      exact ret (v := some (.int 1)) X49 (fun h => by rw [Bd.returns] at h; cases h) (fun fs hr => retN X49 hx (t := .boolean) Bd.returns (by simp) (hb hby at_337) hr) e49 ⟨rfl, N49⟩ (by decide) (by decide)
  · skip
    obtain ⟨ls68, hls68⟩  := own_sl #[.val (.int p0), .val (.long q1), .second, .val (.int p2), .val (.int p3), .val (.ref b1), .val (.int 1), .unset, .unset, .unset, .unset, .unset, .unset, .unset, .unset, .unset, .unset]
    rw [show ls16 = ls68 from by rw [hls16, hls68, hO]]
    show G T14 (mkF m 75 ls68 [])
    refine step (fun t k => XS.iload X14.here hx rfl (hb hby at_75) (by rw [hls68]; rfl) k) ?_
    show G T14 (mkF m 77 ls68 [(.int 1)])
    refine step (fun t k => XS.iload X14.here hx rfl (hb hby at_77) (by rw [hls68]; rfl) k) ?_
    show G T14 (mkF m 79 ls68 [(.int p3), (.int 1)])
    have q69 := X14.ldcInt hx hown (mvT hZ (ww5 hw)) (g := (mkF m 79 ls68 [(.int p3), (.int 1)])) rfl (hb hby at_79)
    refine step q69 ?_
    show G T14 (mkF m 81 ls68 [(.int 2147483647), (.int p3), (.int 1)])
    refine step (fun t k => XS.iand X14.here hx rfl (hb hby at_81) rfl k) ?_
    show G T14 (mkF m 82 ls68 [(.int (p3 &&& (2147483647 : Int32))), (.int 1)])
    refine step (fun t k => XS.bipush X14.here hx rfl (hb hby at_82) k) ?_
    show G T14 (mkF m 84 ls68 [(.int 7), (.int (p3 &&& (2147483647 : Int32))), (.int 1)])
    refine step (fun t k => XS.iload X14.here hx rfl (hb hby at_84) (by rw [hls68]; rfl) k) ?_
    show G T14 (mkF m 86 ls68 [(.int 1), (.int 7), (.int (p3 &&& (2147483647 : Int32))), (.int 1)])
    refine step (fun t k => XS.isub X14.here hx rfl (hb hby at_86) rfl k) ?_
    show G T14 (mkF m 87 ls68 [(.int ((7 : Int32) - (1 : Int32))), (.int (p3 &&& (2147483647 : Int32))), (.int 1)])
    rw [(by decide : ((7 : Int32) - (1 : Int32)) = (6 : Int32))]
    show G T14 (mkF m 87 ls68 [(.int 6), (.int (p3 &&& (2147483647 : Int32))), (.int 1)])
    refine step (fun t k => iremM X14 hx rfl (hb hby at_87) rfl (by decide) k) ?_
    show G T14 (mkF m 88 ls68 [(.int ((p3 &&& (2147483647 : Int32)) % (6 : Int32))), (.int 1)])
    refine step (fun t k => XS.iadd X14.here hx rfl (hb hby at_88) rfl k) ?_
    show G T14 (mkF m 89 ls68 [(.int ((1 : Int32) + ((p3 &&& (2147483647 : Int32)) % (6 : Int32))))])
    obtain ⟨ls70, hls70⟩  := own_sl #[.val (.int p0), .val (.long q1), .second, .val (.int p2), .val (.int p3), .val (.ref b1), .val (.int 1), .val (.int ((1 : Int32) + ((p3 &&& (2147483647 : Int32)) % (6 : Int32)))), .unset, .unset, .unset, .unset, .unset, .unset, .unset, .unset, .unset]
    refine step (fun t k => XS.istore X14.here hx rfl (hb hby at_89) rfl (l' := ls70) (by rw [hls68, hls70]; rfl) k) ?_
    show G T14 (mkF m 91 ls70 [])
    obtain ⟨tt, htt⟩ : ∃ z : Int32, z = ((1 : Int32) + ((p3 &&& (2147483647 : Int32)) % (6 : Int32))) := ⟨_, rfl⟩
    obtain ⟨ls71, hls71⟩  := own_sl #[.val (.int p0), .val (.long q1), .second, .val (.int p2), .val (.int p3), .val (.ref b1), .val (.int 1), .val (.int tt), .unset, .unset, .unset, .unset, .unset, .unset, .unset, .unset, .unset]
    rw [show ls70 = ls71 from by rw [hls70, hls71, htt]]
    show G T14 (mkF m 91 ls71 [])
    obtain ⟨NN, hNN, hKN, hN6⟩ := own_to1 p3 tt htt
    refine step (fun t k => XS.aload X14.here hx rfl (hb hby at_91) (by rw [hls71]; rfl) rfl k) ?_
    show G T14 (mkF m 93 ls71 [(.ref b1)])
    refine step (fun t k => XS.iload X14.here hx rfl (hb hby at_93) (by rw [hls71]; rfl) k) ?_
    show G T14 (mkF m 95 ls71 [(.int 1), (.ref b1)])
    refine step (fun t k => XS.bipush X14.here hx rfl (hb hby at_95) k) ?_
    show G T14 (mkF m 97 ls71 [(.int 123), (.int 1), (.ref b1)])
    obtain ⟨T72, h72, X72, e72, W72, V72, st72⟩ := own_stC X14 hx hZ e14 V14 (j := (1 : Int32)) (by decide) (i := 1) rfl (by show 1 < 6; decide) (g := (mkF m 97 ls71 [(.int 123), (.int 1), (.ref b1)])) rfl rfl (hb hby at_97)
    replace V72 : Arv Z h72 b1 k1 .char (6 : Int32) [(.int x0), (.int 123), (.int x2), (.int x3), (.int x4), (.int x5)] (.int 0) := by rw [own_narc (by decide : ¬ (123 : Int32) < 0 ∧ ¬ (255 : Int32) < (123 : Int32))] at V72; exact V72
    have N72 := Fr.snoc X72 N14 ge_b1
    obtain ⟨lc72, X72, N72⟩ := own_gen X72 N72
    have O72 := O14.wr W72 ge_b1
    refine step st72 ?_
    show G T72 (mkF m 98 ls71 [])
    have f74 := (Exa.wr W72 (Exa.wr W14 (Exa.wr W12 (Exa.wr W10 (Exa.wr W8 (Exa.wr W6 (Exa.wr W4 B1)))))))
    obtain ⟨T73, h73, X73, e73, E73, A73, D73, -, st73⟩ := newO X72 hx hZ hown (ww6 hw) (ww7 hw) (ww8 hw) e72 (g := (mkF m 98 ls71 [])) rfl (hb hby at_98) (by decide) (by decide)
    obtain ⟨b73, g73⟩ : ∃ z, z = h72.size := ⟨_, rfl⟩
    rw [← g73] at A73 D73 st73
    have ge_b73 : n0 ≤ b73 := Nat.le_trans (own_old_le O72) (Nat.le_of_eq g73.symm)
    have lt_b1_b73 : b1 < b73 := Nat.lt_of_lt_of_le f74.lt (Nat.le_of_eq g73.symm)
    have O73 := O72.ext E73
    have F73_coder : Fld Z h73 b73 cn_1 "coder" "B" (.int 0) := D73 (Or.inr (ww32 hw)) (ty := .byte) (by decide)
    have F73_value : Fld Z h73 b73 cn_1 "value" "[B" .null := D73 (Or.inr (ww34 hw)) (ty := (.array .byte)) (by decide)
    refine step st73 ?_
    show G T73 (mkF m 101 ls71 [(.ref b73)])
    refine step (fun t k => XS.dup X73.here hx rfl (hb hby at_101) rfl rfl k) ?_
    show G T73 (mkF m 102 ls71 [(.ref b73), (.ref b73)])
    refine step (fun t k => XS.aload X73.here hx rfl (hb hby at_102) (by rw [hls71]; rfl) rfl k) ?_
    show G T73 (mkF m 104 ls71 [(.ref b1), (.ref b73), (.ref b73)])
    have f76 := (V72.ext E73)
    have f77 := (Exa.ext E73 f74)
    have hK75 := (StrChars.Road.backV (l := l) (R := room_1) (p := p) (e := e) (below := below) (s := s) (args := #[(.int p0), (.long q1), (.int p2), (.int p3)]) (len := 3) (W := 1) hZ (own_hwV hw) (kI := 4) (ww7 hw) (cs := [x0, (123 : Int32), x2, x3, x4, x5]) (bs := [(x0.toInt8.toInt32), ((123 : Int32).toInt8.toInt32), (x2.toInt8.toInt32), (x3.toInt8.toInt32), (x4.toInt8.toInt32), (x5.toInt8.toInt32)]) (n := 6) ge_b73 (own_old_le O73) A73 F73_value F73_coder f76 (Sta.ext O73.2 ST.k0) ST.k3 rfl rfl (by decide) (by decide) (List.forall_mem_cons.mpr ⟨lx0, (List.forall_mem_cons.mpr ⟨(by decide : ¬ (123 : Int32) < 0 ∧ ¬ (255 : Int32) < (123 : Int32)), (List.forall_mem_cons.mpr ⟨lx2, (List.forall_mem_cons.mpr ⟨lx3, (List.forall_mem_cons.mpr ⟨lx4, (List.forall_mem_cons.mpr ⟨lx5, (fun _ h => nomatch h)⟩)⟩)⟩)⟩)⟩)⟩) rfl (by decide) (by decide))
    obtain ⟨_, _, ⟨T75, L75, k75, n75⟩, -, X75, ⟨Lc75, hQ75, l75, y75, z75⟩, st75⟩ := X73.specialBack hx (y := y_5) rfl hown (mvT hZ (ww9 hw)) (mvT hZ (ww10 hw)) (mvT hZ (ww11 hw)) (by decide) hK75 (g := (mkF m 104 ls71 [(.ref b1), (.ref b73), (.ref b73)])) rfl (by rw [hml, hls71]; rfl) (Steps.refl _) (a := b73) (argsL := [(.ref b1)]) (rest := [(.ref b73)]) (lenOf pd_2 rfl) rfl (by show 2 * 0 + _ ≤ _; exact Nat.le_of_eq rfl) (hb hby at_104) (fun _ _ => ⟨rfl, e73, (by decide : 2 + 1 ≤ _), (by decide : 10 + 6 ≤ _)⟩)
    dsimp only [Pt.U, Pt.locs, Pt.cells, Pt.slots] at X75 l75 y75 z75 st75 hQ75
    subst l75 y75 z75
    obtain ⟨rfl, N75q, K75q, Es75, Cs75, b75, kb75, gt75, gh75, -, Fv75, Vb75⟩ := hQ75
    have N75 := Fr.app N72 N75q
    obtain ⟨lc75, X75, N75⟩ := own_gen X75 N75
    replace Vb75 : Arv Z T75.heap b75 kb75 .byte (6 : Int32) [(.int (x0.toInt8.toInt32)), (.int ((123 : Int32).toInt8.toInt32)), (.int (x2.toInt8.toInt32)), (.int (x3.toInt8.toInt32)), (.int (x4.toInt8.toInt32)), (.int (x5.toInt8.toInt32))] (.int 0) := Vb75
    have lt_b1_b75 : b1 < b75 := Nat.lt_of_lt_of_le f77.lt gh75
    have lt_b73_b75 : b73 < b75 := Nat.lt_of_lt_of_le A73.lt gh75
    have O75 := O73.keep K75q (allS ge_b73 all0)
    refine step (fun t k => st75.trans k) ?_
    show G T75 (mkF m 107 ls71 [(.ref b73)])
    obtain ⟨ls78, hls78⟩  := own_sl #[.val (.int p0), .val (.long q1), .second, .val (.int p2), .val (.int p3), .val (.ref b1), .val (.int 1), .val (.int tt), .val (.ref b73), .unset, .unset, .unset, .unset, .unset, .unset, .unset, .unset]
    refine step (fun t k => XS.astore X75.here hx rfl (hb hby at_107) rfl rfl (l' := ls78) (by rw [hls71, hls78]; rfl) k) ?_
    show G T75 (mkF m 109 ls78 [])
    refine step (fun t k => XS.aload X75.here hx rfl (hb hby at_109) (by rw [hls78]; rfl) rfl k) ?_
    show G T75 (mkF m 111 ls78 [(.ref b73)])
    refine step (fun t k => XS.iload X75.here hx rfl (hb hby at_111) (by rw [hls78]; rfl) k) ?_
    show G T75 (mkF m 113 ls78 [(.int 1), (.ref b73)])
    refine step (fun t k => XS.iload X75.here hx rfl (hb hby at_113) (by rw [hls78]; rfl) k) ?_
    show G T75 (mkF m 115 ls78 [(.int tt), (.int 1), (.ref b73)])
    have hK79 := (backOf (R := room_1) (p := p) (e := e) (below := below) (s := s) (args := #[(.int p0), (.long q1), (.int p2), (.int p3)]) (len := 3) (W := 0) (rm_clo l Z a0 hw [] w_COMPACT_STRINGS w_SIOOBE_FORMATTER b73 (1 : Int32) tt x0 (123 : Int32) x2 x3 x4 x5 b75 kb75 1 NN T75.heap n0 (own_old_le O75) ST O75 lx0 (by decide : ¬ (123 : Int32) < 0 ∧ ¬ (255 : Int32) < (123 : Int32)) lx2 lx3 lx4 lx5 Es75 Fv75 Cs75 Vb75 rfl hNN hKN hN6) hZ (ww38 hw) (ww37 hw) (by decide) (by decide))
    obtain ⟨_, _, ⟨T79, L79, k79, n79⟩, -, X79, ⟨Lc79, hQ79, l79, y79, z79⟩, st79⟩ := Jvm.LawKit.callS X75 hx (y := y_4) hown (mvT hZ (ww35 hw)) (mvT hZ (ww36 hw)) (mvT hZ (ww37 hw)) (mvT hZ (ww38 hw)) (by decide) hK79 (g := (mkF m 115 ls78 [(.int tt), (.int 1), (.ref b73)])) rfl (by rw [hml, hls78]; rfl) (argsL := [(.ref b73), (.int 1), (.int tt)]) (rest := []) (lenOf pd_3 rfl) rfl (by show 2 * 0 + _ ≤ _; exact Nat.le_of_eq rfl) (hb hby at_115) (fun _ _ => ⟨rfl, rfl, (by decide : 3 + 0 ≤ _), (by decide : 16 + 0 ≤ _)⟩)
    dsimp only [Pt.U, Pt.locs, Pt.cells, Pt.slots] at X79 l79 y79 z79 st79 hQ79
    subst l79 y79 z79
    obtain ⟨rfl, N79q, e79⟩ := hQ79
    have N79 := Fr.app N75 N79q
    refine step (fun t k => st79 t k) ?_
    show G T79 (mkF m 118 ls78 [(.int (own_go [x0, (123 : Int32), x2, x3, x4, x5] NN (NN - 1) 1 0))])
    obtain ⟨ls80, hls80⟩  := own_sl #[.val (.int p0), .val (.long q1), .second, .val (.int p2), .val (.int p3), .val (.ref b1), .val (.int 1), .val (.int tt), .val (.ref b73), .val (.int (own_go [x0, (123 : Int32), x2, x3, x4, x5] NN (NN - 1) 1 0)), .unset, .unset, .unset, .unset, .unset, .unset, .unset]
    refine step (fun t k => XS.istore X79.here hx rfl (hb hby at_118) rfl (l' := ls80) (by rw [hls78, hls80]; rfl) k) ?_
    show G T79 (mkF m 120 ls80 [])
    refine step (fun t k => XS.aload X79.here hx rfl (hb hby at_120) (by rw [hls80]; rfl) rfl k) ?_
    show G T79 (mkF m 122 ls80 [(.ref b1)])
    refine step (fun t k => XS.iconst X79.here hx rfl (hb hby at_122) k) ?_
    show G T79 (mkF m 123 ls80 [(.int 0), (.ref b1)])
    refine step (fun t k => XS.iload X79.here hx rfl (hb hby at_123) (by rw [hls80]; rfl) k) ?_
    show G T79 (mkF m 125 ls80 [(.int 1), (.int 0), (.ref b1)])
    have f82 := (Arv.keep f76 K75q (ninS (Nat.ne_of_lt lt_b1_b73) nin0))
    have hK81 := (backOf (R := room_1) (p := p) (e := e) (below := below) (s := s) (args := #[(.int p0), (.long q1), (.int p2), (.int p3)]) (len := 3) (W := 0) (rm_v0 l Z a0 hw [] w_COMPACT_STRINGS w_SIOOBE_FORMATTER b1 (1 : Int32) k1 x0 (123 : Int32) x2 x3 x4 x5 T75.heap n0 (own_old_le O75) ST O75 f82) hZ (ww41 hw) (ww3 hw) (by decide) (by decide))
    obtain ⟨_, _, ⟨T81, L81, k81, n81⟩, -, X81, ⟨Lc81, hQ81, l81, y81, z81⟩, st81⟩ := Jvm.LawKit.callS X79 hx (y := y_1) hown (mvT hZ (ww39 hw)) (mvT hZ (ww40 hw)) (mvT hZ (ww3 hw)) (mvT hZ (ww41 hw)) (by decide) hK81 (g := (mkF m 125 ls80 [(.int 1), (.int 0), (.ref b1)])) rfl (by rw [hml, hls80]; rfl) (argsL := [(.ref b1), (.int 0), (.int 1)]) (rest := []) (lenOf pd_4 rfl) rfl (by show 2 * 0 + _ ≤ _; exact Nat.le_of_eq rfl) (hb hby at_125) (fun _ _ => ⟨rfl, e79, (by decide : 3 + 0 ≤ _), (by decide : 16 + 0 ≤ _)⟩)
    dsimp only [Pt.U, Pt.locs, Pt.cells, Pt.slots] at X81 l81 y81 z81 st81 hQ81
    subst l81 y81 z81
    obtain ⟨rfl, N81q, e81⟩ := hQ81
    have N81 := Fr.app N79 N81q
    obtain ⟨lc81, X81, N81⟩ := own_gen X81 N81
    refine step (fun t k => st81 t k) ?_
    show G T81 (mkF m 128 ls80 [(.int (f_v0 w_COMPACT_STRINGS w_SIOOBE_FORMATTER b1 (1 : Int32) k1 x0 (123 : Int32) x2 x3 x4 x5))])
    obtain ⟨ls83, hls83⟩  := own_sl #[.val (.int p0), .val (.long q1), .second, .val (.int p2), .val (.int p3), .val (.ref b1), .val (.int 1), .val (.int tt), .val (.ref b73), .val (.int (own_go [x0, (123 : Int32), x2, x3, x4, x5] NN (NN - 1) 1 0)), .val (.int (f_v0 w_COMPACT_STRINGS w_SIOOBE_FORMATTER b1 (1 : Int32) k1 x0 (123 : Int32) x2 x3 x4 x5)), .unset, .unset, .unset, .unset, .unset, .unset]
    refine step (fun t k => XS.istore X81.here hx rfl (hb hby at_128) rfl (l' := ls83) (by rw [hls80, hls83]; rfl) k) ?_
    show G T81 (mkF m 130 ls83 [])
    obtain ⟨d0, hd0⟩ : ∃ z : Int32, z = (f_v0 w_COMPACT_STRINGS w_SIOOBE_FORMATTER b1 (1 : Int32) k1 x0 (123 : Int32) x2 x3 x4 x5) := ⟨_, rfl⟩
    obtain ⟨ls84, hls84⟩  := own_sl #[.val (.int p0), .val (.long q1), .second, .val (.int p2), .val (.int p3), .val (.ref b1), .val (.int 1), .val (.int tt), .val (.ref b73), .val (.int (own_go [x0, (123 : Int32), x2, x3, x4, x5] NN (NN - 1) 1 0)), .val (.int d0), .unset, .unset, .unset, .unset, .unset, .unset]
    rw [show ls83 = ls84 from by rw [hls83, hls84, hd0]]
    show G T81 (mkF m 130 ls84 [])
    have hv0 : d0 = 0 := by rw [hd0]; unfold f_v0; rw [if_pos (by decide)]
    refine step (fun t k => XS.iload X81.here hx rfl (hb hby at_130) (by rw [hls84]; rfl) k) ?_
    show G T81 (mkF m 132 ls84 [(.int d0)])
    refine step (fun t k => XS.aload X81.here hx rfl (hb hby at_132) (by rw [hls84]; rfl) rfl k) ?_
    show G T81 (mkF m 134 ls84 [(.ref b1), (.int d0)])
    refine step (fun t k => XS.iconst X81.here hx rfl (hb hby at_134) k) ?_
    show G T81 (mkF m 135 ls84 [(.int 1), (.ref b1), (.int d0)])
    refine step (fun t k => XS.iload X81.here hx rfl (hb hby at_135) (by rw [hls84]; rfl) k) ?_
    show G T81 (mkF m 137 ls84 [(.int 1), (.int 1), (.ref b1), (.int d0)])
    have hK85 := (backOf (R := room_1) (p := p) (e := e) (below := below) (s := s) (args := #[(.int p0), (.long q1), (.int p2), (.int p3)]) (len := 3) (W := 1) (rm_v1 l Z a0 hw [] w_COMPACT_STRINGS w_SIOOBE_FORMATTER b1 (1 : Int32) k1 x0 (123 : Int32) x2 x3 x4 x5 T75.heap n0 (own_old_le O75) ST O75 f82) hZ (ww41 hw) (ww3 hw) (by decide) (by decide))
    obtain ⟨_, _, ⟨T85, L85, k85, n85⟩, -, X85, ⟨Lc85, hQ85, l85, y85, z85⟩, st85⟩ := Jvm.LawKit.callS X81 hx (y := y_1) hown (mvT hZ (ww39 hw)) (mvT hZ (ww40 hw)) (mvT hZ (ww3 hw)) (mvT hZ (ww41 hw)) (by decide) hK85 (g := (mkF m 137 ls84 [(.int 1), (.int 1), (.ref b1), (.int d0)])) rfl (by rw [hml, hls84]; rfl) (argsL := [(.ref b1), (.int 1), (.int 1)]) (rest := [(.int d0)]) (lenOf pd_4 rfl) rfl (by show 2 * 0 + _ ≤ _; exact Nat.le_of_eq rfl) (hb hby at_137) (fun _ _ => ⟨rfl, e81, (by decide : 3 + 0 ≤ _), (by decide : 16 + 0 ≤ _)⟩)
    dsimp only [Pt.U, Pt.locs, Pt.cells, Pt.slots] at X85 l85 y85 z85 st85 hQ85
    subst l85 y85 z85
    obtain ⟨rfl, N85q, e85⟩ := hQ85
    have N85 := Fr.app N81 N85q
    obtain ⟨lc85, X85, N85⟩ := own_gen X85 N85
    refine step (fun t k => st85 t k) ?_
    show G T85 (mkF m 140 ls84 [(.int (f_v1 w_COMPACT_STRINGS w_SIOOBE_FORMATTER b1 (1 : Int32) k1 x0 (123 : Int32) x2 x3 x4 x5)), (.int d0)])
    refine step (fun t k => XS.iadd X85.here hx rfl (hb hby at_140) rfl k) ?_
    show G T85 (mkF m 141 ls84 [(.int (d0 + (f_v1 w_COMPACT_STRINGS w_SIOOBE_FORMATTER b1 (1 : Int32) k1 x0 (123 : Int32) x2 x3 x4 x5)))])
    obtain ⟨ls86, hls86⟩  := own_sl #[.val (.int p0), .val (.long q1), .second, .val (.int p2), .val (.int p3), .val (.ref b1), .val (.int 1), .val (.int tt), .val (.ref b73), .val (.int (own_go [x0, (123 : Int32), x2, x3, x4, x5] NN (NN - 1) 1 0)), .val (.int d0), .val (.int (d0 + (f_v1 w_COMPACT_STRINGS w_SIOOBE_FORMATTER b1 (1 : Int32) k1 x0 (123 : Int32) x2 x3 x4 x5))), .unset, .unset, .unset, .unset, .unset]
    refine step (fun t k => XS.istore X85.here hx rfl (hb hby at_141) rfl (l' := ls86) (by rw [hls84, hls86]; rfl) k) ?_
    show G T85 (mkF m 143 ls86 [])
    obtain ⟨d1, hd1⟩ : ∃ z : Int32, z = (d0 + (f_v1 w_COMPACT_STRINGS w_SIOOBE_FORMATTER b1 (1 : Int32) k1 x0 (123 : Int32) x2 x3 x4 x5)) := ⟨_, rfl⟩
    obtain ⟨ls87, hls87⟩  := own_sl #[.val (.int p0), .val (.long q1), .second, .val (.int p2), .val (.int p3), .val (.ref b1), .val (.int 1), .val (.int tt), .val (.ref b73), .val (.int (own_go [x0, (123 : Int32), x2, x3, x4, x5] NN (NN - 1) 1 0)), .val (.int d0), .val (.int d1), .unset, .unset, .unset, .unset, .unset]
    rw [show ls86 = ls87 from by rw [hls86, hls87, hd1]]
    show G T85 (mkF m 143 ls87 [])
    have hv1 : d1 = 0 + own_vv (123 : Int32) := by rw [hd1, hv0]; unfold f_v1; rw [if_neg (by decide)]; rfl
    refine step (fun t k => XS.iload X85.here hx rfl (hb hby at_143) (by rw [hls87]; rfl) k) ?_
    show G T85 (mkF m 145 ls87 [(.int d1)])
    refine step (fun t k => XS.aload X85.here hx rfl (hb hby at_145) (by rw [hls87]; rfl) rfl k) ?_
    show G T85 (mkF m 147 ls87 [(.ref b1), (.int d1)])
    refine step (fun t k => XS.iconst X85.here hx rfl (hb hby at_147) k) ?_
    show G T85 (mkF m 148 ls87 [(.int 2), (.ref b1), (.int d1)])
    refine step (fun t k => XS.iload X85.here hx rfl (hb hby at_148) (by rw [hls87]; rfl) k) ?_
    show G T85 (mkF m 150 ls87 [(.int 1), (.int 2), (.ref b1), (.int d1)])
    have hK88 := (backOf (R := room_1) (p := p) (e := e) (below := below) (s := s) (args := #[(.int p0), (.long q1), (.int p2), (.int p3)]) (len := 3) (W := 1) (rm_v2 l Z a0 hw [] w_COMPACT_STRINGS w_SIOOBE_FORMATTER b1 (1 : Int32) k1 x0 (123 : Int32) x2 x3 x4 x5 T75.heap n0 (own_old_le O75) ST O75 f82) hZ (ww41 hw) (ww3 hw) (by decide) (by decide))
    obtain ⟨_, _, ⟨T88, L88, k88, n88⟩, -, X88, ⟨Lc88, hQ88, l88, y88, z88⟩, st88⟩ := Jvm.LawKit.callS X85 hx (y := y_1) hown (mvT hZ (ww39 hw)) (mvT hZ (ww40 hw)) (mvT hZ (ww3 hw)) (mvT hZ (ww41 hw)) (by decide) hK88 (g := (mkF m 150 ls87 [(.int 1), (.int 2), (.ref b1), (.int d1)])) rfl (by rw [hml, hls87]; rfl) (argsL := [(.ref b1), (.int 2), (.int 1)]) (rest := [(.int d1)]) (lenOf pd_4 rfl) rfl (by show 2 * 0 + _ ≤ _; exact Nat.le_of_eq rfl) (hb hby at_150) (fun _ _ => ⟨rfl, e85, (by decide : 3 + 0 ≤ _), (by decide : 16 + 0 ≤ _)⟩)
    dsimp only [Pt.U, Pt.locs, Pt.cells, Pt.slots] at X88 l88 y88 z88 st88 hQ88
    subst l88 y88 z88
    obtain ⟨rfl, N88q, e88⟩ := hQ88
    have N88 := Fr.app N85 N88q
    obtain ⟨lc88, X88, N88⟩ := own_gen X88 N88
    refine step (fun t k => st88 t k) ?_
    show G T88 (mkF m 153 ls87 [(.int (f_v2 w_COMPACT_STRINGS w_SIOOBE_FORMATTER b1 (1 : Int32) k1 x0 (123 : Int32) x2 x3 x4 x5)), (.int d1)])
    refine step (fun t k => XS.iadd X88.here hx rfl (hb hby at_153) rfl k) ?_
    show G T88 (mkF m 154 ls87 [(.int (d1 + (f_v2 w_COMPACT_STRINGS w_SIOOBE_FORMATTER b1 (1 : Int32) k1 x0 (123 : Int32) x2 x3 x4 x5)))])
    obtain ⟨ls89, hls89⟩  := own_sl #[.val (.int p0), .val (.long q1), .second, .val (.int p2), .val (.int p3), .val (.ref b1), .val (.int 1), .val (.int tt), .val (.ref b73), .val (.int (own_go [x0, (123 : Int32), x2, x3, x4, x5] NN (NN - 1) 1 0)), .val (.int d0), .val (.int d1), .val (.int (d1 + (f_v2 w_COMPACT_STRINGS w_SIOOBE_FORMATTER b1 (1 : Int32) k1 x0 (123 : Int32) x2 x3 x4 x5))), .unset, .unset, .unset, .unset]
    refine step (fun t k => XS.istore X88.here hx rfl (hb hby at_154) rfl (l' := ls89) (by rw [hls87, hls89]; rfl) k) ?_
    show G T88 (mkF m 156 ls89 [])
    obtain ⟨d2, hd2⟩ : ∃ z : Int32, z = (d1 + (f_v2 w_COMPACT_STRINGS w_SIOOBE_FORMATTER b1 (1 : Int32) k1 x0 (123 : Int32) x2 x3 x4 x5)) := ⟨_, rfl⟩
    obtain ⟨ls90, hls90⟩  := own_sl #[.val (.int p0), .val (.long q1), .second, .val (.int p2), .val (.int p3), .val (.ref b1), .val (.int 1), .val (.int tt), .val (.ref b73), .val (.int (own_go [x0, (123 : Int32), x2, x3, x4, x5] NN (NN - 1) 1 0)), .val (.int d0), .val (.int d1), .val (.int d2), .unset, .unset, .unset, .unset]
    rw [show ls89 = ls90 from by rw [hls89, hls90, hd2]]
    show G T88 (mkF m 156 ls90 [])
    have hv2 : d2 = d1 + own_vv x2 := by rw [hd2]; unfold f_v2; rw [if_neg (by decide)]; rfl
    refine step (fun t k => XS.iload X88.here hx rfl (hb hby at_156) (by rw [hls90]; rfl) k) ?_
    show G T88 (mkF m 158 ls90 [(.int d2)])
    refine step (fun t k => XS.aload X88.here hx rfl (hb hby at_158) (by rw [hls90]; rfl) rfl k) ?_
    show G T88 (mkF m 160 ls90 [(.ref b1), (.int d2)])
    refine step (fun t k => XS.iconst X88.here hx rfl (hb hby at_160) k) ?_
    show G T88 (mkF m 161 ls90 [(.int 3), (.ref b1), (.int d2)])
    refine step (fun t k => XS.iload X88.here hx rfl (hb hby at_161) (by rw [hls90]; rfl) k) ?_
    show G T88 (mkF m 163 ls90 [(.int 1), (.int 3), (.ref b1), (.int d2)])
    have hK91 := (backOf (R := room_1) (p := p) (e := e) (below := below) (s := s) (args := #[(.int p0), (.long q1), (.int p2), (.int p3)]) (len := 3) (W := 1) (rm_v3 l Z a0 hw [] w_COMPACT_STRINGS w_SIOOBE_FORMATTER b1 (1 : Int32) k1 x0 (123 : Int32) x2 x3 x4 x5 T75.heap n0 (own_old_le O75) ST O75 f82) hZ (ww41 hw) (ww3 hw) (by decide) (by decide))
    obtain ⟨_, _, ⟨T91, L91, k91, n91⟩, -, X91, ⟨Lc91, hQ91, l91, y91, z91⟩, st91⟩ := Jvm.LawKit.callS X88 hx (y := y_1) hown (mvT hZ (ww39 hw)) (mvT hZ (ww40 hw)) (mvT hZ (ww3 hw)) (mvT hZ (ww41 hw)) (by decide) hK91 (g := (mkF m 163 ls90 [(.int 1), (.int 3), (.ref b1), (.int d2)])) rfl (by rw [hml, hls90]; rfl) (argsL := [(.ref b1), (.int 3), (.int 1)]) (rest := [(.int d2)]) (lenOf pd_4 rfl) rfl (by show 2 * 0 + _ ≤ _; exact Nat.le_of_eq rfl) (hb hby at_163) (fun _ _ => ⟨rfl, e88, (by decide : 3 + 0 ≤ _), (by decide : 16 + 0 ≤ _)⟩)
    dsimp only [Pt.U, Pt.locs, Pt.cells, Pt.slots] at X91 l91 y91 z91 st91 hQ91
    subst l91 y91 z91
    obtain ⟨rfl, N91q, e91⟩ := hQ91
    have N91 := Fr.app N88 N91q
    obtain ⟨lc91, X91, N91⟩ := own_gen X91 N91
    refine step (fun t k => st91 t k) ?_
    show G T91 (mkF m 166 ls90 [(.int (f_v3 w_COMPACT_STRINGS w_SIOOBE_FORMATTER b1 (1 : Int32) k1 x0 (123 : Int32) x2 x3 x4 x5)), (.int d2)])
    refine step (fun t k => XS.iadd X91.here hx rfl (hb hby at_166) rfl k) ?_
    show G T91 (mkF m 167 ls90 [(.int (d2 + (f_v3 w_COMPACT_STRINGS w_SIOOBE_FORMATTER b1 (1 : Int32) k1 x0 (123 : Int32) x2 x3 x4 x5)))])
    obtain ⟨ls92, hls92⟩  := own_sl #[.val (.int p0), .val (.long q1), .second, .val (.int p2), .val (.int p3), .val (.ref b1), .val (.int 1), .val (.int tt), .val (.ref b73), .val (.int (own_go [x0, (123 : Int32), x2, x3, x4, x5] NN (NN - 1) 1 0)), .val (.int d0), .val (.int d1), .val (.int d2), .val (.int (d2 + (f_v3 w_COMPACT_STRINGS w_SIOOBE_FORMATTER b1 (1 : Int32) k1 x0 (123 : Int32) x2 x3 x4 x5))), .unset, .unset, .unset]
    refine step (fun t k => XS.istore X91.here hx rfl (hb hby at_167) rfl (l' := ls92) (by rw [hls90, hls92]; rfl) k) ?_
    show G T91 (mkF m 169 ls92 [])
    obtain ⟨d3, hd3⟩ : ∃ z : Int32, z = (d2 + (f_v3 w_COMPACT_STRINGS w_SIOOBE_FORMATTER b1 (1 : Int32) k1 x0 (123 : Int32) x2 x3 x4 x5)) := ⟨_, rfl⟩
    obtain ⟨ls93, hls93⟩  := own_sl #[.val (.int p0), .val (.long q1), .second, .val (.int p2), .val (.int p3), .val (.ref b1), .val (.int 1), .val (.int tt), .val (.ref b73), .val (.int (own_go [x0, (123 : Int32), x2, x3, x4, x5] NN (NN - 1) 1 0)), .val (.int d0), .val (.int d1), .val (.int d2), .val (.int d3), .unset, .unset, .unset]
    rw [show ls92 = ls93 from by rw [hls92, hls93, hd3]]
    show G T91 (mkF m 169 ls93 [])
    have hv3 : d3 = d2 + own_vv x3 := by rw [hd3]; unfold f_v3; rw [if_neg (by decide)]; rfl
    refine step (fun t k => XS.iload X91.here hx rfl (hb hby at_169) (by rw [hls93]; rfl) k) ?_
    show G T91 (mkF m 171 ls93 [(.int d3)])
    refine step (fun t k => XS.aload X91.here hx rfl (hb hby at_171) (by rw [hls93]; rfl) rfl k) ?_
    show G T91 (mkF m 173 ls93 [(.ref b1), (.int d3)])
    refine step (fun t k => XS.iconst X91.here hx rfl (hb hby at_173) k) ?_
    show G T91 (mkF m 174 ls93 [(.int 4), (.ref b1), (.int d3)])
    refine step (fun t k => XS.iload X91.here hx rfl (hb hby at_174) (by rw [hls93]; rfl) k) ?_
    show G T91 (mkF m 176 ls93 [(.int 1), (.int 4), (.ref b1), (.int d3)])
    have hK94 := (backOf (R := room_1) (p := p) (e := e) (below := below) (s := s) (args := #[(.int p0), (.long q1), (.int p2), (.int p3)]) (len := 3) (W := 1) (rm_v4 l Z a0 hw [] w_COMPACT_STRINGS w_SIOOBE_FORMATTER b1 (1 : Int32) k1 x0 (123 : Int32) x2 x3 x4 x5 T75.heap n0 (own_old_le O75) ST O75 f82) hZ (ww41 hw) (ww3 hw) (by decide) (by decide))
    obtain ⟨_, _, ⟨T94, L94, k94, n94⟩, -, X94, ⟨Lc94, hQ94, l94, y94, z94⟩, st94⟩ := Jvm.LawKit.callS X91 hx (y := y_1) hown (mvT hZ (ww39 hw)) (mvT hZ (ww40 hw)) (mvT hZ (ww3 hw)) (mvT hZ (ww41 hw)) (by decide) hK94 (g := (mkF m 176 ls93 [(.int 1), (.int 4), (.ref b1), (.int d3)])) rfl (by rw [hml, hls93]; rfl) (argsL := [(.ref b1), (.int 4), (.int 1)]) (rest := [(.int d3)]) (lenOf pd_4 rfl) rfl (by show 2 * 0 + _ ≤ _; exact Nat.le_of_eq rfl) (hb hby at_176) (fun _ _ => ⟨rfl, e91, (by decide : 3 + 0 ≤ _), (by decide : 16 + 0 ≤ _)⟩)
    dsimp only [Pt.U, Pt.locs, Pt.cells, Pt.slots] at X94 l94 y94 z94 st94 hQ94
    subst l94 y94 z94
    obtain ⟨rfl, N94q, e94⟩ := hQ94
    have N94 := Fr.app N91 N94q
    obtain ⟨lc94, X94, N94⟩ := own_gen X94 N94
    refine step (fun t k => st94 t k) ?_
    show G T94 (mkF m 179 ls93 [(.int (f_v4 w_COMPACT_STRINGS w_SIOOBE_FORMATTER b1 (1 : Int32) k1 x0 (123 : Int32) x2 x3 x4 x5)), (.int d3)])
    refine step (fun t k => XS.iadd X94.here hx rfl (hb hby at_179) rfl k) ?_
    show G T94 (mkF m 180 ls93 [(.int (d3 + (f_v4 w_COMPACT_STRINGS w_SIOOBE_FORMATTER b1 (1 : Int32) k1 x0 (123 : Int32) x2 x3 x4 x5)))])
    obtain ⟨ls95, hls95⟩  := own_sl #[.val (.int p0), .val (.long q1), .second, .val (.int p2), .val (.int p3), .val (.ref b1), .val (.int 1), .val (.int tt), .val (.ref b73), .val (.int (own_go [x0, (123 : Int32), x2, x3, x4, x5] NN (NN - 1) 1 0)), .val (.int d0), .val (.int d1), .val (.int d2), .val (.int d3), .val (.int (d3 + (f_v4 w_COMPACT_STRINGS w_SIOOBE_FORMATTER b1 (1 : Int32) k1 x0 (123 : Int32) x2 x3 x4 x5))), .unset, .unset]
    refine step (fun t k => XS.istore X94.here hx rfl (hb hby at_180) rfl (l' := ls95) (by rw [hls93, hls95]; rfl) k) ?_
    show G T94 (mkF m 182 ls95 [])
    obtain ⟨d4, hd4⟩ : ∃ z : Int32, z = (d3 + (f_v4 w_COMPACT_STRINGS w_SIOOBE_FORMATTER b1 (1 : Int32) k1 x0 (123 : Int32) x2 x3 x4 x5)) := ⟨_, rfl⟩
    obtain ⟨ls96, hls96⟩  := own_sl #[.val (.int p0), .val (.long q1), .second, .val (.int p2), .val (.int p3), .val (.ref b1), .val (.int 1), .val (.int tt), .val (.ref b73), .val (.int (own_go [x0, (123 : Int32), x2, x3, x4, x5] NN (NN - 1) 1 0)), .val (.int d0), .val (.int d1), .val (.int d2), .val (.int d3), .val (.int d4), .unset, .unset]
    rw [show ls95 = ls96 from by rw [hls95, hls96, hd4]]
    show G T94 (mkF m 182 ls96 [])
    have hv4 : d4 = d3 + own_vv x4 := by rw [hd4]; unfold f_v4; rw [if_neg (by decide)]; rfl
    refine step (fun t k => XS.iload X94.here hx rfl (hb hby at_182) (by rw [hls96]; rfl) k) ?_
    show G T94 (mkF m 184 ls96 [(.int d4)])
    refine step (fun t k => XS.aload X94.here hx rfl (hb hby at_184) (by rw [hls96]; rfl) rfl k) ?_
    show G T94 (mkF m 186 ls96 [(.ref b1), (.int d4)])
    refine step (fun t k => XS.iconst X94.here hx rfl (hb hby at_186) k) ?_
    show G T94 (mkF m 187 ls96 [(.int 5), (.ref b1), (.int d4)])
    refine step (fun t k => XS.iload X94.here hx rfl (hb hby at_187) (by rw [hls96]; rfl) k) ?_
    show G T94 (mkF m 189 ls96 [(.int 1), (.int 5), (.ref b1), (.int d4)])
    have hK97 := (backOf (R := room_1) (p := p) (e := e) (below := below) (s := s) (args := #[(.int p0), (.long q1), (.int p2), (.int p3)]) (len := 3) (W := 1) (rm_v5 l Z a0 hw [] w_COMPACT_STRINGS w_SIOOBE_FORMATTER b1 (1 : Int32) k1 x0 (123 : Int32) x2 x3 x4 x5 T75.heap n0 (own_old_le O75) ST O75 f82) hZ (ww41 hw) (ww3 hw) (by decide) (by decide))
    obtain ⟨_, _, ⟨T97, L97, k97, n97⟩, -, X97, ⟨Lc97, hQ97, l97, y97, z97⟩, st97⟩ := Jvm.LawKit.callS X94 hx (y := y_1) hown (mvT hZ (ww39 hw)) (mvT hZ (ww40 hw)) (mvT hZ (ww3 hw)) (mvT hZ (ww41 hw)) (by decide) hK97 (g := (mkF m 189 ls96 [(.int 1), (.int 5), (.ref b1), (.int d4)])) rfl (by rw [hml, hls96]; rfl) (argsL := [(.ref b1), (.int 5), (.int 1)]) (rest := [(.int d4)]) (lenOf pd_4 rfl) rfl (by show 2 * 0 + _ ≤ _; exact Nat.le_of_eq rfl) (hb hby at_189) (fun _ _ => ⟨rfl, e94, (by decide : 3 + 0 ≤ _), (by decide : 16 + 0 ≤ _)⟩)
    dsimp only [Pt.U, Pt.locs, Pt.cells, Pt.slots] at X97 l97 y97 z97 st97 hQ97
    subst l97 y97 z97
    obtain ⟨rfl, N97q, e97⟩ := hQ97
    have N97 := Fr.app N94 N97q
    obtain ⟨lc97, X97, N97⟩ := own_gen X97 N97
    refine step (fun t k => st97 t k) ?_
    show G T97 (mkF m 192 ls96 [(.int (f_v5 w_COMPACT_STRINGS w_SIOOBE_FORMATTER b1 (1 : Int32) k1 x0 (123 : Int32) x2 x3 x4 x5)), (.int d4)])
    refine step (fun t k => XS.iadd X97.here hx rfl (hb hby at_192) rfl k) ?_
    show G T97 (mkF m 193 ls96 [(.int (d4 + (f_v5 w_COMPACT_STRINGS w_SIOOBE_FORMATTER b1 (1 : Int32) k1 x0 (123 : Int32) x2 x3 x4 x5)))])
    obtain ⟨ls98, hls98⟩  := own_sl #[.val (.int p0), .val (.long q1), .second, .val (.int p2), .val (.int p3), .val (.ref b1), .val (.int 1), .val (.int tt), .val (.ref b73), .val (.int (own_go [x0, (123 : Int32), x2, x3, x4, x5] NN (NN - 1) 1 0)), .val (.int d0), .val (.int d1), .val (.int d2), .val (.int d3), .val (.int d4), .val (.int (d4 + (f_v5 w_COMPACT_STRINGS w_SIOOBE_FORMATTER b1 (1 : Int32) k1 x0 (123 : Int32) x2 x3 x4 x5))), .unset]
    refine step (fun t k => XS.istore X97.here hx rfl (hb hby at_193) rfl (l' := ls98) (by rw [hls96, hls98]; rfl) k) ?_
    show G T97 (mkF m 195 ls98 [])
    obtain ⟨d5, hd5⟩ : ∃ z : Int32, z = (d4 + (f_v5 w_COMPACT_STRINGS w_SIOOBE_FORMATTER b1 (1 : Int32) k1 x0 (123 : Int32) x2 x3 x4 x5)) := ⟨_, rfl⟩
    obtain ⟨ls99, hls99⟩  := own_sl #[.val (.int p0), .val (.long q1), .second, .val (.int p2), .val (.int p3), .val (.ref b1), .val (.int 1), .val (.int tt), .val (.ref b73), .val (.int (own_go [x0, (123 : Int32), x2, x3, x4, x5] NN (NN - 1) 1 0)), .val (.int d0), .val (.int d1), .val (.int d2), .val (.int d3), .val (.int d4), .val (.int d5), .unset]
    rw [show ls98 = ls99 from by rw [hls98, hls99, hd5]]
    show G T97 (mkF m 195 ls99 [])
    have hv5 : d5 = d4 + own_vv x5 := by rw [hd5]; unfold f_v5; rw [if_neg (by decide)]; rfl
    refine step (fun t k => XS.aload X97.here hx rfl (hb hby at_195) (by rw [hls99]; rfl) rfl k) ?_
    show G T97 (mkF m 197 ls99 [(.ref b1)])
    refine step (fun t k => XS.iconst X97.here hx rfl (hb hby at_197) k) ?_
    show G T97 (mkF m 198 ls99 [(.int 0), (.ref b1)])
    refine step (fun t k => XS.iload X97.here hx rfl (hb hby at_198) (by rw [hls99]; rfl) k) ?_
    show G T97 (mkF m 200 ls99 [(.int 1), (.int 0), (.ref b1)])
    refine step (fun t k => XS.iload X97.here hx rfl (hb hby at_200) (by rw [hls99]; rfl) k) ?_
    show G T97 (mkF m 202 ls99 [(.int tt), (.int 1), (.int 0), (.ref b1)])
    refine step (fun t k => XS.iload X97.here hx rfl (hb hby at_202) (by rw [hls99]; rfl) k) ?_
    show G T97 (mkF m 204 ls99 [(.int d0), (.int tt), (.int 1), (.int 0), (.ref b1)])
    have hK100 := (backOf (R := room_1) (p := p) (e := e) (below := below) (s := s) (args := #[(.int p0), (.long q1), (.int p2), (.int p3)]) (len := 3) (W := 0) (rm_h0 l Z a0 hw [] w_COMPACT_STRINGS w_SIOOBE_FORMATTER b1 (1 : Int32) tt d0 k1 x0 (123 : Int32) x2 x3 x4 x5 T75.heap n0 (own_old_le O75) ST O75 f82) hZ (ww44 hw) (ww3 hw) (by decide) (by decide))
    obtain ⟨_, _, ⟨T100, L100, k100, n100⟩, -, X100, ⟨Lc100, hQ100, l100, y100, z100⟩, st100⟩ := Jvm.LawKit.callS X97 hx (y := y_2) hown (mvT hZ (ww42 hw)) (mvT hZ (ww43 hw)) (mvT hZ (ww3 hw)) (mvT hZ (ww44 hw)) (by decide) hK100 (g := (mkF m 204 ls99 [(.int d0), (.int tt), (.int 1), (.int 0), (.ref b1)])) rfl (by rw [hml, hls99]; rfl) (argsL := [(.ref b1), (.int 0), (.int 1), (.int tt), (.int d0)]) (rest := []) (lenOf pd_5 rfl) rfl (by show 2 * 0 + _ ≤ _; exact Nat.le_of_eq rfl) (hb hby at_204) (fun _ _ => ⟨rfl, e97, (by decide : 3 + 0 ≤ _), (by decide : 16 + 0 ≤ _)⟩)
    dsimp only [Pt.U, Pt.locs, Pt.cells, Pt.slots] at X100 l100 y100 z100 st100 hQ100
    subst l100 y100 z100
    obtain ⟨rfl, N100q, e100⟩ := hQ100
    have N100 := Fr.app N97 N100q
    obtain ⟨lc100, X100, N100⟩ := own_gen X100 N100
    refine step (fun t k => st100 t k) ?_
    show G T100 (mkF m 207 ls99 [(.int (f_h0 w_COMPACT_STRINGS w_SIOOBE_FORMATTER b1 (1 : Int32) tt d0 k1 x0 (123 : Int32) x2 x3 x4 x5))])
    refine step (fun t k => XS.ifYes X100.here hx rfl (pc0 := 207) (pc' := 216) rfl (hb hby at_207) rfl ((if0 _ _).trans (teq (by unfold f_h0; rw [if_pos (by decide)])).1) (by decide) (by decide) k) ?_
    show G T100 (mkF m 216 ls99 [])
    refine step (fun t k => XS.aload X100.here hx rfl (hb hby at_216) (by rw [hls99]; rfl) rfl k) ?_
    show G T100 (mkF m 218 ls99 [(.ref b1)])
    refine step (fun t k => XS.iconst X100.here hx rfl (hb hby at_218) k) ?_
    show G T100 (mkF m 219 ls99 [(.int 1), (.ref b1)])
    refine step (fun t k => XS.iload X100.here hx rfl (hb hby at_219) (by rw [hls99]; rfl) k) ?_
    show G T100 (mkF m 221 ls99 [(.int 1), (.int 1), (.ref b1)])
    refine step (fun t k => XS.iload X100.here hx rfl (hb hby at_221) (by rw [hls99]; rfl) k) ?_
    show G T100 (mkF m 223 ls99 [(.int tt), (.int 1), (.int 1), (.ref b1)])
    refine step (fun t k => XS.iload X100.here hx rfl (hb hby at_223) (by rw [hls99]; rfl) k) ?_
    show G T100 (mkF m 225 ls99 [(.int d1), (.int tt), (.int 1), (.int 1), (.ref b1)])
    have hK101 := (backOf (R := room_1) (p := p) (e := e) (below := below) (s := s) (args := #[(.int p0), (.long q1), (.int p2), (.int p3)]) (len := 3) (W := 0) (rm_h1 l Z a0 hw [] w_COMPACT_STRINGS w_SIOOBE_FORMATTER b1 (1 : Int32) tt d1 k1 x0 (123 : Int32) x2 x3 x4 x5 T75.heap n0 (own_old_le O75) ST O75 f82) hZ (ww44 hw) (ww3 hw) (by decide) (by decide))
    obtain ⟨_, _, ⟨T101, L101, k101, n101⟩, -, X101, ⟨Lc101, hQ101, l101, y101, z101⟩, st101⟩ := Jvm.LawKit.callS X100 hx (y := y_2) hown (mvT hZ (ww42 hw)) (mvT hZ (ww43 hw)) (mvT hZ (ww3 hw)) (mvT hZ (ww44 hw)) (by decide) hK101 (g := (mkF m 225 ls99 [(.int d1), (.int tt), (.int 1), (.int 1), (.ref b1)])) rfl (by rw [hml, hls99]; rfl) (argsL := [(.ref b1), (.int 1), (.int 1), (.int tt), (.int d1)]) (rest := []) (lenOf pd_5 rfl) rfl (by show 2 * 0 + _ ≤ _; exact Nat.le_of_eq rfl) (hb hby at_225) (fun _ _ => ⟨rfl, e100, (by decide : 3 + 0 ≤ _), (by decide : 16 + 0 ≤ _)⟩)
    dsimp only [Pt.U, Pt.locs, Pt.cells, Pt.slots] at X101 l101 y101 z101 st101 hQ101
    subst l101 y101 z101
    obtain ⟨rfl, N101q, e101⟩ := hQ101
    have N101 := Fr.app N100 N101q
    obtain ⟨lc101, X101, N101⟩ := own_gen X101 N101
    refine step (fun t k => st101 t k) ?_
    show G T101 (mkF m 228 ls99 [(.int (f_h1 w_COMPACT_STRINGS w_SIOOBE_FORMATTER b1 (1 : Int32) tt d1 k1 x0 (123 : Int32) x2 x3 x4 x5))])
    by_cases hc102 : (f_h1 w_COMPACT_STRINGS w_SIOOBE_FORMATTER b1 (1 : Int32) tt d1 k1 x0 (123 : Int32) x2 x3 x4 x5) = (0 : Int32)
    · skip
      refine step (fun t k => XS.ifYes X101.here hx rfl (pc0 := 228) (pc' := 237) rfl (hb hby at_228) rfl ((if0 _ _).trans (teq hc102).1) (by decide) (by decide) k) ?_
      show G T101 (mkF m 237 ls99 [])
      refine step (fun t k => XS.aload X101.here hx rfl (hb hby at_237) (by rw [hls99]; rfl) rfl k) ?_
      show G T101 (mkF m 239 ls99 [(.ref b1)])
      refine step (fun t k => XS.iconst X101.here hx rfl (hb hby at_239) k) ?_
      show G T101 (mkF m 240 ls99 [(.int 2), (.ref b1)])
      refine step (fun t k => XS.iload X101.here hx rfl (hb hby at_240) (by rw [hls99]; rfl) k) ?_
      show G T101 (mkF m 242 ls99 [(.int 1), (.int 2), (.ref b1)])
      refine step (fun t k => XS.iload X101.here hx rfl (hb hby at_242) (by rw [hls99]; rfl) k) ?_
      show G T101 (mkF m 244 ls99 [(.int tt), (.int 1), (.int 2), (.ref b1)])
      refine step (fun t k => XS.iload X101.here hx rfl (hb hby at_244) (by rw [hls99]; rfl) k) ?_
      show G T101 (mkF m 246 ls99 [(.int d2), (.int tt), (.int 1), (.int 2), (.ref b1)])
      have hK103 := (backOf (R := room_1) (p := p) (e := e) (below := below) (s := s) (args := #[(.int p0), (.long q1), (.int p2), (.int p3)]) (len := 3) (W := 0) (rm_h2 l Z a0 hw [] w_COMPACT_STRINGS w_SIOOBE_FORMATTER b1 (1 : Int32) tt d2 k1 x0 (123 : Int32) x2 x3 x4 x5 T75.heap n0 (own_old_le O75) ST O75 f82) hZ (ww44 hw) (ww3 hw) (by decide) (by decide))
      obtain ⟨_, _, ⟨T103, L103, k103, n103⟩, -, X103, ⟨Lc103, hQ103, l103, y103, z103⟩, st103⟩ := Jvm.LawKit.callS X101 hx (y := y_2) hown (mvT hZ (ww42 hw)) (mvT hZ (ww43 hw)) (mvT hZ (ww3 hw)) (mvT hZ (ww44 hw)) (by decide) hK103 (g := (mkF m 246 ls99 [(.int d2), (.int tt), (.int 1), (.int 2), (.ref b1)])) rfl (by rw [hml, hls99]; rfl) (argsL := [(.ref b1), (.int 2), (.int 1), (.int tt), (.int d2)]) (rest := []) (lenOf pd_5 rfl) rfl (by show 2 * 0 + _ ≤ _; exact Nat.le_of_eq rfl) (hb hby at_246) (fun _ _ => ⟨rfl, e101, (by decide : 3 + 0 ≤ _), (by decide : 16 + 0 ≤ _)⟩)
      dsimp only [Pt.U, Pt.locs, Pt.cells, Pt.slots] at X103 l103 y103 z103 st103 hQ103
      subst l103 y103 z103
      obtain ⟨rfl, N103q, e103⟩ := hQ103
      have N103 := Fr.app N101 N103q
      obtain ⟨lc103, X103, N103⟩ := own_gen X103 N103
      refine step (fun t k => st103 t k) ?_
      show G T103 (mkF m 249 ls99 [(.int (f_h2 w_COMPACT_STRINGS w_SIOOBE_FORMATTER b1 (1 : Int32) tt d2 k1 x0 (123 : Int32) x2 x3 x4 x5))])
      by_cases hc104 : (f_h2 w_COMPACT_STRINGS w_SIOOBE_FORMATTER b1 (1 : Int32) tt d2 k1 x0 (123 : Int32) x2 x3 x4 x5) = (0 : Int32)
      · skip
        refine step (fun t k => XS.ifYes X103.here hx rfl (pc0 := 249) (pc' := 258) rfl (hb hby at_249) rfl ((if0 _ _).trans (teq hc104).1) (by decide) (by decide) k) ?_
        show G T103 (mkF m 258 ls99 [])
        refine step (fun t k => XS.aload X103.here hx rfl (hb hby at_258) (by rw [hls99]; rfl) rfl k) ?_
        show G T103 (mkF m 260 ls99 [(.ref b1)])
        refine step (fun t k => XS.iconst X103.here hx rfl (hb hby at_260) k) ?_
        show G T103 (mkF m 261 ls99 [(.int 3), (.ref b1)])
        refine step (fun t k => XS.iload X103.here hx rfl (hb hby at_261) (by rw [hls99]; rfl) k) ?_
        show G T103 (mkF m 263 ls99 [(.int 1), (.int 3), (.ref b1)])
        refine step (fun t k => XS.iload X103.here hx rfl (hb hby at_263) (by rw [hls99]; rfl) k) ?_
        show G T103 (mkF m 265 ls99 [(.int tt), (.int 1), (.int 3), (.ref b1)])
        refine step (fun t k => XS.iload X103.here hx rfl (hb hby at_265) (by rw [hls99]; rfl) k) ?_
        show G T103 (mkF m 267 ls99 [(.int d3), (.int tt), (.int 1), (.int 3), (.ref b1)])
        have hK105 := (backOf (R := room_1) (p := p) (e := e) (below := below) (s := s) (args := #[(.int p0), (.long q1), (.int p2), (.int p3)]) (len := 3) (W := 0) (rm_h3 l Z a0 hw [] w_COMPACT_STRINGS w_SIOOBE_FORMATTER b1 (1 : Int32) tt d3 k1 x0 (123 : Int32) x2 x3 x4 x5 T75.heap n0 (own_old_le O75) ST O75 f82) hZ (ww44 hw) (ww3 hw) (by decide) (by decide))
        obtain ⟨_, _, ⟨T105, L105, k105, n105⟩, -, X105, ⟨Lc105, hQ105, l105, y105, z105⟩, st105⟩ := Jvm.LawKit.callS X103 hx (y := y_2) hown (mvT hZ (ww42 hw)) (mvT hZ (ww43 hw)) (mvT hZ (ww3 hw)) (mvT hZ (ww44 hw)) (by decide) hK105 (g := (mkF m 267 ls99 [(.int d3), (.int tt), (.int 1), (.int 3), (.ref b1)])) rfl (by rw [hml, hls99]; rfl) (argsL := [(.ref b1), (.int 3), (.int 1), (.int tt), (.int d3)]) (rest := []) (lenOf pd_5 rfl) rfl (by show 2 * 0 + _ ≤ _; exact Nat.le_of_eq rfl) (hb hby at_267) (fun _ _ => ⟨rfl, e103, (by decide : 3 + 0 ≤ _), (by decide : 16 + 0 ≤ _)⟩)
        dsimp only [Pt.U, Pt.locs, Pt.cells, Pt.slots] at X105 l105 y105 z105 st105 hQ105
        subst l105 y105 z105
        obtain ⟨rfl, N105q, e105⟩ := hQ105
        have N105 := Fr.app N103 N105q
        obtain ⟨lc105, X105, N105⟩ := own_gen X105 N105
        refine step (fun t k => st105 t k) ?_
        show G T105 (mkF m 270 ls99 [(.int (f_h3 w_COMPACT_STRINGS w_SIOOBE_FORMATTER b1 (1 : Int32) tt d3 k1 x0 (123 : Int32) x2 x3 x4 x5))])
        by_cases hc106 : (f_h3 w_COMPACT_STRINGS w_SIOOBE_FORMATTER b1 (1 : Int32) tt d3 k1 x0 (123 : Int32) x2 x3 x4 x5) = (0 : Int32)
        · skip
          refine step (fun t k => XS.ifYes X105.here hx rfl (pc0 := 270) (pc' := 279) rfl (hb hby at_270) rfl ((if0 _ _).trans (teq hc106).1) (by decide) (by decide) k) ?_
          show G T105 (mkF m 279 ls99 [])
          refine step (fun t k => XS.aload X105.here hx rfl (hb hby at_279) (by rw [hls99]; rfl) rfl k) ?_
          show G T105 (mkF m 281 ls99 [(.ref b1)])
          refine step (fun t k => XS.iconst X105.here hx rfl (hb hby at_281) k) ?_
          show G T105 (mkF m 282 ls99 [(.int 4), (.ref b1)])
          refine step (fun t k => XS.iload X105.here hx rfl (hb hby at_282) (by rw [hls99]; rfl) k) ?_
          show G T105 (mkF m 284 ls99 [(.int 1), (.int 4), (.ref b1)])
          refine step (fun t k => XS.iload X105.here hx rfl (hb hby at_284) (by rw [hls99]; rfl) k) ?_
          show G T105 (mkF m 286 ls99 [(.int tt), (.int 1), (.int 4), (.ref b1)])
          refine step (fun t k => XS.iload X105.here hx rfl (hb hby at_286) (by rw [hls99]; rfl) k) ?_
          show G T105 (mkF m 288 ls99 [(.int d4), (.int tt), (.int 1), (.int 4), (.ref b1)])
          have hK107 := (backOf (R := room_1) (p := p) (e := e) (below := below) (s := s) (args := #[(.int p0), (.long q1), (.int p2), (.int p3)]) (len := 3) (W := 0) (rm_h4 l Z a0 hw [] w_COMPACT_STRINGS w_SIOOBE_FORMATTER b1 (1 : Int32) tt d4 k1 x0 (123 : Int32) x2 x3 x4 x5 T75.heap n0 (own_old_le O75) ST O75 f82) hZ (ww44 hw) (ww3 hw) (by decide) (by decide))
          obtain ⟨_, _, ⟨T107, L107, k107, n107⟩, -, X107, ⟨Lc107, hQ107, l107, y107, z107⟩, st107⟩ := Jvm.LawKit.callS X105 hx (y := y_2) hown (mvT hZ (ww42 hw)) (mvT hZ (ww43 hw)) (mvT hZ (ww3 hw)) (mvT hZ (ww44 hw)) (by decide) hK107 (g := (mkF m 288 ls99 [(.int d4), (.int tt), (.int 1), (.int 4), (.ref b1)])) rfl (by rw [hml, hls99]; rfl) (argsL := [(.ref b1), (.int 4), (.int 1), (.int tt), (.int d4)]) (rest := []) (lenOf pd_5 rfl) rfl (by show 2 * 0 + _ ≤ _; exact Nat.le_of_eq rfl) (hb hby at_288) (fun _ _ => ⟨rfl, e105, (by decide : 3 + 0 ≤ _), (by decide : 16 + 0 ≤ _)⟩)
          dsimp only [Pt.U, Pt.locs, Pt.cells, Pt.slots] at X107 l107 y107 z107 st107 hQ107
          subst l107 y107 z107
          obtain ⟨rfl, N107q, e107⟩ := hQ107
          have N107 := Fr.app N105 N107q
          obtain ⟨lc107, X107, N107⟩ := own_gen X107 N107
          refine step (fun t k => st107 t k) ?_
          show G T107 (mkF m 291 ls99 [(.int (f_h4 w_COMPACT_STRINGS w_SIOOBE_FORMATTER b1 (1 : Int32) tt d4 k1 x0 (123 : Int32) x2 x3 x4 x5))])
          by_cases hc108 : (f_h4 w_COMPACT_STRINGS w_SIOOBE_FORMATTER b1 (1 : Int32) tt d4 k1 x0 (123 : Int32) x2 x3 x4 x5) = (0 : Int32)
          · skip
            refine step (fun t k => XS.ifYes X107.here hx rfl (pc0 := 291) (pc' := 300) rfl (hb hby at_291) rfl ((if0 _ _).trans (teq hc108).1) (by decide) (by decide) k) ?_
            show G T107 (mkF m 300 ls99 [])
            refine step (fun t k => XS.aload X107.here hx rfl (hb hby at_300) (by rw [hls99]; rfl) rfl k) ?_
            show G T107 (mkF m 302 ls99 [(.ref b1)])
            refine step (fun t k => XS.iconst X107.here hx rfl (hb hby at_302) k) ?_
            show G T107 (mkF m 303 ls99 [(.int 5), (.ref b1)])
            refine step (fun t k => XS.iload X107.here hx rfl (hb hby at_303) (by rw [hls99]; rfl) k) ?_
            show G T107 (mkF m 305 ls99 [(.int 1), (.int 5), (.ref b1)])
            refine step (fun t k => XS.iload X107.here hx rfl (hb hby at_305) (by rw [hls99]; rfl) k) ?_
            show G T107 (mkF m 307 ls99 [(.int tt), (.int 1), (.int 5), (.ref b1)])
            refine step (fun t k => XS.iload X107.here hx rfl (hb hby at_307) (by rw [hls99]; rfl) k) ?_
            show G T107 (mkF m 309 ls99 [(.int d5), (.int tt), (.int 1), (.int 5), (.ref b1)])
            have hK109 := (backOf (R := room_1) (p := p) (e := e) (below := below) (s := s) (args := #[(.int p0), (.long q1), (.int p2), (.int p3)]) (len := 3) (W := 0) (rm_h5 l Z a0 hw [] w_COMPACT_STRINGS w_SIOOBE_FORMATTER b1 (1 : Int32) tt d5 k1 x0 (123 : Int32) x2 x3 x4 x5 T75.heap n0 (own_old_le O75) ST O75 f82) hZ (ww44 hw) (ww3 hw) (by decide) (by decide))
            obtain ⟨_, _, ⟨T109, L109, k109, n109⟩, -, X109, ⟨Lc109, hQ109, l109, y109, z109⟩, st109⟩ := Jvm.LawKit.callS X107 hx (y := y_2) hown (mvT hZ (ww42 hw)) (mvT hZ (ww43 hw)) (mvT hZ (ww3 hw)) (mvT hZ (ww44 hw)) (by decide) hK109 (g := (mkF m 309 ls99 [(.int d5), (.int tt), (.int 1), (.int 5), (.ref b1)])) rfl (by rw [hml, hls99]; rfl) (argsL := [(.ref b1), (.int 5), (.int 1), (.int tt), (.int d5)]) (rest := []) (lenOf pd_5 rfl) rfl (by show 2 * 0 + _ ≤ _; exact Nat.le_of_eq rfl) (hb hby at_309) (fun _ _ => ⟨rfl, e107, (by decide : 3 + 0 ≤ _), (by decide : 16 + 0 ≤ _)⟩)
            dsimp only [Pt.U, Pt.locs, Pt.cells, Pt.slots] at X109 l109 y109 z109 st109 hQ109
            subst l109 y109 z109
            obtain ⟨rfl, N109q, e109⟩ := hQ109
            have N109 := Fr.app N107 N109q
            obtain ⟨lc109, X109, N109⟩ := own_gen X109 N109
            refine step (fun t k => st109 t k) ?_
            show G T109 (mkF m 312 ls99 [(.int (f_h5 w_COMPACT_STRINGS w_SIOOBE_FORMATTER b1 (1 : Int32) tt d5 k1 x0 (123 : Int32) x2 x3 x4 x5))])
            by_cases hc110 : (f_h5 w_COMPACT_STRINGS w_SIOOBE_FORMATTER b1 (1 : Int32) tt d5 k1 x0 (123 : Int32) x2 x3 x4 x5) = (0 : Int32)
            · skip
              refine step (fun t k => XS.ifYes X109.here hx rfl (pc0 := 312) (pc' := 321) rfl (hb hby at_312) rfl ((if0 _ _).trans (teq hc110).1) (by decide) (by decide) k) ?_
              show G T109 (mkF m 321 ls99 [])
              refine step (fun t k => XS.iload X109.here hx rfl (hb hby at_321) (by rw [hls99]; rfl) k) ?_
              show G T109 (mkF m 323 ls99 [(.int tt)])
              obtain ⟨ls111, hls111⟩  := own_sl #[.val (.int p0), .val (.long q1), .second, .val (.int p2), .val (.int p3), .val (.ref b1), .val (.int 1), .val (.int tt), .val (.ref b73), .val (.int (own_go [x0, (123 : Int32), x2, x3, x4, x5] NN (NN - 1) 1 0)), .val (.int d0), .val (.int d1), .val (.int d2), .val (.int d3), .val (.int d4), .val (.int d5), .val (.int tt)]
              refine step (fun t k => XS.istore X109.here hx rfl (hb hby at_323) rfl (l' := ls111) (by rw [hls99, hls111]; rfl) k) ?_
              show G T109 (mkF m 325 ls111 [])
              refine step (fun t k => XS.iload X109.here hx rfl (hb hby at_325) (by rw [hls111]; rfl) k) ?_
              show G T109 (mkF m 327 ls111 [(.int (own_go [x0, (123 : Int32), x2, x3, x4, x5] NN (NN - 1) 1 0))])
              refine step (fun t k => XS.iload X109.here hx rfl (hb hby at_327) (by rw [hls111]; rfl) k) ?_
              show G T109 (mkF m 329 ls111 [(.int tt), (.int (own_go [x0, (123 : Int32), x2, x3, x4, x5] NN (NN - 1) 1 0))])
              refine step (fun t k => XS.icmpNo X109.here hx rfl (hb hby at_329) rfl (teq ((own_fin1 x0 (123 : Int32) x2 x3 x4 x5 d1 d2 d3 d4 d5 NN hKN hN6 hv1 hv2 hv3 hv4 hv5).trans (by rw [if_neg (own_hn1 (by decide) hNN hN6 hc102), if_neg (own_hn2 (by decide) hNN hN6 hc104), if_neg (own_hn3 (by decide) hNN hN6 hc106), if_neg (own_hn4 (by decide) hNN hN6 hc108), if_neg (own_hn5 (by decide) hNN hN6 hc110)]; exact hNN.symm))).2 k) ?_
              show G T109 (mkF m 332 ls111 [])
              refine step (fun t k => XS.iconst X109.here hx rfl (hb hby at_332) k) ?_
              show G T109 (mkF m 333 ls111 [(.int 1)])
              refine step (fun t k => XS.goto X109.here hx rfl (pc0 := 333) (pc' := 337) rfl (hb hby at_333) (by decide) (by decide) k) ?_
              show G T109 (mkF m 337 ls111 [(.int 1)])
              exact ret (v := some (.int 1)) X109 (fun h => by rw [Bd.returns] at h; cases h) (fun fs hr => retN X109 hx (t := .boolean) Bd.returns (by simp) (hb hby at_337) hr) e109 ⟨rfl, N109⟩ (by decide) (by decide)
            · skip
              refine step (fun t k => XS.ifNo X109.here hx rfl (hb hby at_312) rfl ((if0 _ _).trans (feq hc110).1) k) ?_
              show G T109 (mkF m 315 ls99 [])
              refine step (fun t k => XS.iconst X109.here hx rfl (hb hby at_315) k) ?_
              show G T109 (mkF m 316 ls99 [(.int 5)])
              obtain ⟨ls112, hls112⟩  := own_sl #[.val (.int p0), .val (.long q1), .second, .val (.int p2), .val (.int p3), .val (.ref b1), .val (.int 1), .val (.int tt), .val (.ref b73), .val (.int (own_go [x0, (123 : Int32), x2, x3, x4, x5] NN (NN - 1) 1 0)), .val (.int d0), .val (.int d1), .val (.int d2), .val (.int d3), .val (.int d4), .val (.int d5), .val (.int 5)]
              refine step (fun t k => XS.istore X109.here hx rfl (hb hby at_316) rfl (l' := ls112) (by rw [hls99, hls112]; rfl) k) ?_
              show G T109 (mkF m 318 ls112 [])
              refine step (fun t k => XS.goto X109.here hx rfl (pc0 := 318) (pc' := 325) rfl (hb hby at_318) (by decide) (by decide) k) ?_
              show G T109 (mkF m 325 ls112 [])
              refine step (fun t k => XS.iload X109.here hx rfl (hb hby at_325) (by rw [hls112]; rfl) k) ?_
              show G T109 (mkF m 327 ls112 [(.int (own_go [x0, (123 : Int32), x2, x3, x4, x5] NN (NN - 1) 1 0))])
              refine step (fun t k => XS.iload X109.here hx rfl (hb hby at_327) (by rw [hls112]; rfl) k) ?_
              show G T109 (mkF m 329 ls112 [(.int 5), (.int (own_go [x0, (123 : Int32), x2, x3, x4, x5] NN (NN - 1) 1 0))])
              refine step (fun t k => XS.icmpNo X109.here hx rfl (hb hby at_329) rfl (teq ((own_fin1 x0 (123 : Int32) x2 x3 x4 x5 d1 d2 d3 d4 d5 NN hKN hN6 hv1 hv2 hv3 hv4 hv5).trans (by rw [if_neg (own_hn1 (by decide) hNN hN6 hc102), if_neg (own_hn2 (by decide) hNN hN6 hc104), if_neg (own_hn3 (by decide) hNN hN6 hc106), if_neg (own_hn4 (by decide) hNN hN6 hc108), if_pos (own_hy5 (by decide) hNN hN6 hc110)]))).2 k) ?_
              show G T109 (mkF m 332 ls112 [])
              refine step (fun t k => XS.iconst X109.here hx rfl (hb hby at_332) k) ?_
              show G T109 (mkF m 333 ls112 [(.int 1)])
              refine step (fun t k => XS.goto X109.here hx rfl (pc0 := 333) (pc' := 337) rfl (hb hby at_333) (by decide) (by decide) k) ?_
              show G T109 (mkF m 337 ls112 [(.int 1)])
              exact ret (v := some (.int 1)) X109 (fun h => by rw [Bd.returns] at h; cases h) (fun fs hr => retN X109 hx (t := .boolean) Bd.returns (by simp) (hb hby at_337) hr) e109 ⟨rfl, N109⟩ (by decide) (by decide)
          · skip
            refine step (fun t k => XS.ifNo X107.here hx rfl (hb hby at_291) rfl ((if0 _ _).trans (feq hc108).1) k) ?_
            show G T107 (mkF m 294 ls99 [])
            refine step (fun t k => XS.iconst X107.here hx rfl (hb hby at_294) k) ?_
            show G T107 (mkF m 295 ls99 [(.int 4)])
            obtain ⟨ls113, hls113⟩  := own_sl #[.val (.int p0), .val (.long q1), .second, .val (.int p2), .val (.int p3), .val (.ref b1), .val (.int 1), .val (.int tt), .val (.ref b73), .val (.int (own_go [x0, (123 : Int32), x2, x3, x4, x5] NN (NN - 1) 1 0)), .val (.int d0), .val (.int d1), .val (.int d2), .val (.int d3), .val (.int d4), .val (.int d5), .val (.int 4)]
            refine step (fun t k => XS.istore X107.here hx rfl (hb hby at_295) rfl (l' := ls113) (by rw [hls99, hls113]; rfl) k) ?_
            show G T107 (mkF m 297 ls113 [])
            refine step (fun t k => XS.goto X107.here hx rfl (pc0 := 297) (pc' := 325) rfl (hb hby at_297) (by decide) (by decide) k) ?_
            show G T107 (mkF m 325 ls113 [])
            refine step (fun t k => XS.iload X107.here hx rfl (hb hby at_325) (by rw [hls113]; rfl) k) ?_
            show G T107 (mkF m 327 ls113 [(.int (own_go [x0, (123 : Int32), x2, x3, x4, x5] NN (NN - 1) 1 0))])
            refine step (fun t k => XS.iload X107.here hx rfl (hb hby at_327) (by rw [hls113]; rfl) k) ?_
            show G T107 (mkF m 329 ls113 [(.int 4), (.int (own_go [x0, (123 : Int32), x2, x3, x4, x5] NN (NN - 1) 1 0))])
            refine step (fun t k => XS.icmpNo X107.here hx rfl (hb hby at_329) rfl (teq ((own_fin1 x0 (123 : Int32) x2 x3 x4 x5 d1 d2 d3 d4 d5 NN hKN hN6 hv1 hv2 hv3 hv4 hv5).trans (by rw [if_neg (own_hn1 (by decide) hNN hN6 hc102), if_neg (own_hn2 (by decide) hNN hN6 hc104), if_neg (own_hn3 (by decide) hNN hN6 hc106), if_pos (own_hy4 (by decide) hNN hN6 hc108)]))).2 k) ?_
            show G T107 (mkF m 332 ls113 [])
            refine step (fun t k => XS.iconst X107.here hx rfl (hb hby at_332) k) ?_
            show G T107 (mkF m 333 ls113 [(.int 1)])
            refine step (fun t k => XS.goto X107.here hx rfl (pc0 := 333) (pc' := 337) rfl (hb hby at_333) (by decide) (by decide) k) ?_
            show G T107 (mkF m 337 ls113 [(.int 1)])
            exact ret (v := some (.int 1)) X107 (fun h => by rw [Bd.returns] at h; cases h) (fun fs hr => retN X107 hx (t := .boolean) Bd.returns (by simp) (hb hby at_337) hr) e107 ⟨rfl, N107⟩ (by decide) (by decide)
        · skip
          refine step (fun t k => XS.ifNo X105.here hx rfl (hb hby at_270) rfl ((if0 _ _).trans (feq hc106).1) k) ?_
          show G T105 (mkF m 273 ls99 [])
          refine step (fun t k => XS.iconst X105.here hx rfl (hb hby at_273) k) ?_
          show G T105 (mkF m 274 ls99 [(.int 3)])
          obtain ⟨ls114, hls114⟩  := own_sl #[.val (.int p0), .val (.long q1), .second, .val (.int p2), .val (.int p3), .val (.ref b1), .val (.int 1), .val (.int tt), .val (.ref b73), .val (.int (own_go [x0, (123 : Int32), x2, x3, x4, x5] NN (NN - 1) 1 0)), .val (.int d0), .val (.int d1), .val (.int d2), .val (.int d3), .val (.int d4), .val (.int d5), .val (.int 3)]
          refine step (fun t k => XS.istore X105.here hx rfl (hb hby at_274) rfl (l' := ls114) (by rw [hls99, hls114]; rfl) k) ?_
          show G T105 (mkF m 276 ls114 [])
          refine step (fun t k => XS.goto X105.here hx rfl (pc0 := 276) (pc' := 325) rfl (hb hby at_276) (by decide) (by decide) k) ?_
          show G T105 (mkF m 325 ls114 [])
          refine step (fun t k => XS.iload X105.here hx rfl (hb hby at_325) (by rw [hls114]; rfl) k) ?_
          show G T105 (mkF m 327 ls114 [(.int (own_go [x0, (123 : Int32), x2, x3, x4, x5] NN (NN - 1) 1 0))])
          refine step (fun t k => XS.iload X105.here hx rfl (hb hby at_327) (by rw [hls114]; rfl) k) ?_
          show G T105 (mkF m 329 ls114 [(.int 3), (.int (own_go [x0, (123 : Int32), x2, x3, x4, x5] NN (NN - 1) 1 0))])
          refine step (fun t k => XS.icmpNo X105.here hx rfl (hb hby at_329) rfl (teq ((own_fin1 x0 (123 : Int32) x2 x3 x4 x5 d1 d2 d3 d4 d5 NN hKN hN6 hv1 hv2 hv3 hv4 hv5).trans (by rw [if_neg (own_hn1 (by decide) hNN hN6 hc102), if_neg (own_hn2 (by decide) hNN hN6 hc104), if_pos (own_hy3 (by decide) hNN hN6 hc106)]))).2 k) ?_
          show G T105 (mkF m 332 ls114 [])
          refine step (fun t k => XS.iconst X105.here hx rfl (hb hby at_332) k) ?_
          show G T105 (mkF m 333 ls114 [(.int 1)])
          refine step (fun t k => XS.goto X105.here hx rfl (pc0 := 333) (pc' := 337) rfl (hb hby at_333) (by decide) (by decide) k) ?_
          show G T105 (mkF m 337 ls114 [(.int 1)])
          exact ret (v := some (.int 1)) X105 (fun h => by rw [Bd.returns] at h; cases h) (fun fs hr => retN X105 hx (t := .boolean) Bd.returns (by simp) (hb hby at_337) hr) e105 ⟨rfl, N105⟩ (by decide) (by decide)
      · skip
        refine step (fun t k => XS.ifNo X103.here hx rfl (hb hby at_249) rfl ((if0 _ _).trans (feq hc104).1) k) ?_
        show G T103 (mkF m 252 ls99 [])
        refine step (fun t k => XS.iconst X103.here hx rfl (hb hby at_252) k) ?_
        show G T103 (mkF m 253 ls99 [(.int 2)])
        obtain ⟨ls115, hls115⟩  := own_sl #[.val (.int p0), .val (.long q1), .second, .val (.int p2), .val (.int p3), .val (.ref b1), .val (.int 1), .val (.int tt), .val (.ref b73), .val (.int (own_go [x0, (123 : Int32), x2, x3, x4, x5] NN (NN - 1) 1 0)), .val (.int d0), .val (.int d1), .val (.int d2), .val (.int d3), .val (.int d4), .val (.int d5), .val (.int 2)]
        refine step (fun t k => XS.istore X103.here hx rfl (hb hby at_253) rfl (l' := ls115) (by rw [hls99, hls115]; rfl) k) ?_
        show G T103 (mkF m 255 ls115 [])
        refine step (fun t k => XS.goto X103.here hx rfl (pc0 := 255) (pc' := 325) rfl (hb hby at_255) (by decide) (by decide) k) ?_
        show G T103 (mkF m 325 ls115 [])
        refine step (fun t k => XS.iload X103.here hx rfl (hb hby at_325) (by rw [hls115]; rfl) k) ?_
        show G T103 (mkF m 327 ls115 [(.int (own_go [x0, (123 : Int32), x2, x3, x4, x5] NN (NN - 1) 1 0))])
        refine step (fun t k => XS.iload X103.here hx rfl (hb hby at_327) (by rw [hls115]; rfl) k) ?_
        show G T103 (mkF m 329 ls115 [(.int 2), (.int (own_go [x0, (123 : Int32), x2, x3, x4, x5] NN (NN - 1) 1 0))])
        refine step (fun t k => XS.icmpNo X103.here hx rfl (hb hby at_329) rfl (teq ((own_fin1 x0 (123 : Int32) x2 x3 x4 x5 d1 d2 d3 d4 d5 NN hKN hN6 hv1 hv2 hv3 hv4 hv5).trans (by rw [if_neg (own_hn1 (by decide) hNN hN6 hc102), if_pos (own_hy2 (by decide) hNN hN6 hc104)]))).2 k) ?_
        show G T103 (mkF m 332 ls115 [])
        refine step (fun t k => XS.iconst X103.here hx rfl (hb hby at_332) k) ?_
        show G T103 (mkF m 333 ls115 [(.int 1)])
        refine step (fun t k => XS.goto X103.here hx rfl (pc0 := 333) (pc' := 337) rfl (hb hby at_333) (by decide) (by decide) k) ?_
        show G T103 (mkF m 337 ls115 [(.int 1)])
        exact ret (v := some (.int 1)) X103 (fun h => by rw [Bd.returns] at h; cases h) (fun fs hr => retN X103 hx (t := .boolean) Bd.returns (by simp) (hb hby at_337) hr) e103 ⟨rfl, N103⟩ (by decide) (by decide)
    · skip
      refine step (fun t k => XS.ifNo X101.here hx rfl (hb hby at_228) rfl ((if0 _ _).trans (feq hc102).1) k) ?_
      show G T101 (mkF m 231 ls99 [])
      refine step (fun t k => XS.iconst X101.here hx rfl (hb hby at_231) k) ?_
      show G T101 (mkF m 232 ls99 [(.int 1)])
      obtain ⟨ls116, hls116⟩  := own_sl #[.val (.int p0), .val (.long q1), .second, .val (.int p2), .val (.int p3), .val (.ref b1), .val (.int 1), .val (.int tt), .val (.ref b73), .val (.int (own_go [x0, (123 : Int32), x2, x3, x4, x5] NN (NN - 1) 1 0)), .val (.int d0), .val (.int d1), .val (.int d2), .val (.int d3), .val (.int d4), .val (.int d5), .val (.int 1)]
      refine step (fun t k => XS.istore X101.here hx rfl (hb hby at_232) rfl (l' := ls116) (by rw [hls99, hls116]; rfl) k) ?_
      show G T101 (mkF m 234 ls116 [])
      refine step (fun t k => XS.goto X101.here hx rfl (pc0 := 234) (pc' := 325) rfl (hb hby at_234) (by decide) (by decide) k) ?_
      show G T101 (mkF m 325 ls116 [])
      refine step (fun t k => XS.iload X101.here hx rfl (hb hby at_325) (by rw [hls116]; rfl) k) ?_
      show G T101 (mkF m 327 ls116 [(.int (own_go [x0, (123 : Int32), x2, x3, x4, x5] NN (NN - 1) 1 0))])
      refine step (fun t k => XS.iload X101.here hx rfl (hb hby at_327) (by rw [hls116]; rfl) k) ?_
      show G T101 (mkF m 329 ls116 [(.int 1), (.int (own_go [x0, (123 : Int32), x2, x3, x4, x5] NN (NN - 1) 1 0))])
      refine step (fun t k => XS.icmpNo X101.here hx rfl (hb hby at_329) rfl (teq ((own_fin1 x0 (123 : Int32) x2 x3 x4 x5 d1 d2 d3 d4 d5 NN hKN hN6 hv1 hv2 hv3 hv4 hv5).trans (by rw [if_pos (own_hy1 (by decide) hNN hN6 hc102)]))).2 k) ?_
      show G T101 (mkF m 332 ls116 [])
      refine step (fun t k => XS.iconst X101.here hx rfl (hb hby at_332) k) ?_
      show G T101 (mkF m 333 ls116 [(.int 1)])
      refine step (fun t k => XS.goto X101.here hx rfl (pc0 := 333) (pc' := 337) rfl (hb hby at_333) (by decide) (by decide) k) ?_
      show G T101 (mkF m 337 ls116 [(.int 1)])
      exact ret (v := some (.int 1)) X101 (fun h => by rw [Bd.returns] at h; cases h) (fun fs hr => retN X101 hx (t := .boolean) Bd.returns (by simp) (hb hby at_337) hr) e101 ⟨rfl, N101⟩ (by decide) (by decide)
  · skip
    obtain ⟨ls117, hls117⟩  := own_sl #[.val (.int p0), .val (.long q1), .second, .val (.int p2), .val (.int p3), .val (.ref b1), .val (.int 2), .unset, .unset, .unset, .unset, .unset, .unset, .unset, .unset, .unset, .unset]
    rw [show ls16 = ls117 from by rw [hls16, hls117, hO]]
    show G T14 (mkF m 75 ls117 [])
    refine step (fun t k => XS.iload X14.here hx rfl (hb hby at_75) (by rw [hls117]; rfl) k) ?_
    show G T14 (mkF m 77 ls117 [(.int 2)])
    refine step (fun t k => XS.iload X14.here hx rfl (hb hby at_77) (by rw [hls117]; rfl) k) ?_
    show G T14 (mkF m 79 ls117 [(.int p3), (.int 2)])
    have q118 := X14.ldcInt hx hown (mvT hZ (ww5 hw)) (g := (mkF m 79 ls117 [(.int p3), (.int 2)])) rfl (hb hby at_79)
    refine step q118 ?_
    show G T14 (mkF m 81 ls117 [(.int 2147483647), (.int p3), (.int 2)])
    refine step (fun t k => XS.iand X14.here hx rfl (hb hby at_81) rfl k) ?_
    show G T14 (mkF m 82 ls117 [(.int (p3 &&& (2147483647 : Int32))), (.int 2)])
    refine step (fun t k => XS.bipush X14.here hx rfl (hb hby at_82) k) ?_
    show G T14 (mkF m 84 ls117 [(.int 7), (.int (p3 &&& (2147483647 : Int32))), (.int 2)])
    refine step (fun t k => XS.iload X14.here hx rfl (hb hby at_84) (by rw [hls117]; rfl) k) ?_
    show G T14 (mkF m 86 ls117 [(.int 2), (.int 7), (.int (p3 &&& (2147483647 : Int32))), (.int 2)])
    refine step (fun t k => XS.isub X14.here hx rfl (hb hby at_86) rfl k) ?_
    show G T14 (mkF m 87 ls117 [(.int ((7 : Int32) - (2 : Int32))), (.int (p3 &&& (2147483647 : Int32))), (.int 2)])
    rw [(by decide : ((7 : Int32) - (2 : Int32)) = (5 : Int32))]
    show G T14 (mkF m 87 ls117 [(.int 5), (.int (p3 &&& (2147483647 : Int32))), (.int 2)])
    refine step (fun t k => iremM X14 hx rfl (hb hby at_87) rfl (by decide) k) ?_
    show G T14 (mkF m 88 ls117 [(.int ((p3 &&& (2147483647 : Int32)) % (5 : Int32))), (.int 2)])
    refine step (fun t k => XS.iadd X14.here hx rfl (hb hby at_88) rfl k) ?_
    show G T14 (mkF m 89 ls117 [(.int ((2 : Int32) + ((p3 &&& (2147483647 : Int32)) % (5 : Int32))))])
    obtain ⟨ls119, hls119⟩  := own_sl #[.val (.int p0), .val (.long q1), .second, .val (.int p2), .val (.int p3), .val (.ref b1), .val (.int 2), .val (.int ((2 : Int32) + ((p3 &&& (2147483647 : Int32)) % (5 : Int32)))), .unset, .unset, .unset, .unset, .unset, .unset, .unset, .unset, .unset]
    refine step (fun t k => XS.istore X14.here hx rfl (hb hby at_89) rfl (l' := ls119) (by rw [hls117, hls119]; rfl) k) ?_
    show G T14 (mkF m 91 ls119 [])
    obtain ⟨tt, htt⟩ : ∃ z : Int32, z = ((2 : Int32) + ((p3 &&& (2147483647 : Int32)) % (5 : Int32))) := ⟨_, rfl⟩
    obtain ⟨ls120, hls120⟩  := own_sl #[.val (.int p0), .val (.long q1), .second, .val (.int p2), .val (.int p3), .val (.ref b1), .val (.int 2), .val (.int tt), .unset, .unset, .unset, .unset, .unset, .unset, .unset, .unset, .unset]
    rw [show ls119 = ls120 from by rw [hls119, hls120, htt]]
    show G T14 (mkF m 91 ls120 [])
    obtain ⟨NN, hNN, hKN, hN6⟩ := own_to2 p3 tt htt
    refine step (fun t k => XS.aload X14.here hx rfl (hb hby at_91) (by rw [hls120]; rfl) rfl k) ?_
    show G T14 (mkF m 93 ls120 [(.ref b1)])
    refine step (fun t k => XS.iload X14.here hx rfl (hb hby at_93) (by rw [hls120]; rfl) k) ?_
    show G T14 (mkF m 95 ls120 [(.int 2), (.ref b1)])
    refine step (fun t k => XS.bipush X14.here hx rfl (hb hby at_95) k) ?_
    show G T14 (mkF m 97 ls120 [(.int 123), (.int 2), (.ref b1)])
    obtain ⟨T121, h121, X121, e121, W121, V121, st121⟩ := own_stC X14 hx hZ e14 V14 (j := (2 : Int32)) (by decide) (i := 2) rfl (by show 2 < 6; decide) (g := (mkF m 97 ls120 [(.int 123), (.int 2), (.ref b1)])) rfl rfl (hb hby at_97)
    replace V121 : Arv Z h121 b1 k1 .char (6 : Int32) [(.int x0), (.int x1), (.int 123), (.int x3), (.int x4), (.int x5)] (.int 0) := by rw [own_narc (by decide : ¬ (123 : Int32) < 0 ∧ ¬ (255 : Int32) < (123 : Int32))] at V121; exact V121
    have N121 := Fr.snoc X121 N14 ge_b1
    obtain ⟨lc121, X121, N121⟩ := own_gen X121 N121
    have O121 := O14.wr W121 ge_b1
    refine step st121 ?_
    show G T121 (mkF m 98 ls120 [])
    have f123 := (Exa.wr W121 (Exa.wr W14 (Exa.wr W12 (Exa.wr W10 (Exa.wr W8 (Exa.wr W6 (Exa.wr W4 B1)))))))
    obtain ⟨T122, h122, X122, e122, E122, A122, D122, -, st122⟩ := newO X121 hx hZ hown (ww6 hw) (ww7 hw) (ww8 hw) e121 (g := (mkF m 98 ls120 [])) rfl (hb hby at_98) (by decide) (by decide)
    obtain ⟨b122, g122⟩ : ∃ z, z = h121.size := ⟨_, rfl⟩
    rw [← g122] at A122 D122 st122
    have ge_b122 : n0 ≤ b122 := Nat.le_trans (own_old_le O121) (Nat.le_of_eq g122.symm)
    have lt_b1_b122 : b1 < b122 := Nat.lt_of_lt_of_le f123.lt (Nat.le_of_eq g122.symm)
    have O122 := O121.ext E122
    have F122_coder : Fld Z h122 b122 cn_1 "coder" "B" (.int 0) := D122 (Or.inr (ww32 hw)) (ty := .byte) (by decide)
    have F122_value : Fld Z h122 b122 cn_1 "value" "[B" .null := D122 (Or.inr (ww34 hw)) (ty := (.array .byte)) (by decide)
    refine step st122 ?_
    show G T122 (mkF m 101 ls120 [(.ref b122)])
    refine step (fun t k => XS.dup X122.here hx rfl (hb hby at_101) rfl rfl k) ?_
    show G T122 (mkF m 102 ls120 [(.ref b122), (.ref b122)])
    refine step (fun t k => XS.aload X122.here hx rfl (hb hby at_102) (by rw [hls120]; rfl) rfl k) ?_
    show G T122 (mkF m 104 ls120 [(.ref b1), (.ref b122), (.ref b122)])
    have f125 := (V121.ext E122)
    have f126 := (Exa.ext E122 f123)
    have hK124 := (StrChars.Road.backV (l := l) (R := room_1) (p := p) (e := e) (below := below) (s := s) (args := #[(.int p0), (.long q1), (.int p2), (.int p3)]) (len := 3) (W := 1) hZ (own_hwV hw) (kI := 4) (ww7 hw) (cs := [x0, x1, (123 : Int32), x3, x4, x5]) (bs := [(x0.toInt8.toInt32), (x1.toInt8.toInt32), ((123 : Int32).toInt8.toInt32), (x3.toInt8.toInt32), (x4.toInt8.toInt32), (x5.toInt8.toInt32)]) (n := 6) ge_b122 (own_old_le O122) A122 F122_value F122_coder f125 (Sta.ext O122.2 ST.k0) ST.k3 rfl rfl (by decide) (by decide) (List.forall_mem_cons.mpr ⟨lx0, (List.forall_mem_cons.mpr ⟨lx1, (List.forall_mem_cons.mpr ⟨(by decide : ¬ (123 : Int32) < 0 ∧ ¬ (255 : Int32) < (123 : Int32)), (List.forall_mem_cons.mpr ⟨lx3, (List.forall_mem_cons.mpr ⟨lx4, (List.forall_mem_cons.mpr ⟨lx5, (fun _ h => nomatch h)⟩)⟩)⟩)⟩)⟩)⟩) rfl (by decide) (by decide))
    obtain ⟨_, _, ⟨T124, L124, k124, n124⟩, -, X124, ⟨Lc124, hQ124, l124, y124, z124⟩, st124⟩ := X122.specialBack hx (y := y_5) rfl hown (mvT hZ (ww9 hw)) (mvT hZ (ww10 hw)) (mvT hZ (ww11 hw)) (by decide) hK124 (g := (mkF m 104 ls120 [(.ref b1), (.ref b122), (.ref b122)])) rfl (by rw [hml, hls120]; rfl) (Steps.refl _) (a := b122) (argsL := [(.ref b1)]) (rest := [(.ref b122)]) (lenOf pd_2 rfl) rfl (by show 2 * 0 + _ ≤ _; exact Nat.le_of_eq rfl) (hb hby at_104) (fun _ _ => ⟨rfl, e122, (by decide : 2 + 1 ≤ _), (by decide : 10 + 6 ≤ _)⟩)
    dsimp only [Pt.U, Pt.locs, Pt.cells, Pt.slots] at X124 l124 y124 z124 st124 hQ124
    subst l124 y124 z124
    obtain ⟨rfl, N124q, K124q, Es124, Cs124, b124, kb124, gt124, gh124, -, Fv124, Vb124⟩ := hQ124
    have N124 := Fr.app N121 N124q
    obtain ⟨lc124, X124, N124⟩ := own_gen X124 N124
    replace Vb124 : Arv Z T124.heap b124 kb124 .byte (6 : Int32) [(.int (x0.toInt8.toInt32)), (.int (x1.toInt8.toInt32)), (.int ((123 : Int32).toInt8.toInt32)), (.int (x3.toInt8.toInt32)), (.int (x4.toInt8.toInt32)), (.int (x5.toInt8.toInt32))] (.int 0) := Vb124
    have lt_b1_b124 : b1 < b124 := Nat.lt_of_lt_of_le f126.lt gh124
    have lt_b122_b124 : b122 < b124 := Nat.lt_of_lt_of_le A122.lt gh124
    have O124 := O122.keep K124q (allS ge_b122 all0)
    refine step (fun t k => st124.trans k) ?_
    show G T124 (mkF m 107 ls120 [(.ref b122)])
    obtain ⟨ls127, hls127⟩  := own_sl #[.val (.int p0), .val (.long q1), .second, .val (.int p2), .val (.int p3), .val (.ref b1), .val (.int 2), .val (.int tt), .val (.ref b122), .unset, .unset, .unset, .unset, .unset, .unset, .unset, .unset]
    refine step (fun t k => XS.astore X124.here hx rfl (hb hby at_107) rfl rfl (l' := ls127) (by rw [hls120, hls127]; rfl) k) ?_
    show G T124 (mkF m 109 ls127 [])
    refine step (fun t k => XS.aload X124.here hx rfl (hb hby at_109) (by rw [hls127]; rfl) rfl k) ?_
    show G T124 (mkF m 111 ls127 [(.ref b122)])
    refine step (fun t k => XS.iload X124.here hx rfl (hb hby at_111) (by rw [hls127]; rfl) k) ?_
    show G T124 (mkF m 113 ls127 [(.int 2), (.ref b122)])
    refine step (fun t k => XS.iload X124.here hx rfl (hb hby at_113) (by rw [hls127]; rfl) k) ?_
    show G T124 (mkF m 115 ls127 [(.int tt), (.int 2), (.ref b122)])
    have hK128 := (backOf (R := room_1) (p := p) (e := e) (below := below) (s := s) (args := #[(.int p0), (.long q1), (.int p2), (.int p3)]) (len := 3) (W := 0) (rm_clo l Z a0 hw [] w_COMPACT_STRINGS w_SIOOBE_FORMATTER b122 (2 : Int32) tt x0 x1 (123 : Int32) x3 x4 x5 b124 kb124 2 NN T124.heap n0 (own_old_le O124) ST O124 lx0 lx1 (by decide : ¬ (123 : Int32) < 0 ∧ ¬ (255 : Int32) < (123 : Int32)) lx3 lx4 lx5 Es124 Fv124 Cs124 Vb124 rfl hNN hKN hN6) hZ (ww38 hw) (ww37 hw) (by decide) (by decide))
    obtain ⟨_, _, ⟨T128, L128, k128, n128⟩, -, X128, ⟨Lc128, hQ128, l128, y128, z128⟩, st128⟩ := Jvm.LawKit.callS X124 hx (y := y_4) hown (mvT hZ (ww35 hw)) (mvT hZ (ww36 hw)) (mvT hZ (ww37 hw)) (mvT hZ (ww38 hw)) (by decide) hK128 (g := (mkF m 115 ls127 [(.int tt), (.int 2), (.ref b122)])) rfl (by rw [hml, hls127]; rfl) (argsL := [(.ref b122), (.int 2), (.int tt)]) (rest := []) (lenOf pd_3 rfl) rfl (by show 2 * 0 + _ ≤ _; exact Nat.le_of_eq rfl) (hb hby at_115) (fun _ _ => ⟨rfl, rfl, (by decide : 3 + 0 ≤ _), (by decide : 16 + 0 ≤ _)⟩)
    dsimp only [Pt.U, Pt.locs, Pt.cells, Pt.slots] at X128 l128 y128 z128 st128 hQ128
    subst l128 y128 z128
    obtain ⟨rfl, N128q, e128⟩ := hQ128
    have N128 := Fr.app N124 N128q
    refine step (fun t k => st128 t k) ?_
    show G T128 (mkF m 118 ls127 [(.int (own_go [x0, x1, (123 : Int32), x3, x4, x5] NN (NN - 2) 2 0))])
    obtain ⟨ls129, hls129⟩  := own_sl #[.val (.int p0), .val (.long q1), .second, .val (.int p2), .val (.int p3), .val (.ref b1), .val (.int 2), .val (.int tt), .val (.ref b122), .val (.int (own_go [x0, x1, (123 : Int32), x3, x4, x5] NN (NN - 2) 2 0)), .unset, .unset, .unset, .unset, .unset, .unset, .unset]
    refine step (fun t k => XS.istore X128.here hx rfl (hb hby at_118) rfl (l' := ls129) (by rw [hls127, hls129]; rfl) k) ?_
    show G T128 (mkF m 120 ls129 [])
    refine step (fun t k => XS.aload X128.here hx rfl (hb hby at_120) (by rw [hls129]; rfl) rfl k) ?_
    show G T128 (mkF m 122 ls129 [(.ref b1)])
    refine step (fun t k => XS.iconst X128.here hx rfl (hb hby at_122) k) ?_
    show G T128 (mkF m 123 ls129 [(.int 0), (.ref b1)])
    refine step (fun t k => XS.iload X128.here hx rfl (hb hby at_123) (by rw [hls129]; rfl) k) ?_
    show G T128 (mkF m 125 ls129 [(.int 2), (.int 0), (.ref b1)])
    have f131 := (Arv.keep f125 K124q (ninS (Nat.ne_of_lt lt_b1_b122) nin0))
    have hK130 := (backOf (R := room_1) (p := p) (e := e) (below := below) (s := s) (args := #[(.int p0), (.long q1), (.int p2), (.int p3)]) (len := 3) (W := 0) (rm_v0 l Z a0 hw [] w_COMPACT_STRINGS w_SIOOBE_FORMATTER b1 (2 : Int32) k1 x0 x1 (123 : Int32) x3 x4 x5 T124.heap n0 (own_old_le O124) ST O124 f131) hZ (ww41 hw) (ww3 hw) (by decide) (by decide))
    obtain ⟨_, _, ⟨T130, L130, k130, n130⟩, -, X130, ⟨Lc130, hQ130, l130, y130, z130⟩, st130⟩ := Jvm.LawKit.callS X128 hx (y := y_1) hown (mvT hZ (ww39 hw)) (mvT hZ (ww40 hw)) (mvT hZ (ww3 hw)) (mvT hZ (ww41 hw)) (by decide) hK130 (g := (mkF m 125 ls129 [(.int 2), (.int 0), (.ref b1)])) rfl (by rw [hml, hls129]; rfl) (argsL := [(.ref b1), (.int 0), (.int 2)]) (rest := []) (lenOf pd_4 rfl) rfl (by show 2 * 0 + _ ≤ _; exact Nat.le_of_eq rfl) (hb hby at_125) (fun _ _ => ⟨rfl, e128, (by decide : 3 + 0 ≤ _), (by decide : 16 + 0 ≤ _)⟩)
    dsimp only [Pt.U, Pt.locs, Pt.cells, Pt.slots] at X130 l130 y130 z130 st130 hQ130
    subst l130 y130 z130
    obtain ⟨rfl, N130q, e130⟩ := hQ130
    have N130 := Fr.app N128 N130q
    obtain ⟨lc130, X130, N130⟩ := own_gen X130 N130
    refine step (fun t k => st130 t k) ?_
    show G T130 (mkF m 128 ls129 [(.int (f_v0 w_COMPACT_STRINGS w_SIOOBE_FORMATTER b1 (2 : Int32) k1 x0 x1 (123 : Int32) x3 x4 x5))])
    obtain ⟨ls132, hls132⟩  := own_sl #[.val (.int p0), .val (.long q1), .second, .val (.int p2), .val (.int p3), .val (.ref b1), .val (.int 2), .val (.int tt), .val (.ref b122), .val (.int (own_go [x0, x1, (123 : Int32), x3, x4, x5] NN (NN - 2) 2 0)), .val (.int (f_v0 w_COMPACT_STRINGS w_SIOOBE_FORMATTER b1 (2 : Int32) k1 x0 x1 (123 : Int32) x3 x4 x5)), .unset, .unset, .unset, .unset, .unset, .unset]
    refine step (fun t k => XS.istore X130.here hx rfl (hb hby at_128) rfl (l' := ls132) (by rw [hls129, hls132]; rfl) k) ?_
    show G T130 (mkF m 130 ls132 [])
    obtain ⟨d0, hd0⟩ : ∃ z : Int32, z = (f_v0 w_COMPACT_STRINGS w_SIOOBE_FORMATTER b1 (2 : Int32) k1 x0 x1 (123 : Int32) x3 x4 x5) := ⟨_, rfl⟩
    obtain ⟨ls133, hls133⟩  := own_sl #[.val (.int p0), .val (.long q1), .second, .val (.int p2), .val (.int p3), .val (.ref b1), .val (.int 2), .val (.int tt), .val (.ref b122), .val (.int (own_go [x0, x1, (123 : Int32), x3, x4, x5] NN (NN - 2) 2 0)), .val (.int d0), .unset, .unset, .unset, .unset, .unset, .unset]
    rw [show ls132 = ls133 from by rw [hls132, hls133, hd0]]
    show G T130 (mkF m 130 ls133 [])
    have hv0 : d0 = 0 := by rw [hd0]; unfold f_v0; rw [if_pos (by decide)]
    refine step (fun t k => XS.iload X130.here hx rfl (hb hby at_130) (by rw [hls133]; rfl) k) ?_
    show G T130 (mkF m 132 ls133 [(.int d0)])
    refine step (fun t k => XS.aload X130.here hx rfl (hb hby at_132) (by rw [hls133]; rfl) rfl k) ?_
    show G T130 (mkF m 134 ls133 [(.ref b1), (.int d0)])
    refine step (fun t k => XS.iconst X130.here hx rfl (hb hby at_134) k) ?_
    show G T130 (mkF m 135 ls133 [(.int 1), (.ref b1), (.int d0)])
    refine step (fun t k => XS.iload X130.here hx rfl (hb hby at_135) (by rw [hls133]; rfl) k) ?_
    show G T130 (mkF m 137 ls133 [(.int 2), (.int 1), (.ref b1), (.int d0)])
    have hK134 := (backOf (R := room_1) (p := p) (e := e) (below := below) (s := s) (args := #[(.int p0), (.long q1), (.int p2), (.int p3)]) (len := 3) (W := 1) (rm_v1 l Z a0 hw [] w_COMPACT_STRINGS w_SIOOBE_FORMATTER b1 (2 : Int32) k1 x0 x1 (123 : Int32) x3 x4 x5 T124.heap n0 (own_old_le O124) ST O124 f131) hZ (ww41 hw) (ww3 hw) (by decide) (by decide))
    obtain ⟨_, _, ⟨T134, L134, k134, n134⟩, -, X134, ⟨Lc134, hQ134, l134, y134, z134⟩, st134⟩ := Jvm.LawKit.callS X130 hx (y := y_1) hown (mvT hZ (ww39 hw)) (mvT hZ (ww40 hw)) (mvT hZ (ww3 hw)) (mvT hZ (ww41 hw)) (by decide) hK134 (g := (mkF m 137 ls133 [(.int 2), (.int 1), (.ref b1), (.int d0)])) rfl (by rw [hml, hls133]; rfl) (argsL := [(.ref b1), (.int 1), (.int 2)]) (rest := [(.int d0)]) (lenOf pd_4 rfl) rfl (by show 2 * 0 + _ ≤ _; exact Nat.le_of_eq rfl) (hb hby at_137) (fun _ _ => ⟨rfl, e130, (by decide : 3 + 0 ≤ _), (by decide : 16 + 0 ≤ _)⟩)
    dsimp only [Pt.U, Pt.locs, Pt.cells, Pt.slots] at X134 l134 y134 z134 st134 hQ134
    subst l134 y134 z134
    obtain ⟨rfl, N134q, e134⟩ := hQ134
    have N134 := Fr.app N130 N134q
    obtain ⟨lc134, X134, N134⟩ := own_gen X134 N134
    refine step (fun t k => st134 t k) ?_
    show G T134 (mkF m 140 ls133 [(.int (f_v1 w_COMPACT_STRINGS w_SIOOBE_FORMATTER b1 (2 : Int32) k1 x0 x1 (123 : Int32) x3 x4 x5)), (.int d0)])
    refine step (fun t k => XS.iadd X134.here hx rfl (hb hby at_140) rfl k) ?_
    show G T134 (mkF m 141 ls133 [(.int (d0 + (f_v1 w_COMPACT_STRINGS w_SIOOBE_FORMATTER b1 (2 : Int32) k1 x0 x1 (123 : Int32) x3 x4 x5)))])
    obtain ⟨ls135, hls135⟩  := own_sl #[.val (.int p0), .val (.long q1), .second, .val (.int p2), .val (.int p3), .val (.ref b1), .val (.int 2), .val (.int tt), .val (.ref b122), .val (.int (own_go [x0, x1, (123 : Int32), x3, x4, x5] NN (NN - 2) 2 0)), .val (.int d0), .val (.int (d0 + (f_v1 w_COMPACT_STRINGS w_SIOOBE_FORMATTER b1 (2 : Int32) k1 x0 x1 (123 : Int32) x3 x4 x5))), .unset, .unset, .unset, .unset, .unset]
    refine step (fun t k => XS.istore X134.here hx rfl (hb hby at_141) rfl (l' := ls135) (by rw [hls133, hls135]; rfl) k) ?_
    show G T134 (mkF m 143 ls135 [])
    obtain ⟨d1, hd1⟩ : ∃ z : Int32, z = (d0 + (f_v1 w_COMPACT_STRINGS w_SIOOBE_FORMATTER b1 (2 : Int32) k1 x0 x1 (123 : Int32) x3 x4 x5)) := ⟨_, rfl⟩
    obtain ⟨ls136, hls136⟩  := own_sl #[.val (.int p0), .val (.long q1), .second, .val (.int p2), .val (.int p3), .val (.ref b1), .val (.int 2), .val (.int tt), .val (.ref b122), .val (.int (own_go [x0, x1, (123 : Int32), x3, x4, x5] NN (NN - 2) 2 0)), .val (.int d0), .val (.int d1), .unset, .unset, .unset, .unset, .unset]
    rw [show ls135 = ls136 from by rw [hls135, hls136, hd1]]
    show G T134 (mkF m 143 ls136 [])
    have hv1 : d1 = 0 := by rw [hd1, hv0]; unfold f_v1; rw [if_pos (by decide)]; rfl
    refine step (fun t k => XS.iload X134.here hx rfl (hb hby at_143) (by rw [hls136]; rfl) k) ?_
    show G T134 (mkF m 145 ls136 [(.int d1)])
    refine step (fun t k => XS.aload X134.here hx rfl (hb hby at_145) (by rw [hls136]; rfl) rfl k) ?_
    show G T134 (mkF m 147 ls136 [(.ref b1), (.int d1)])
    refine step (fun t k => XS.iconst X134.here hx rfl (hb hby at_147) k) ?_
    show G T134 (mkF m 148 ls136 [(.int 2), (.ref b1), (.int d1)])
    refine step (fun t k => XS.iload X134.here hx rfl (hb hby at_148) (by rw [hls136]; rfl) k) ?_
    show G T134 (mkF m 150 ls136 [(.int 2), (.int 2), (.ref b1), (.int d1)])
    have hK137 := (backOf (R := room_1) (p := p) (e := e) (below := below) (s := s) (args := #[(.int p0), (.long q1), (.int p2), (.int p3)]) (len := 3) (W := 1) (rm_v2 l Z a0 hw [] w_COMPACT_STRINGS w_SIOOBE_FORMATTER b1 (2 : Int32) k1 x0 x1 (123 : Int32) x3 x4 x5 T124.heap n0 (own_old_le O124) ST O124 f131) hZ (ww41 hw) (ww3 hw) (by decide) (by decide))
    obtain ⟨_, _, ⟨T137, L137, k137, n137⟩, -, X137, ⟨Lc137, hQ137, l137, y137, z137⟩, st137⟩ := Jvm.LawKit.callS X134 hx (y := y_1) hown (mvT hZ (ww39 hw)) (mvT hZ (ww40 hw)) (mvT hZ (ww3 hw)) (mvT hZ (ww41 hw)) (by decide) hK137 (g := (mkF m 150 ls136 [(.int 2), (.int 2), (.ref b1), (.int d1)])) rfl (by rw [hml, hls136]; rfl) (argsL := [(.ref b1), (.int 2), (.int 2)]) (rest := [(.int d1)]) (lenOf pd_4 rfl) rfl (by show 2 * 0 + _ ≤ _; exact Nat.le_of_eq rfl) (hb hby at_150) (fun _ _ => ⟨rfl, e134, (by decide : 3 + 0 ≤ _), (by decide : 16 + 0 ≤ _)⟩)
    dsimp only [Pt.U, Pt.locs, Pt.cells, Pt.slots] at X137 l137 y137 z137 st137 hQ137
    subst l137 y137 z137
    obtain ⟨rfl, N137q, e137⟩ := hQ137
    have N137 := Fr.app N134 N137q
    obtain ⟨lc137, X137, N137⟩ := own_gen X137 N137
    refine step (fun t k => st137 t k) ?_
    show G T137 (mkF m 153 ls136 [(.int (f_v2 w_COMPACT_STRINGS w_SIOOBE_FORMATTER b1 (2 : Int32) k1 x0 x1 (123 : Int32) x3 x4 x5)), (.int d1)])
    refine step (fun t k => XS.iadd X137.here hx rfl (hb hby at_153) rfl k) ?_
    show G T137 (mkF m 154 ls136 [(.int (d1 + (f_v2 w_COMPACT_STRINGS w_SIOOBE_FORMATTER b1 (2 : Int32) k1 x0 x1 (123 : Int32) x3 x4 x5)))])
    obtain ⟨ls138, hls138⟩  := own_sl #[.val (.int p0), .val (.long q1), .second, .val (.int p2), .val (.int p3), .val (.ref b1), .val (.int 2), .val (.int tt), .val (.ref b122), .val (.int (own_go [x0, x1, (123 : Int32), x3, x4, x5] NN (NN - 2) 2 0)), .val (.int d0), .val (.int d1), .val (.int (d1 + (f_v2 w_COMPACT_STRINGS w_SIOOBE_FORMATTER b1 (2 : Int32) k1 x0 x1 (123 : Int32) x3 x4 x5))), .unset, .unset, .unset, .unset]
    refine step (fun t k => XS.istore X137.here hx rfl (hb hby at_154) rfl (l' := ls138) (by rw [hls136, hls138]; rfl) k) ?_
    show G T137 (mkF m 156 ls138 [])
    obtain ⟨d2, hd2⟩ : ∃ z : Int32, z = (d1 + (f_v2 w_COMPACT_STRINGS w_SIOOBE_FORMATTER b1 (2 : Int32) k1 x0 x1 (123 : Int32) x3 x4 x5)) := ⟨_, rfl⟩
    obtain ⟨ls139, hls139⟩  := own_sl #[.val (.int p0), .val (.long q1), .second, .val (.int p2), .val (.int p3), .val (.ref b1), .val (.int 2), .val (.int tt), .val (.ref b122), .val (.int (own_go [x0, x1, (123 : Int32), x3, x4, x5] NN (NN - 2) 2 0)), .val (.int d0), .val (.int d1), .val (.int d2), .unset, .unset, .unset, .unset]
    rw [show ls138 = ls139 from by rw [hls138, hls139, hd2]]
    show G T137 (mkF m 156 ls139 [])
    have hv2 : d2 = 0 + own_vv (123 : Int32) := by rw [hd2, hv1]; unfold f_v2; rw [if_neg (by decide)]; rfl
    refine step (fun t k => XS.iload X137.here hx rfl (hb hby at_156) (by rw [hls139]; rfl) k) ?_
    show G T137 (mkF m 158 ls139 [(.int d2)])
    refine step (fun t k => XS.aload X137.here hx rfl (hb hby at_158) (by rw [hls139]; rfl) rfl k) ?_
    show G T137 (mkF m 160 ls139 [(.ref b1), (.int d2)])
    refine step (fun t k => XS.iconst X137.here hx rfl (hb hby at_160) k) ?_
    show G T137 (mkF m 161 ls139 [(.int 3), (.ref b1), (.int d2)])
    refine step (fun t k => XS.iload X137.here hx rfl (hb hby at_161) (by rw [hls139]; rfl) k) ?_
    show G T137 (mkF m 163 ls139 [(.int 2), (.int 3), (.ref b1), (.int d2)])
    have hK140 := (backOf (R := room_1) (p := p) (e := e) (below := below) (s := s) (args := #[(.int p0), (.long q1), (.int p2), (.int p3)]) (len := 3) (W := 1) (rm_v3 l Z a0 hw [] w_COMPACT_STRINGS w_SIOOBE_FORMATTER b1 (2 : Int32) k1 x0 x1 (123 : Int32) x3 x4 x5 T124.heap n0 (own_old_le O124) ST O124 f131) hZ (ww41 hw) (ww3 hw) (by decide) (by decide))
    obtain ⟨_, _, ⟨T140, L140, k140, n140⟩, -, X140, ⟨Lc140, hQ140, l140, y140, z140⟩, st140⟩ := Jvm.LawKit.callS X137 hx (y := y_1) hown (mvT hZ (ww39 hw)) (mvT hZ (ww40 hw)) (mvT hZ (ww3 hw)) (mvT hZ (ww41 hw)) (by decide) hK140 (g := (mkF m 163 ls139 [(.int 2), (.int 3), (.ref b1), (.int d2)])) rfl (by rw [hml, hls139]; rfl) (argsL := [(.ref b1), (.int 3), (.int 2)]) (rest := [(.int d2)]) (lenOf pd_4 rfl) rfl (by show 2 * 0 + _ ≤ _; exact Nat.le_of_eq rfl) (hb hby at_163) (fun _ _ => ⟨rfl, e137, (by decide : 3 + 0 ≤ _), (by decide : 16 + 0 ≤ _)⟩)
    dsimp only [Pt.U, Pt.locs, Pt.cells, Pt.slots] at X140 l140 y140 z140 st140 hQ140
    subst l140 y140 z140
    obtain ⟨rfl, N140q, e140⟩ := hQ140
    have N140 := Fr.app N137 N140q
    obtain ⟨lc140, X140, N140⟩ := own_gen X140 N140
    refine step (fun t k => st140 t k) ?_
    show G T140 (mkF m 166 ls139 [(.int (f_v3 w_COMPACT_STRINGS w_SIOOBE_FORMATTER b1 (2 : Int32) k1 x0 x1 (123 : Int32) x3 x4 x5)), (.int d2)])
    refine step (fun t k => XS.iadd X140.here hx rfl (hb hby at_166) rfl k) ?_
    show G T140 (mkF m 167 ls139 [(.int (d2 + (f_v3 w_COMPACT_STRINGS w_SIOOBE_FORMATTER b1 (2 : Int32) k1 x0 x1 (123 : Int32) x3 x4 x5)))])
    obtain ⟨ls141, hls141⟩  := own_sl #[.val (.int p0), .val (.long q1), .second, .val (.int p2), .val (.int p3), .val (.ref b1), .val (.int 2), .val (.int tt), .val (.ref b122), .val (.int (own_go [x0, x1, (123 : Int32), x3, x4, x5] NN (NN - 2) 2 0)), .val (.int d0), .val (.int d1), .val (.int d2), .val (.int (d2 + (f_v3 w_COMPACT_STRINGS w_SIOOBE_FORMATTER b1 (2 : Int32) k1 x0 x1 (123 : Int32) x3 x4 x5))), .unset, .unset, .unset]
    refine step (fun t k => XS.istore X140.here hx rfl (hb hby at_167) rfl (l' := ls141) (by rw [hls139, hls141]; rfl) k) ?_
    show G T140 (mkF m 169 ls141 [])
    obtain ⟨d3, hd3⟩ : ∃ z : Int32, z = (d2 + (f_v3 w_COMPACT_STRINGS w_SIOOBE_FORMATTER b1 (2 : Int32) k1 x0 x1 (123 : Int32) x3 x4 x5)) := ⟨_, rfl⟩
    obtain ⟨ls142, hls142⟩  := own_sl #[.val (.int p0), .val (.long q1), .second, .val (.int p2), .val (.int p3), .val (.ref b1), .val (.int 2), .val (.int tt), .val (.ref b122), .val (.int (own_go [x0, x1, (123 : Int32), x3, x4, x5] NN (NN - 2) 2 0)), .val (.int d0), .val (.int d1), .val (.int d2), .val (.int d3), .unset, .unset, .unset]
    rw [show ls141 = ls142 from by rw [hls141, hls142, hd3]]
    show G T140 (mkF m 169 ls142 [])
    have hv3 : d3 = d2 + own_vv x3 := by rw [hd3]; unfold f_v3; rw [if_neg (by decide)]; rfl
    refine step (fun t k => XS.iload X140.here hx rfl (hb hby at_169) (by rw [hls142]; rfl) k) ?_
    show G T140 (mkF m 171 ls142 [(.int d3)])
    refine step (fun t k => XS.aload X140.here hx rfl (hb hby at_171) (by rw [hls142]; rfl) rfl k) ?_
    show G T140 (mkF m 173 ls142 [(.ref b1), (.int d3)])
    refine step (fun t k => XS.iconst X140.here hx rfl (hb hby at_173) k) ?_
    show G T140 (mkF m 174 ls142 [(.int 4), (.ref b1), (.int d3)])
    refine step (fun t k => XS.iload X140.here hx rfl (hb hby at_174) (by rw [hls142]; rfl) k) ?_
    show G T140 (mkF m 176 ls142 [(.int 2), (.int 4), (.ref b1), (.int d3)])
    have hK143 := (backOf (R := room_1) (p := p) (e := e) (below := below) (s := s) (args := #[(.int p0), (.long q1), (.int p2), (.int p3)]) (len := 3) (W := 1) (rm_v4 l Z a0 hw [] w_COMPACT_STRINGS w_SIOOBE_FORMATTER b1 (2 : Int32) k1 x0 x1 (123 : Int32) x3 x4 x5 T124.heap n0 (own_old_le O124) ST O124 f131) hZ (ww41 hw) (ww3 hw) (by decide) (by decide))
    obtain ⟨_, _, ⟨T143, L143, k143, n143⟩, -, X143, ⟨Lc143, hQ143, l143, y143, z143⟩, st143⟩ := Jvm.LawKit.callS X140 hx (y := y_1) hown (mvT hZ (ww39 hw)) (mvT hZ (ww40 hw)) (mvT hZ (ww3 hw)) (mvT hZ (ww41 hw)) (by decide) hK143 (g := (mkF m 176 ls142 [(.int 2), (.int 4), (.ref b1), (.int d3)])) rfl (by rw [hml, hls142]; rfl) (argsL := [(.ref b1), (.int 4), (.int 2)]) (rest := [(.int d3)]) (lenOf pd_4 rfl) rfl (by show 2 * 0 + _ ≤ _; exact Nat.le_of_eq rfl) (hb hby at_176) (fun _ _ => ⟨rfl, e140, (by decide : 3 + 0 ≤ _), (by decide : 16 + 0 ≤ _)⟩)
    dsimp only [Pt.U, Pt.locs, Pt.cells, Pt.slots] at X143 l143 y143 z143 st143 hQ143
    subst l143 y143 z143
    obtain ⟨rfl, N143q, e143⟩ := hQ143
    have N143 := Fr.app N140 N143q
    obtain ⟨lc143, X143, N143⟩ := own_gen X143 N143
    refine step (fun t k => st143 t k) ?_
    show G T143 (mkF m 179 ls142 [(.int (f_v4 w_COMPACT_STRINGS w_SIOOBE_FORMATTER b1 (2 : Int32) k1 x0 x1 (123 : Int32) x3 x4 x5)), (.int d3)])
    refine step (fun t k => XS.iadd X143.here hx rfl (hb hby at_179) rfl k) ?_
    show G T143 (mkF m 180 ls142 [(.int (d3 + (f_v4 w_COMPACT_STRINGS w_SIOOBE_FORMATTER b1 (2 : Int32) k1 x0 x1 (123 : Int32) x3 x4 x5)))])
    obtain ⟨ls144, hls144⟩  := own_sl #[.val (.int p0), .val (.long q1), .second, .val (.int p2), .val (.int p3), .val (.ref b1), .val (.int 2), .val (.int tt), .val (.ref b122), .val (.int (own_go [x0, x1, (123 : Int32), x3, x4, x5] NN (NN - 2) 2 0)), .val (.int d0), .val (.int d1), .val (.int d2), .val (.int d3), .val (.int (d3 + (f_v4 w_COMPACT_STRINGS w_SIOOBE_FORMATTER b1 (2 : Int32) k1 x0 x1 (123 : Int32) x3 x4 x5))), .unset, .unset]
    refine step (fun t k => XS.istore X143.here hx rfl (hb hby at_180) rfl (l' := ls144) (by rw [hls142, hls144]; rfl) k) ?_
    show G T143 (mkF m 182 ls144 [])
    obtain ⟨d4, hd4⟩ : ∃ z : Int32, z = (d3 + (f_v4 w_COMPACT_STRINGS w_SIOOBE_FORMATTER b1 (2 : Int32) k1 x0 x1 (123 : Int32) x3 x4 x5)) := ⟨_, rfl⟩
    obtain ⟨ls145, hls145⟩  := own_sl #[.val (.int p0), .val (.long q1), .second, .val (.int p2), .val (.int p3), .val (.ref b1), .val (.int 2), .val (.int tt), .val (.ref b122), .val (.int (own_go [x0, x1, (123 : Int32), x3, x4, x5] NN (NN - 2) 2 0)), .val (.int d0), .val (.int d1), .val (.int d2), .val (.int d3), .val (.int d4), .unset, .unset]
    rw [show ls144 = ls145 from by rw [hls144, hls145, hd4]]
    show G T143 (mkF m 182 ls145 [])
    have hv4 : d4 = d3 + own_vv x4 := by rw [hd4]; unfold f_v4; rw [if_neg (by decide)]; rfl
    refine step (fun t k => XS.iload X143.here hx rfl (hb hby at_182) (by rw [hls145]; rfl) k) ?_
    show G T143 (mkF m 184 ls145 [(.int d4)])
    refine step (fun t k => XS.aload X143.here hx rfl (hb hby at_184) (by rw [hls145]; rfl) rfl k) ?_
    show G T143 (mkF m 186 ls145 [(.ref b1), (.int d4)])
    refine step (fun t k => XS.iconst X143.here hx rfl (hb hby at_186) k) ?_
    show G T143 (mkF m 187 ls145 [(.int 5), (.ref b1), (.int d4)])
    refine step (fun t k => XS.iload X143.here hx rfl (hb hby at_187) (by rw [hls145]; rfl) k) ?_
    show G T143 (mkF m 189 ls145 [(.int 2), (.int 5), (.ref b1), (.int d4)])
    have hK146 := (backOf (R := room_1) (p := p) (e := e) (below := below) (s := s) (args := #[(.int p0), (.long q1), (.int p2), (.int p3)]) (len := 3) (W := 1) (rm_v5 l Z a0 hw [] w_COMPACT_STRINGS w_SIOOBE_FORMATTER b1 (2 : Int32) k1 x0 x1 (123 : Int32) x3 x4 x5 T124.heap n0 (own_old_le O124) ST O124 f131) hZ (ww41 hw) (ww3 hw) (by decide) (by decide))
    obtain ⟨_, _, ⟨T146, L146, k146, n146⟩, -, X146, ⟨Lc146, hQ146, l146, y146, z146⟩, st146⟩ := Jvm.LawKit.callS X143 hx (y := y_1) hown (mvT hZ (ww39 hw)) (mvT hZ (ww40 hw)) (mvT hZ (ww3 hw)) (mvT hZ (ww41 hw)) (by decide) hK146 (g := (mkF m 189 ls145 [(.int 2), (.int 5), (.ref b1), (.int d4)])) rfl (by rw [hml, hls145]; rfl) (argsL := [(.ref b1), (.int 5), (.int 2)]) (rest := [(.int d4)]) (lenOf pd_4 rfl) rfl (by show 2 * 0 + _ ≤ _; exact Nat.le_of_eq rfl) (hb hby at_189) (fun _ _ => ⟨rfl, e143, (by decide : 3 + 0 ≤ _), (by decide : 16 + 0 ≤ _)⟩)
    dsimp only [Pt.U, Pt.locs, Pt.cells, Pt.slots] at X146 l146 y146 z146 st146 hQ146
    subst l146 y146 z146
    obtain ⟨rfl, N146q, e146⟩ := hQ146
    have N146 := Fr.app N143 N146q
    obtain ⟨lc146, X146, N146⟩ := own_gen X146 N146
    refine step (fun t k => st146 t k) ?_
    show G T146 (mkF m 192 ls145 [(.int (f_v5 w_COMPACT_STRINGS w_SIOOBE_FORMATTER b1 (2 : Int32) k1 x0 x1 (123 : Int32) x3 x4 x5)), (.int d4)])
    refine step (fun t k => XS.iadd X146.here hx rfl (hb hby at_192) rfl k) ?_
    show G T146 (mkF m 193 ls145 [(.int (d4 + (f_v5 w_COMPACT_STRINGS w_SIOOBE_FORMATTER b1 (2 : Int32) k1 x0 x1 (123 : Int32) x3 x4 x5)))])
    obtain ⟨ls147, hls147⟩  := own_sl #[.val (.int p0), .val (.long q1), .second, .val (.int p2), .val (.int p3), .val (.ref b1), .val (.int 2), .val (.int tt), .val (.ref b122), .val (.int (own_go [x0, x1, (123 : Int32), x3, x4, x5] NN (NN - 2) 2 0)), .val (.int d0), .val (.int d1), .val (.int d2), .val (.int d3), .val (.int d4), .val (.int (d4 + (f_v5 w_COMPACT_STRINGS w_SIOOBE_FORMATTER b1 (2 : Int32) k1 x0 x1 (123 : Int32) x3 x4 x5))), .unset]
    refine step (fun t k => XS.istore X146.here hx rfl (hb hby at_193) rfl (l' := ls147) (by rw [hls145, hls147]; rfl) k) ?_
    show G T146 (mkF m 195 ls147 [])
    obtain ⟨d5, hd5⟩ : ∃ z : Int32, z = (d4 + (f_v5 w_COMPACT_STRINGS w_SIOOBE_FORMATTER b1 (2 : Int32) k1 x0 x1 (123 : Int32) x3 x4 x5)) := ⟨_, rfl⟩
    obtain ⟨ls148, hls148⟩  := own_sl #[.val (.int p0), .val (.long q1), .second, .val (.int p2), .val (.int p3), .val (.ref b1), .val (.int 2), .val (.int tt), .val (.ref b122), .val (.int (own_go [x0, x1, (123 : Int32), x3, x4, x5] NN (NN - 2) 2 0)), .val (.int d0), .val (.int d1), .val (.int d2), .val (.int d3), .val (.int d4), .val (.int d5), .unset]
    rw [show ls147 = ls148 from by rw [hls147, hls148, hd5]]
    show G T146 (mkF m 195 ls148 [])
    have hv5 : d5 = d4 + own_vv x5 := by rw [hd5]; unfold f_v5; rw [if_neg (by decide)]; rfl
    refine step (fun t k => XS.aload X146.here hx rfl (hb hby at_195) (by rw [hls148]; rfl) rfl k) ?_
    show G T146 (mkF m 197 ls148 [(.ref b1)])
    refine step (fun t k => XS.iconst X146.here hx rfl (hb hby at_197) k) ?_
    show G T146 (mkF m 198 ls148 [(.int 0), (.ref b1)])
    refine step (fun t k => XS.iload X146.here hx rfl (hb hby at_198) (by rw [hls148]; rfl) k) ?_
    show G T146 (mkF m 200 ls148 [(.int 2), (.int 0), (.ref b1)])
    refine step (fun t k => XS.iload X146.here hx rfl (hb hby at_200) (by rw [hls148]; rfl) k) ?_
    show G T146 (mkF m 202 ls148 [(.int tt), (.int 2), (.int 0), (.ref b1)])
    refine step (fun t k => XS.iload X146.here hx rfl (hb hby at_202) (by rw [hls148]; rfl) k) ?_
    show G T146 (mkF m 204 ls148 [(.int d0), (.int tt), (.int 2), (.int 0), (.ref b1)])
    have hK149 := (backOf (R := room_1) (p := p) (e := e) (below := below) (s := s) (args := #[(.int p0), (.long q1), (.int p2), (.int p3)]) (len := 3) (W := 0) (rm_h0 l Z a0 hw [] w_COMPACT_STRINGS w_SIOOBE_FORMATTER b1 (2 : Int32) tt d0 k1 x0 x1 (123 : Int32) x3 x4 x5 T124.heap n0 (own_old_le O124) ST O124 f131) hZ (ww44 hw) (ww3 hw) (by decide) (by decide))
    obtain ⟨_, _, ⟨T149, L149, k149, n149⟩, -, X149, ⟨Lc149, hQ149, l149, y149, z149⟩, st149⟩ := Jvm.LawKit.callS X146 hx (y := y_2) hown (mvT hZ (ww42 hw)) (mvT hZ (ww43 hw)) (mvT hZ (ww3 hw)) (mvT hZ (ww44 hw)) (by decide) hK149 (g := (mkF m 204 ls148 [(.int d0), (.int tt), (.int 2), (.int 0), (.ref b1)])) rfl (by rw [hml, hls148]; rfl) (argsL := [(.ref b1), (.int 0), (.int 2), (.int tt), (.int d0)]) (rest := []) (lenOf pd_5 rfl) rfl (by show 2 * 0 + _ ≤ _; exact Nat.le_of_eq rfl) (hb hby at_204) (fun _ _ => ⟨rfl, e146, (by decide : 3 + 0 ≤ _), (by decide : 16 + 0 ≤ _)⟩)
    dsimp only [Pt.U, Pt.locs, Pt.cells, Pt.slots] at X149 l149 y149 z149 st149 hQ149
    subst l149 y149 z149
    obtain ⟨rfl, N149q, e149⟩ := hQ149
    have N149 := Fr.app N146 N149q
    obtain ⟨lc149, X149, N149⟩ := own_gen X149 N149
    refine step (fun t k => st149 t k) ?_
    show G T149 (mkF m 207 ls148 [(.int (f_h0 w_COMPACT_STRINGS w_SIOOBE_FORMATTER b1 (2 : Int32) tt d0 k1 x0 x1 (123 : Int32) x3 x4 x5))])
    refine step (fun t k => XS.ifYes X149.here hx rfl (pc0 := 207) (pc' := 216) rfl (hb hby at_207) rfl ((if0 _ _).trans (teq (by unfold f_h0; rw [if_pos (by decide)])).1) (by decide) (by decide) k) ?_
    show G T149 (mkF m 216 ls148 [])
    refine step (fun t k => XS.aload X149.here hx rfl (hb hby at_216) (by rw [hls148]; rfl) rfl k) ?_
    show G T149 (mkF m 218 ls148 [(.ref b1)])
    refine step (fun t k => XS.iconst X149.here hx rfl (hb hby at_218) k) ?_
    show G T149 (mkF m 219 ls148 [(.int 1), (.ref b1)])
    refine step (fun t k => XS.iload X149.here hx rfl (hb hby at_219) (by rw [hls148]; rfl) k) ?_
    show G T149 (mkF m 221 ls148 [(.int 2), (.int 1), (.ref b1)])
    refine step (fun t k => XS.iload X149.here hx rfl (hb hby at_221) (by rw [hls148]; rfl) k) ?_
    show G T149 (mkF m 223 ls148 [(.int tt), (.int 2), (.int 1), (.ref b1)])
    refine step (fun t k => XS.iload X149.here hx rfl (hb hby at_223) (by rw [hls148]; rfl) k) ?_
    show G T149 (mkF m 225 ls148 [(.int d1), (.int tt), (.int 2), (.int 1), (.ref b1)])
    have hK150 := (backOf (R := room_1) (p := p) (e := e) (below := below) (s := s) (args := #[(.int p0), (.long q1), (.int p2), (.int p3)]) (len := 3) (W := 0) (rm_h1 l Z a0 hw [] w_COMPACT_STRINGS w_SIOOBE_FORMATTER b1 (2 : Int32) tt d1 k1 x0 x1 (123 : Int32) x3 x4 x5 T124.heap n0 (own_old_le O124) ST O124 f131) hZ (ww44 hw) (ww3 hw) (by decide) (by decide))
    obtain ⟨_, _, ⟨T150, L150, k150, n150⟩, -, X150, ⟨Lc150, hQ150, l150, y150, z150⟩, st150⟩ := Jvm.LawKit.callS X149 hx (y := y_2) hown (mvT hZ (ww42 hw)) (mvT hZ (ww43 hw)) (mvT hZ (ww3 hw)) (mvT hZ (ww44 hw)) (by decide) hK150 (g := (mkF m 225 ls148 [(.int d1), (.int tt), (.int 2), (.int 1), (.ref b1)])) rfl (by rw [hml, hls148]; rfl) (argsL := [(.ref b1), (.int 1), (.int 2), (.int tt), (.int d1)]) (rest := []) (lenOf pd_5 rfl) rfl (by show 2 * 0 + _ ≤ _; exact Nat.le_of_eq rfl) (hb hby at_225) (fun _ _ => ⟨rfl, e149, (by decide : 3 + 0 ≤ _), (by decide : 16 + 0 ≤ _)⟩)
    dsimp only [Pt.U, Pt.locs, Pt.cells, Pt.slots] at X150 l150 y150 z150 st150 hQ150
    subst l150 y150 z150
    obtain ⟨rfl, N150q, e150⟩ := hQ150
    have N150 := Fr.app N149 N150q
    obtain ⟨lc150, X150, N150⟩ := own_gen X150 N150
    refine step (fun t k => st150 t k) ?_
    show G T150 (mkF m 228 ls148 [(.int (f_h1 w_COMPACT_STRINGS w_SIOOBE_FORMATTER b1 (2 : Int32) tt d1 k1 x0 x1 (123 : Int32) x3 x4 x5))])
    refine step (fun t k => XS.ifYes X150.here hx rfl (pc0 := 228) (pc' := 237) rfl (hb hby at_228) rfl ((if0 _ _).trans (teq (by unfold f_h1; rw [if_pos (by decide)])).1) (by decide) (by decide) k) ?_
    show G T150 (mkF m 237 ls148 [])
    refine step (fun t k => XS.aload X150.here hx rfl (hb hby at_237) (by rw [hls148]; rfl) rfl k) ?_
    show G T150 (mkF m 239 ls148 [(.ref b1)])
    refine step (fun t k => XS.iconst X150.here hx rfl (hb hby at_239) k) ?_
    show G T150 (mkF m 240 ls148 [(.int 2), (.ref b1)])
    refine step (fun t k => XS.iload X150.here hx rfl (hb hby at_240) (by rw [hls148]; rfl) k) ?_
    show G T150 (mkF m 242 ls148 [(.int 2), (.int 2), (.ref b1)])
    refine step (fun t k => XS.iload X150.here hx rfl (hb hby at_242) (by rw [hls148]; rfl) k) ?_
    show G T150 (mkF m 244 ls148 [(.int tt), (.int 2), (.int 2), (.ref b1)])
    refine step (fun t k => XS.iload X150.here hx rfl (hb hby at_244) (by rw [hls148]; rfl) k) ?_
    show G T150 (mkF m 246 ls148 [(.int d2), (.int tt), (.int 2), (.int 2), (.ref b1)])
    have hK151 := (backOf (R := room_1) (p := p) (e := e) (below := below) (s := s) (args := #[(.int p0), (.long q1), (.int p2), (.int p3)]) (len := 3) (W := 0) (rm_h2 l Z a0 hw [] w_COMPACT_STRINGS w_SIOOBE_FORMATTER b1 (2 : Int32) tt d2 k1 x0 x1 (123 : Int32) x3 x4 x5 T124.heap n0 (own_old_le O124) ST O124 f131) hZ (ww44 hw) (ww3 hw) (by decide) (by decide))
    obtain ⟨_, _, ⟨T151, L151, k151, n151⟩, -, X151, ⟨Lc151, hQ151, l151, y151, z151⟩, st151⟩ := Jvm.LawKit.callS X150 hx (y := y_2) hown (mvT hZ (ww42 hw)) (mvT hZ (ww43 hw)) (mvT hZ (ww3 hw)) (mvT hZ (ww44 hw)) (by decide) hK151 (g := (mkF m 246 ls148 [(.int d2), (.int tt), (.int 2), (.int 2), (.ref b1)])) rfl (by rw [hml, hls148]; rfl) (argsL := [(.ref b1), (.int 2), (.int 2), (.int tt), (.int d2)]) (rest := []) (lenOf pd_5 rfl) rfl (by show 2 * 0 + _ ≤ _; exact Nat.le_of_eq rfl) (hb hby at_246) (fun _ _ => ⟨rfl, e150, (by decide : 3 + 0 ≤ _), (by decide : 16 + 0 ≤ _)⟩)
    dsimp only [Pt.U, Pt.locs, Pt.cells, Pt.slots] at X151 l151 y151 z151 st151 hQ151
    subst l151 y151 z151
    obtain ⟨rfl, N151q, e151⟩ := hQ151
    have N151 := Fr.app N150 N151q
    obtain ⟨lc151, X151, N151⟩ := own_gen X151 N151
    refine step (fun t k => st151 t k) ?_
    show G T151 (mkF m 249 ls148 [(.int (f_h2 w_COMPACT_STRINGS w_SIOOBE_FORMATTER b1 (2 : Int32) tt d2 k1 x0 x1 (123 : Int32) x3 x4 x5))])
    by_cases hc152 : (f_h2 w_COMPACT_STRINGS w_SIOOBE_FORMATTER b1 (2 : Int32) tt d2 k1 x0 x1 (123 : Int32) x3 x4 x5) = (0 : Int32)
    · skip
      refine step (fun t k => XS.ifYes X151.here hx rfl (pc0 := 249) (pc' := 258) rfl (hb hby at_249) rfl ((if0 _ _).trans (teq hc152).1) (by decide) (by decide) k) ?_
      show G T151 (mkF m 258 ls148 [])
      refine step (fun t k => XS.aload X151.here hx rfl (hb hby at_258) (by rw [hls148]; rfl) rfl k) ?_
      show G T151 (mkF m 260 ls148 [(.ref b1)])
      refine step (fun t k => XS.iconst X151.here hx rfl (hb hby at_260) k) ?_
      show G T151 (mkF m 261 ls148 [(.int 3), (.ref b1)])
      refine step (fun t k => XS.iload X151.here hx rfl (hb hby at_261) (by rw [hls148]; rfl) k) ?_
      show G T151 (mkF m 263 ls148 [(.int 2), (.int 3), (.ref b1)])
      refine step (fun t k => XS.iload X151.here hx rfl (hb hby at_263) (by rw [hls148]; rfl) k) ?_
      show G T151 (mkF m 265 ls148 [(.int tt), (.int 2), (.int 3), (.ref b1)])
      refine step (fun t k => XS.iload X151.here hx rfl (hb hby at_265) (by rw [hls148]; rfl) k) ?_
      show G T151 (mkF m 267 ls148 [(.int d3), (.int tt), (.int 2), (.int 3), (.ref b1)])
      have hK153 := (backOf (R := room_1) (p := p) (e := e) (below := below) (s := s) (args := #[(.int p0), (.long q1), (.int p2), (.int p3)]) (len := 3) (W := 0) (rm_h3 l Z a0 hw [] w_COMPACT_STRINGS w_SIOOBE_FORMATTER b1 (2 : Int32) tt d3 k1 x0 x1 (123 : Int32) x3 x4 x5 T124.heap n0 (own_old_le O124) ST O124 f131) hZ (ww44 hw) (ww3 hw) (by decide) (by decide))
      obtain ⟨_, _, ⟨T153, L153, k153, n153⟩, -, X153, ⟨Lc153, hQ153, l153, y153, z153⟩, st153⟩ := Jvm.LawKit.callS X151 hx (y := y_2) hown (mvT hZ (ww42 hw)) (mvT hZ (ww43 hw)) (mvT hZ (ww3 hw)) (mvT hZ (ww44 hw)) (by decide) hK153 (g := (mkF m 267 ls148 [(.int d3), (.int tt), (.int 2), (.int 3), (.ref b1)])) rfl (by rw [hml, hls148]; rfl) (argsL := [(.ref b1), (.int 3), (.int 2), (.int tt), (.int d3)]) (rest := []) (lenOf pd_5 rfl) rfl (by show 2 * 0 + _ ≤ _; exact Nat.le_of_eq rfl) (hb hby at_267) (fun _ _ => ⟨rfl, e151, (by decide : 3 + 0 ≤ _), (by decide : 16 + 0 ≤ _)⟩)
      dsimp only [Pt.U, Pt.locs, Pt.cells, Pt.slots] at X153 l153 y153 z153 st153 hQ153
      subst l153 y153 z153
      obtain ⟨rfl, N153q, e153⟩ := hQ153
      have N153 := Fr.app N151 N153q
      obtain ⟨lc153, X153, N153⟩ := own_gen X153 N153
      refine step (fun t k => st153 t k) ?_
      show G T153 (mkF m 270 ls148 [(.int (f_h3 w_COMPACT_STRINGS w_SIOOBE_FORMATTER b1 (2 : Int32) tt d3 k1 x0 x1 (123 : Int32) x3 x4 x5))])
      by_cases hc154 : (f_h3 w_COMPACT_STRINGS w_SIOOBE_FORMATTER b1 (2 : Int32) tt d3 k1 x0 x1 (123 : Int32) x3 x4 x5) = (0 : Int32)
      · skip
        refine step (fun t k => XS.ifYes X153.here hx rfl (pc0 := 270) (pc' := 279) rfl (hb hby at_270) rfl ((if0 _ _).trans (teq hc154).1) (by decide) (by decide) k) ?_
        show G T153 (mkF m 279 ls148 [])
        refine step (fun t k => XS.aload X153.here hx rfl (hb hby at_279) (by rw [hls148]; rfl) rfl k) ?_
        show G T153 (mkF m 281 ls148 [(.ref b1)])
        refine step (fun t k => XS.iconst X153.here hx rfl (hb hby at_281) k) ?_
        show G T153 (mkF m 282 ls148 [(.int 4), (.ref b1)])
        refine step (fun t k => XS.iload X153.here hx rfl (hb hby at_282) (by rw [hls148]; rfl) k) ?_
        show G T153 (mkF m 284 ls148 [(.int 2), (.int 4), (.ref b1)])
        refine step (fun t k => XS.iload X153.here hx rfl (hb hby at_284) (by rw [hls148]; rfl) k) ?_
        show G T153 (mkF m 286 ls148 [(.int tt), (.int 2), (.int 4), (.ref b1)])
        refine step (fun t k => XS.iload X153.here hx rfl (hb hby at_286) (by rw [hls148]; rfl) k) ?_
        show G T153 (mkF m 288 ls148 [(.int d4), (.int tt), (.int 2), (.int 4), (.ref b1)])
        have hK155 := (backOf (R := room_1) (p := p) (e := e) (below := below) (s := s) (args := #[(.int p0), (.long q1), (.int p2), (.int p3)]) (len := 3) (W := 0) (rm_h4 l Z a0 hw [] w_COMPACT_STRINGS w_SIOOBE_FORMATTER b1 (2 : Int32) tt d4 k1 x0 x1 (123 : Int32) x3 x4 x5 T124.heap n0 (own_old_le O124) ST O124 f131) hZ (ww44 hw) (ww3 hw) (by decide) (by decide))
        obtain ⟨_, _, ⟨T155, L155, k155, n155⟩, -, X155, ⟨Lc155, hQ155, l155, y155, z155⟩, st155⟩ := Jvm.LawKit.callS X153 hx (y := y_2) hown (mvT hZ (ww42 hw)) (mvT hZ (ww43 hw)) (mvT hZ (ww3 hw)) (mvT hZ (ww44 hw)) (by decide) hK155 (g := (mkF m 288 ls148 [(.int d4), (.int tt), (.int 2), (.int 4), (.ref b1)])) rfl (by rw [hml, hls148]; rfl) (argsL := [(.ref b1), (.int 4), (.int 2), (.int tt), (.int d4)]) (rest := []) (lenOf pd_5 rfl) rfl (by show 2 * 0 + _ ≤ _; exact Nat.le_of_eq rfl) (hb hby at_288) (fun _ _ => ⟨rfl, e153, (by decide : 3 + 0 ≤ _), (by decide : 16 + 0 ≤ _)⟩)
        dsimp only [Pt.U, Pt.locs, Pt.cells, Pt.slots] at X155 l155 y155 z155 st155 hQ155
        subst l155 y155 z155
        obtain ⟨rfl, N155q, e155⟩ := hQ155
        have N155 := Fr.app N153 N155q
        obtain ⟨lc155, X155, N155⟩ := own_gen X155 N155
        refine step (fun t k => st155 t k) ?_
        show G T155 (mkF m 291 ls148 [(.int (f_h4 w_COMPACT_STRINGS w_SIOOBE_FORMATTER b1 (2 : Int32) tt d4 k1 x0 x1 (123 : Int32) x3 x4 x5))])
        by_cases hc156 : (f_h4 w_COMPACT_STRINGS w_SIOOBE_FORMATTER b1 (2 : Int32) tt d4 k1 x0 x1 (123 : Int32) x3 x4 x5) = (0 : Int32)
        · skip
          refine step (fun t k => XS.ifYes X155.here hx rfl (pc0 := 291) (pc' := 300) rfl (hb hby at_291) rfl ((if0 _ _).trans (teq hc156).1) (by decide) (by decide) k) ?_
          show G T155 (mkF m 300 ls148 [])
          refine step (fun t k => XS.aload X155.here hx rfl (hb hby at_300) (by rw [hls148]; rfl) rfl k) ?_
          show G T155 (mkF m 302 ls148 [(.ref b1)])
          refine step (fun t k => XS.iconst X155.here hx rfl (hb hby at_302) k) ?_
          show G T155 (mkF m 303 ls148 [(.int 5), (.ref b1)])
          refine step (fun t k => XS.iload X155.here hx rfl (hb hby at_303) (by rw [hls148]; rfl) k) ?_
          show G T155 (mkF m 305 ls148 [(.int 2), (.int 5), (.ref b1)])
          refine step (fun t k => XS.iload X155.here hx rfl (hb hby at_305) (by rw [hls148]; rfl) k) ?_
          show G T155 (mkF m 307 ls148 [(.int tt), (.int 2), (.int 5), (.ref b1)])
          refine step (fun t k => XS.iload X155.here hx rfl (hb hby at_307) (by rw [hls148]; rfl) k) ?_
          show G T155 (mkF m 309 ls148 [(.int d5), (.int tt), (.int 2), (.int 5), (.ref b1)])
          have hK157 := (backOf (R := room_1) (p := p) (e := e) (below := below) (s := s) (args := #[(.int p0), (.long q1), (.int p2), (.int p3)]) (len := 3) (W := 0) (rm_h5 l Z a0 hw [] w_COMPACT_STRINGS w_SIOOBE_FORMATTER b1 (2 : Int32) tt d5 k1 x0 x1 (123 : Int32) x3 x4 x5 T124.heap n0 (own_old_le O124) ST O124 f131) hZ (ww44 hw) (ww3 hw) (by decide) (by decide))
          obtain ⟨_, _, ⟨T157, L157, k157, n157⟩, -, X157, ⟨Lc157, hQ157, l157, y157, z157⟩, st157⟩ := Jvm.LawKit.callS X155 hx (y := y_2) hown (mvT hZ (ww42 hw)) (mvT hZ (ww43 hw)) (mvT hZ (ww3 hw)) (mvT hZ (ww44 hw)) (by decide) hK157 (g := (mkF m 309 ls148 [(.int d5), (.int tt), (.int 2), (.int 5), (.ref b1)])) rfl (by rw [hml, hls148]; rfl) (argsL := [(.ref b1), (.int 5), (.int 2), (.int tt), (.int d5)]) (rest := []) (lenOf pd_5 rfl) rfl (by show 2 * 0 + _ ≤ _; exact Nat.le_of_eq rfl) (hb hby at_309) (fun _ _ => ⟨rfl, e155, (by decide : 3 + 0 ≤ _), (by decide : 16 + 0 ≤ _)⟩)
          dsimp only [Pt.U, Pt.locs, Pt.cells, Pt.slots] at X157 l157 y157 z157 st157 hQ157
          subst l157 y157 z157
          obtain ⟨rfl, N157q, e157⟩ := hQ157
          have N157 := Fr.app N155 N157q
          obtain ⟨lc157, X157, N157⟩ := own_gen X157 N157
          refine step (fun t k => st157 t k) ?_
          show G T157 (mkF m 312 ls148 [(.int (f_h5 w_COMPACT_STRINGS w_SIOOBE_FORMATTER b1 (2 : Int32) tt d5 k1 x0 x1 (123 : Int32) x3 x4 x5))])
          by_cases hc158 : (f_h5 w_COMPACT_STRINGS w_SIOOBE_FORMATTER b1 (2 : Int32) tt d5 k1 x0 x1 (123 : Int32) x3 x4 x5) = (0 : Int32)
          · skip
            refine step (fun t k => XS.ifYes X157.here hx rfl (pc0 := 312) (pc' := 321) rfl (hb hby at_312) rfl ((if0 _ _).trans (teq hc158).1) (by decide) (by decide) k) ?_
            show G T157 (mkF m 321 ls148 [])
            refine step (fun t k => XS.iload X157.here hx rfl (hb hby at_321) (by rw [hls148]; rfl) k) ?_
            show G T157 (mkF m 323 ls148 [(.int tt)])
            obtain ⟨ls159, hls159⟩  := own_sl #[.val (.int p0), .val (.long q1), .second, .val (.int p2), .val (.int p3), .val (.ref b1), .val (.int 2), .val (.int tt), .val (.ref b122), .val (.int (own_go [x0, x1, (123 : Int32), x3, x4, x5] NN (NN - 2) 2 0)), .val (.int d0), .val (.int d1), .val (.int d2), .val (.int d3), .val (.int d4), .val (.int d5), .val (.int tt)]
            refine step (fun t k => XS.istore X157.here hx rfl (hb hby at_323) rfl (l' := ls159) (by rw [hls148, hls159]; rfl) k) ?_
            show G T157 (mkF m 325 ls159 [])
            refine step (fun t k => XS.iload X157.here hx rfl (hb hby at_325) (by rw [hls159]; rfl) k) ?_
            show G T157 (mkF m 327 ls159 [(.int (own_go [x0, x1, (123 : Int32), x3, x4, x5] NN (NN - 2) 2 0))])
            refine step (fun t k => XS.iload X157.here hx rfl (hb hby at_327) (by rw [hls159]; rfl) k) ?_
            show G T157 (mkF m 329 ls159 [(.int tt), (.int (own_go [x0, x1, (123 : Int32), x3, x4, x5] NN (NN - 2) 2 0))])
            refine step (fun t k => XS.icmpNo X157.here hx rfl (hb hby at_329) rfl (teq ((own_fin2 x0 x1 (123 : Int32) x3 x4 x5 d2 d3 d4 d5 NN hKN hN6 hv2 hv3 hv4 hv5).trans (by rw [if_neg (own_hn2 (by decide) hNN hN6 hc152), if_neg (own_hn3 (by decide) hNN hN6 hc154), if_neg (own_hn4 (by decide) hNN hN6 hc156), if_neg (own_hn5 (by decide) hNN hN6 hc158)]; exact hNN.symm))).2 k) ?_
            show G T157 (mkF m 332 ls159 [])
            refine step (fun t k => XS.iconst X157.here hx rfl (hb hby at_332) k) ?_
            show G T157 (mkF m 333 ls159 [(.int 1)])
            refine step (fun t k => XS.goto X157.here hx rfl (pc0 := 333) (pc' := 337) rfl (hb hby at_333) (by decide) (by decide) k) ?_
            show G T157 (mkF m 337 ls159 [(.int 1)])
            exact ret (v := some (.int 1)) X157 (fun h => by rw [Bd.returns] at h; cases h) (fun fs hr => retN X157 hx (t := .boolean) Bd.returns (by simp) (hb hby at_337) hr) e157 ⟨rfl, N157⟩ (by decide) (by decide)
          · skip
            refine step (fun t k => XS.ifNo X157.here hx rfl (hb hby at_312) rfl ((if0 _ _).trans (feq hc158).1) k) ?_
            show G T157 (mkF m 315 ls148 [])
            refine step (fun t k => XS.iconst X157.here hx rfl (hb hby at_315) k) ?_
            show G T157 (mkF m 316 ls148 [(.int 5)])
            obtain ⟨ls160, hls160⟩  := own_sl #[.val (.int p0), .val (.long q1), .second, .val (.int p2), .val (.int p3), .val (.ref b1), .val (.int 2), .val (.int tt), .val (.ref b122), .val (.int (own_go [x0, x1, (123 : Int32), x3, x4, x5] NN (NN - 2) 2 0)), .val (.int d0), .val (.int d1), .val (.int d2), .val (.int d3), .val (.int d4), .val (.int d5), .val (.int 5)]
            refine step (fun t k => XS.istore X157.here hx rfl (hb hby at_316) rfl (l' := ls160) (by rw [hls148, hls160]; rfl) k) ?_
            show G T157 (mkF m 318 ls160 [])
            refine step (fun t k => XS.goto X157.here hx rfl (pc0 := 318) (pc' := 325) rfl (hb hby at_318) (by decide) (by decide) k) ?_
            show G T157 (mkF m 325 ls160 [])
            refine step (fun t k => XS.iload X157.here hx rfl (hb hby at_325) (by rw [hls160]; rfl) k) ?_
            show G T157 (mkF m 327 ls160 [(.int (own_go [x0, x1, (123 : Int32), x3, x4, x5] NN (NN - 2) 2 0))])
            refine step (fun t k => XS.iload X157.here hx rfl (hb hby at_327) (by rw [hls160]; rfl) k) ?_
            show G T157 (mkF m 329 ls160 [(.int 5), (.int (own_go [x0, x1, (123 : Int32), x3, x4, x5] NN (NN - 2) 2 0))])
            refine step (fun t k => XS.icmpNo X157.here hx rfl (hb hby at_329) rfl (teq ((own_fin2 x0 x1 (123 : Int32) x3 x4 x5 d2 d3 d4 d5 NN hKN hN6 hv2 hv3 hv4 hv5).trans (by rw [if_neg (own_hn2 (by decide) hNN hN6 hc152), if_neg (own_hn3 (by decide) hNN hN6 hc154), if_neg (own_hn4 (by decide) hNN hN6 hc156), if_pos (own_hy5 (by decide) hNN hN6 hc158)]))).2 k) ?_
            show G T157 (mkF m 332 ls160 [])
            refine step (fun t k => XS.iconst X157.here hx rfl (hb hby at_332) k) ?_
            show G T157 (mkF m 333 ls160 [(.int 1)])
            refine step (fun t k => XS.goto X157.here hx rfl (pc0 := 333) (pc' := 337) rfl (hb hby at_333) (by decide) (by decide) k) ?_
            show G T157 (mkF m 337 ls160 [(.int 1)])
            exact ret (v := some (.int 1)) X157 (fun h => by rw [Bd.returns] at h; cases h) (fun fs hr => retN X157 hx (t := .boolean) Bd.returns (by simp) (hb hby at_337) hr) e157 ⟨rfl, N157⟩ (by decide) (by decide)
        · skip
          refine step (fun t k => XS.ifNo X155.here hx rfl (hb hby at_291) rfl ((if0 _ _).trans (feq hc156).1) k) ?_
          show G T155 (mkF m 294 ls148 [])
          refine step (fun t k => XS.iconst X155.here hx rfl (hb hby at_294) k) ?_
          show G T155 (mkF m 295 ls148 [(.int 4)])
          obtain ⟨ls161, hls161⟩  := own_sl #[.val (.int p0), .val (.long q1), .second, .val (.int p2), .val (.int p3), .val (.ref b1), .val (.int 2), .val (.int tt), .val (.ref b122), .val (.int (own_go [x0, x1, (123 : Int32), x3, x4, x5] NN (NN - 2) 2 0)), .val (.int d0), .val (.int d1), .val (.int d2), .val (.int d3), .val (.int d4), .val (.int d5), .val (.int 4)]
          refine step (fun t k => XS.istore X155.here hx rfl (hb hby at_295) rfl (l' := ls161) (by rw [hls148, hls161]; rfl) k) ?_
          show G T155 (mkF m 297 ls161 [])
          refine step (fun t k => XS.goto X155.here hx rfl (pc0 := 297) (pc' := 325) rfl (hb hby at_297) (by decide) (by decide) k) ?_
          show G T155 (mkF m 325 ls161 [])
          refine step (fun t k => XS.iload X155.here hx rfl (hb hby at_325) (by rw [hls161]; rfl) k) ?_
          show G T155 (mkF m 327 ls161 [(.int (own_go [x0, x1, (123 : Int32), x3, x4, x5] NN (NN - 2) 2 0))])
          refine step (fun t k => XS.iload X155.here hx rfl (hb hby at_327) (by rw [hls161]; rfl) k) ?_
          show G T155 (mkF m 329 ls161 [(.int 4), (.int (own_go [x0, x1, (123 : Int32), x3, x4, x5] NN (NN - 2) 2 0))])
          refine step (fun t k => XS.icmpNo X155.here hx rfl (hb hby at_329) rfl (teq ((own_fin2 x0 x1 (123 : Int32) x3 x4 x5 d2 d3 d4 d5 NN hKN hN6 hv2 hv3 hv4 hv5).trans (by rw [if_neg (own_hn2 (by decide) hNN hN6 hc152), if_neg (own_hn3 (by decide) hNN hN6 hc154), if_pos (own_hy4 (by decide) hNN hN6 hc156)]))).2 k) ?_
          show G T155 (mkF m 332 ls161 [])
          refine step (fun t k => XS.iconst X155.here hx rfl (hb hby at_332) k) ?_
          show G T155 (mkF m 333 ls161 [(.int 1)])
          refine step (fun t k => XS.goto X155.here hx rfl (pc0 := 333) (pc' := 337) rfl (hb hby at_333) (by decide) (by decide) k) ?_
          show G T155 (mkF m 337 ls161 [(.int 1)])
          exact ret (v := some (.int 1)) X155 (fun h => by rw [Bd.returns] at h; cases h) (fun fs hr => retN X155 hx (t := .boolean) Bd.returns (by simp) (hb hby at_337) hr) e155 ⟨rfl, N155⟩ (by decide) (by decide)
      · skip
        refine step (fun t k => XS.ifNo X153.here hx rfl (hb hby at_270) rfl ((if0 _ _).trans (feq hc154).1) k) ?_
        show G T153 (mkF m 273 ls148 [])
        refine step (fun t k => XS.iconst X153.here hx rfl (hb hby at_273) k) ?_
        show G T153 (mkF m 274 ls148 [(.int 3)])
        obtain ⟨ls162, hls162⟩  := own_sl #[.val (.int p0), .val (.long q1), .second, .val (.int p2), .val (.int p3), .val (.ref b1), .val (.int 2), .val (.int tt), .val (.ref b122), .val (.int (own_go [x0, x1, (123 : Int32), x3, x4, x5] NN (NN - 2) 2 0)), .val (.int d0), .val (.int d1), .val (.int d2), .val (.int d3), .val (.int d4), .val (.int d5), .val (.int 3)]
        refine step (fun t k => XS.istore X153.here hx rfl (hb hby at_274) rfl (l' := ls162) (by rw [hls148, hls162]; rfl) k) ?_
        show G T153 (mkF m 276 ls162 [])
        refine step (fun t k => XS.goto X153.here hx rfl (pc0 := 276) (pc' := 325) rfl (hb hby at_276) (by decide) (by decide) k) ?_
        show G T153 (mkF m 325 ls162 [])
        refine step (fun t k => XS.iload X153.here hx rfl (hb hby at_325) (by rw [hls162]; rfl) k) ?_
        show G T153 (mkF m 327 ls162 [(.int (own_go [x0, x1, (123 : Int32), x3, x4, x5] NN (NN - 2) 2 0))])
        refine step (fun t k => XS.iload X153.here hx rfl (hb hby at_327) (by rw [hls162]; rfl) k) ?_
        show G T153 (mkF m 329 ls162 [(.int 3), (.int (own_go [x0, x1, (123 : Int32), x3, x4, x5] NN (NN - 2) 2 0))])
        refine step (fun t k => XS.icmpNo X153.here hx rfl (hb hby at_329) rfl (teq ((own_fin2 x0 x1 (123 : Int32) x3 x4 x5 d2 d3 d4 d5 NN hKN hN6 hv2 hv3 hv4 hv5).trans (by rw [if_neg (own_hn2 (by decide) hNN hN6 hc152), if_pos (own_hy3 (by decide) hNN hN6 hc154)]))).2 k) ?_
        show G T153 (mkF m 332 ls162 [])
        refine step (fun t k => XS.iconst X153.here hx rfl (hb hby at_332) k) ?_
        show G T153 (mkF m 333 ls162 [(.int 1)])
        refine step (fun t k => XS.goto X153.here hx rfl (pc0 := 333) (pc' := 337) rfl (hb hby at_333) (by decide) (by decide) k) ?_
        show G T153 (mkF m 337 ls162 [(.int 1)])
        exact ret (v := some (.int 1)) X153 (fun h => by rw [Bd.returns] at h; cases h) (fun fs hr => retN X153 hx (t := .boolean) Bd.returns (by simp) (hb hby at_337) hr) e153 ⟨rfl, N153⟩ (by decide) (by decide)
    · skip
      refine step (fun t k => XS.ifNo X151.here hx rfl (hb hby at_249) rfl ((if0 _ _).trans (feq hc152).1) k) ?_
      show G T151 (mkF m 252 ls148 [])
      refine step (fun t k => XS.iconst X151.here hx rfl (hb hby at_252) k) ?_
      show G T151 (mkF m 253 ls148 [(.int 2)])
      obtain ⟨ls163, hls163⟩  := own_sl #[.val (.int p0), .val (.long q1), .second, .val (.int p2), .val (.int p3), .val (.ref b1), .val (.int 2), .val (.int tt), .val (.ref b122), .val (.int (own_go [x0, x1, (123 : Int32), x3, x4, x5] NN (NN - 2) 2 0)), .val (.int d0), .val (.int d1), .val (.int d2), .val (.int d3), .val (.int d4), .val (.int d5), .val (.int 2)]
      refine step (fun t k => XS.istore X151.here hx rfl (hb hby at_253) rfl (l' := ls163) (by rw [hls148, hls163]; rfl) k) ?_
      show G T151 (mkF m 255 ls163 [])
      refine step (fun t k => XS.goto X151.here hx rfl (pc0 := 255) (pc' := 325) rfl (hb hby at_255) (by decide) (by decide) k) ?_
      show G T151 (mkF m 325 ls163 [])
      refine step (fun t k => XS.iload X151.here hx rfl (hb hby at_325) (by rw [hls163]; rfl) k) ?_
      show G T151 (mkF m 327 ls163 [(.int (own_go [x0, x1, (123 : Int32), x3, x4, x5] NN (NN - 2) 2 0))])
      refine step (fun t k => XS.iload X151.here hx rfl (hb hby at_327) (by rw [hls163]; rfl) k) ?_
      show G T151 (mkF m 329 ls163 [(.int 2), (.int (own_go [x0, x1, (123 : Int32), x3, x4, x5] NN (NN - 2) 2 0))])
      refine step (fun t k => XS.icmpNo X151.here hx rfl (hb hby at_329) rfl (teq ((own_fin2 x0 x1 (123 : Int32) x3 x4 x5 d2 d3 d4 d5 NN hKN hN6 hv2 hv3 hv4 hv5).trans (by rw [if_pos (own_hy2 (by decide) hNN hN6 hc152)]))).2 k) ?_
      show G T151 (mkF m 332 ls163 [])
      refine step (fun t k => XS.iconst X151.here hx rfl (hb hby at_332) k) ?_
      show G T151 (mkF m 333 ls163 [(.int 1)])
      refine step (fun t k => XS.goto X151.here hx rfl (pc0 := 333) (pc' := 337) rfl (hb hby at_333) (by decide) (by decide) k) ?_
      show G T151 (mkF m 337 ls163 [(.int 1)])
      exact ret (v := some (.int 1)) X151 (fun h => by rw [Bd.returns] at h; cases h) (fun fs hr => retN X151 hx (t := .boolean) Bd.returns (by simp) (hb hby at_337) hr) e151 ⟨rfl, N151⟩ (by decide) (by decide)
  · skip
    obtain ⟨ls164, hls164⟩  := own_sl #[.val (.int p0), .val (.long q1), .second, .val (.int p2), .val (.int p3), .val (.ref b1), .val (.int 3), .unset, .unset, .unset, .unset, .unset, .unset, .unset, .unset, .unset, .unset]
    rw [show ls16 = ls164 from by rw [hls16, hls164, hO]]
    show G T14 (mkF m 75 ls164 [])
    refine step (fun t k => XS.iload X14.here hx rfl (hb hby at_75) (by rw [hls164]; rfl) k) ?_
    show G T14 (mkF m 77 ls164 [(.int 3)])
    refine step (fun t k => XS.iload X14.here hx rfl (hb hby at_77) (by rw [hls164]; rfl) k) ?_
    show G T14 (mkF m 79 ls164 [(.int p3), (.int 3)])
    have q165 := X14.ldcInt hx hown (mvT hZ (ww5 hw)) (g := (mkF m 79 ls164 [(.int p3), (.int 3)])) rfl (hb hby at_79)
    refine step q165 ?_
    show G T14 (mkF m 81 ls164 [(.int 2147483647), (.int p3), (.int 3)])
    refine step (fun t k => XS.iand X14.here hx rfl (hb hby at_81) rfl k) ?_
    show G T14 (mkF m 82 ls164 [(.int (p3 &&& (2147483647 : Int32))), (.int 3)])
    refine step (fun t k => XS.bipush X14.here hx rfl (hb hby at_82) k) ?_
    show G T14 (mkF m 84 ls164 [(.int 7), (.int (p3 &&& (2147483647 : Int32))), (.int 3)])
    refine step (fun t k => XS.iload X14.here hx rfl (hb hby at_84) (by rw [hls164]; rfl) k) ?_
    show G T14 (mkF m 86 ls164 [(.int 3), (.int 7), (.int (p3 &&& (2147483647 : Int32))), (.int 3)])
    refine step (fun t k => XS.isub X14.here hx rfl (hb hby at_86) rfl k) ?_
    show G T14 (mkF m 87 ls164 [(.int ((7 : Int32) - (3 : Int32))), (.int (p3 &&& (2147483647 : Int32))), (.int 3)])
    rw [(by decide : ((7 : Int32) - (3 : Int32)) = (4 : Int32))]
    show G T14 (mkF m 87 ls164 [(.int 4), (.int (p3 &&& (2147483647 : Int32))), (.int 3)])
    refine step (fun t k => iremM X14 hx rfl (hb hby at_87) rfl (by decide) k) ?_
    show G T14 (mkF m 88 ls164 [(.int ((p3 &&& (2147483647 : Int32)) % (4 : Int32))), (.int 3)])
    refine step (fun t k => XS.iadd X14.here hx rfl (hb hby at_88) rfl k) ?_
    show G T14 (mkF m 89 ls164 [(.int ((3 : Int32) + ((p3 &&& (2147483647 : Int32)) % (4 : Int32))))])
    obtain ⟨ls166, hls166⟩  := own_sl #[.val (.int p0), .val (.long q1), .second, .val (.int p2), .val (.int p3), .val (.ref b1), .val (.int 3), .val (.int ((3 : Int32) + ((p3 &&& (2147483647 : Int32)) % (4 : Int32)))), .unset, .unset, .unset, .unset, .unset, .unset, .unset, .unset, .unset]
    refine step (fun t k => XS.istore X14.here hx rfl (hb hby at_89) rfl (l' := ls166) (by rw [hls164, hls166]; rfl) k) ?_
    show G T14 (mkF m 91 ls166 [])
    obtain ⟨tt, htt⟩ : ∃ z : Int32, z = ((3 : Int32) + ((p3 &&& (2147483647 : Int32)) % (4 : Int32))) := ⟨_, rfl⟩
    obtain ⟨ls167, hls167⟩  := own_sl #[.val (.int p0), .val (.long q1), .second, .val (.int p2), .val (.int p3), .val (.ref b1), .val (.int 3), .val (.int tt), .unset, .unset, .unset, .unset, .unset, .unset, .unset, .unset, .unset]
    rw [show ls166 = ls167 from by rw [hls166, hls167, htt]]
    show G T14 (mkF m 91 ls167 [])
    obtain ⟨NN, hNN, hKN, hN6⟩ := own_to3 p3 tt htt
    refine step (fun t k => XS.aload X14.here hx rfl (hb hby at_91) (by rw [hls167]; rfl) rfl k) ?_
    show G T14 (mkF m 93 ls167 [(.ref b1)])
    refine step (fun t k => XS.iload X14.here hx rfl (hb hby at_93) (by rw [hls167]; rfl) k) ?_
    show G T14 (mkF m 95 ls167 [(.int 3), (.ref b1)])
    refine step (fun t k => XS.bipush X14.here hx rfl (hb hby at_95) k) ?_
    show G T14 (mkF m 97 ls167 [(.int 123), (.int 3), (.ref b1)])
    obtain ⟨T168, h168, X168, e168, W168, V168, st168⟩ := own_stC X14 hx hZ e14 V14 (j := (3 : Int32)) (by decide) (i := 3) rfl (by show 3 < 6; decide) (g := (mkF m 97 ls167 [(.int 123), (.int 3), (.ref b1)])) rfl rfl (hb hby at_97)
    replace V168 : Arv Z h168 b1 k1 .char (6 : Int32) [(.int x0), (.int x1), (.int x2), (.int 123), (.int x4), (.int x5)] (.int 0) := by rw [own_narc (by decide : ¬ (123 : Int32) < 0 ∧ ¬ (255 : Int32) < (123 : Int32))] at V168; exact V168
    have N168 := Fr.snoc X168 N14 ge_b1
    obtain ⟨lc168, X168, N168⟩ := own_gen X168 N168
    have O168 := O14.wr W168 ge_b1
    refine step st168 ?_
    show G T168 (mkF m 98 ls167 [])
    have f170 := (Exa.wr W168 (Exa.wr W14 (Exa.wr W12 (Exa.wr W10 (Exa.wr W8 (Exa.wr W6 (Exa.wr W4 B1)))))))
    obtain ⟨T169, h169, X169, e169, E169, A169, D169, -, st169⟩ := newO X168 hx hZ hown (ww6 hw) (ww7 hw) (ww8 hw) e168 (g := (mkF m 98 ls167 [])) rfl (hb hby at_98) (by decide) (by decide)
    obtain ⟨b169, g169⟩ : ∃ z, z = h168.size := ⟨_, rfl⟩
    rw [← g169] at A169 D169 st169
    have ge_b169 : n0 ≤ b169 := Nat.le_trans (own_old_le O168) (Nat.le_of_eq g169.symm)
    have lt_b1_b169 : b1 < b169 := Nat.lt_of_lt_of_le f170.lt (Nat.le_of_eq g169.symm)
    have O169 := O168.ext E169
    have F169_coder : Fld Z h169 b169 cn_1 "coder" "B" (.int 0) := D169 (Or.inr (ww32 hw)) (ty := .byte) (by decide)
    have F169_value : Fld Z h169 b169 cn_1 "value" "[B" .null := D169 (Or.inr (ww34 hw)) (ty := (.array .byte)) (by decide)
    refine step st169 ?_
    show G T169 (mkF m 101 ls167 [(.ref b169)])
    refine step (fun t k => XS.dup X169.here hx rfl (hb hby at_101) rfl rfl k) ?_
    show G T169 (mkF m 102 ls167 [(.ref b169), (.ref b169)])
    refine step (fun t k => XS.aload X169.here hx rfl (hb hby at_102) (by rw [hls167]; rfl) rfl k) ?_
    show G T169 (mkF m 104 ls167 [(.ref b1), (.ref b169), (.ref b169)])
    have f172 := (V168.ext E169)
    have f173 := (Exa.ext E169 f170)
    have hK171 := (StrChars.Road.backV (l := l) (R := room_1) (p := p) (e := e) (below := below) (s := s) (args := #[(.int p0), (.long q1), (.int p2), (.int p3)]) (len := 3) (W := 1) hZ (own_hwV hw) (kI := 4) (ww7 hw) (cs := [x0, x1, x2, (123 : Int32), x4, x5]) (bs := [(x0.toInt8.toInt32), (x1.toInt8.toInt32), (x2.toInt8.toInt32), ((123 : Int32).toInt8.toInt32), (x4.toInt8.toInt32), (x5.toInt8.toInt32)]) (n := 6) ge_b169 (own_old_le O169) A169 F169_value F169_coder f172 (Sta.ext O169.2 ST.k0) ST.k3 rfl rfl (by decide) (by decide) (List.forall_mem_cons.mpr ⟨lx0, (List.forall_mem_cons.mpr ⟨lx1, (List.forall_mem_cons.mpr ⟨lx2, (List.forall_mem_cons.mpr ⟨(by decide : ¬ (123 : Int32) < 0 ∧ ¬ (255 : Int32) < (123 : Int32)), (List.forall_mem_cons.mpr ⟨lx4, (List.forall_mem_cons.mpr ⟨lx5, (fun _ h => nomatch h)⟩)⟩)⟩)⟩)⟩)⟩) rfl (by decide) (by decide))
    obtain ⟨_, _, ⟨T171, L171, k171, n171⟩, -, X171, ⟨Lc171, hQ171, l171, y171, z171⟩, st171⟩ := X169.specialBack hx (y := y_5) rfl hown (mvT hZ (ww9 hw)) (mvT hZ (ww10 hw)) (mvT hZ (ww11 hw)) (by decide) hK171 (g := (mkF m 104 ls167 [(.ref b1), (.ref b169), (.ref b169)])) rfl (by rw [hml, hls167]; rfl) (Steps.refl _) (a := b169) (argsL := [(.ref b1)]) (rest := [(.ref b169)]) (lenOf pd_2 rfl) rfl (by show 2 * 0 + _ ≤ _; exact Nat.le_of_eq rfl) (hb hby at_104) (fun _ _ => ⟨rfl, e169, (by decide : 2 + 1 ≤ _), (by decide : 10 + 6 ≤ _)⟩)
    dsimp only [Pt.U, Pt.locs, Pt.cells, Pt.slots] at X171 l171 y171 z171 st171 hQ171
    subst l171 y171 z171
    obtain ⟨rfl, N171q, K171q, Es171, Cs171, b171, kb171, gt171, gh171, -, Fv171, Vb171⟩ := hQ171
    have N171 := Fr.app N168 N171q
    obtain ⟨lc171, X171, N171⟩ := own_gen X171 N171
    replace Vb171 : Arv Z T171.heap b171 kb171 .byte (6 : Int32) [(.int (x0.toInt8.toInt32)), (.int (x1.toInt8.toInt32)), (.int (x2.toInt8.toInt32)), (.int ((123 : Int32).toInt8.toInt32)), (.int (x4.toInt8.toInt32)), (.int (x5.toInt8.toInt32))] (.int 0) := Vb171
    have lt_b1_b171 : b1 < b171 := Nat.lt_of_lt_of_le f173.lt gh171
    have lt_b169_b171 : b169 < b171 := Nat.lt_of_lt_of_le A169.lt gh171
    have O171 := O169.keep K171q (allS ge_b169 all0)
    refine step (fun t k => st171.trans k) ?_
    show G T171 (mkF m 107 ls167 [(.ref b169)])
    obtain ⟨ls174, hls174⟩  := own_sl #[.val (.int p0), .val (.long q1), .second, .val (.int p2), .val (.int p3), .val (.ref b1), .val (.int 3), .val (.int tt), .val (.ref b169), .unset, .unset, .unset, .unset, .unset, .unset, .unset, .unset]
    refine step (fun t k => XS.astore X171.here hx rfl (hb hby at_107) rfl rfl (l' := ls174) (by rw [hls167, hls174]; rfl) k) ?_
    show G T171 (mkF m 109 ls174 [])
    refine step (fun t k => XS.aload X171.here hx rfl (hb hby at_109) (by rw [hls174]; rfl) rfl k) ?_
    show G T171 (mkF m 111 ls174 [(.ref b169)])
    refine step (fun t k => XS.iload X171.here hx rfl (hb hby at_111) (by rw [hls174]; rfl) k) ?_
    show G T171 (mkF m 113 ls174 [(.int 3), (.ref b169)])
    refine step (fun t k => XS.iload X171.here hx rfl (hb hby at_113) (by rw [hls174]; rfl) k) ?_
    show G T171 (mkF m 115 ls174 [(.int tt), (.int 3), (.ref b169)])
    have hK175 := (backOf (R := room_1) (p := p) (e := e) (below := below) (s := s) (args := #[(.int p0), (.long q1), (.int p2), (.int p3)]) (len := 3) (W := 0) (rm_clo l Z a0 hw [] w_COMPACT_STRINGS w_SIOOBE_FORMATTER b169 (3 : Int32) tt x0 x1 x2 (123 : Int32) x4 x5 b171 kb171 3 NN T171.heap n0 (own_old_le O171) ST O171 lx0 lx1 lx2 (by decide : ¬ (123 : Int32) < 0 ∧ ¬ (255 : Int32) < (123 : Int32)) lx4 lx5 Es171 Fv171 Cs171 Vb171 rfl hNN hKN hN6) hZ (ww38 hw) (ww37 hw) (by decide) (by decide))
    obtain ⟨_, _, ⟨T175, L175, k175, n175⟩, -, X175, ⟨Lc175, hQ175, l175, y175, z175⟩, st175⟩ := Jvm.LawKit.callS X171 hx (y := y_4) hown (mvT hZ (ww35 hw)) (mvT hZ (ww36 hw)) (mvT hZ (ww37 hw)) (mvT hZ (ww38 hw)) (by decide) hK175 (g := (mkF m 115 ls174 [(.int tt), (.int 3), (.ref b169)])) rfl (by rw [hml, hls174]; rfl) (argsL := [(.ref b169), (.int 3), (.int tt)]) (rest := []) (lenOf pd_3 rfl) rfl (by show 2 * 0 + _ ≤ _; exact Nat.le_of_eq rfl) (hb hby at_115) (fun _ _ => ⟨rfl, rfl, (by decide : 3 + 0 ≤ _), (by decide : 16 + 0 ≤ _)⟩)
    dsimp only [Pt.U, Pt.locs, Pt.cells, Pt.slots] at X175 l175 y175 z175 st175 hQ175
    subst l175 y175 z175
    obtain ⟨rfl, N175q, e175⟩ := hQ175
    have N175 := Fr.app N171 N175q
    refine step (fun t k => st175 t k) ?_
    show G T175 (mkF m 118 ls174 [(.int (own_go [x0, x1, x2, (123 : Int32), x4, x5] NN (NN - 3) 3 0))])
    obtain ⟨ls176, hls176⟩  := own_sl #[.val (.int p0), .val (.long q1), .second, .val (.int p2), .val (.int p3), .val (.ref b1), .val (.int 3), .val (.int tt), .val (.ref b169), .val (.int (own_go [x0, x1, x2, (123 : Int32), x4, x5] NN (NN - 3) 3 0)), .unset, .unset, .unset, .unset, .unset, .unset, .unset]
    refine step (fun t k => XS.istore X175.here hx rfl (hb hby at_118) rfl (l' := ls176) (by rw [hls174, hls176]; rfl) k) ?_
    show G T175 (mkF m 120 ls176 [])
    refine step (fun t k => XS.aload X175.here hx rfl (hb hby at_120) (by rw [hls176]; rfl) rfl k) ?_
    show G T175 (mkF m 122 ls176 [(.ref b1)])
    refine step (fun t k => XS.iconst X175.here hx rfl (hb hby at_122) k) ?_
    show G T175 (mkF m 123 ls176 [(.int 0), (.ref b1)])
    refine step (fun t k => XS.iload X175.here hx rfl (hb hby at_123) (by rw [hls176]; rfl) k) ?_
    show G T175 (mkF m 125 ls176 [(.int 3), (.int 0), (.ref b1)])
    have f178 := (Arv.keep f172 K171q (ninS (Nat.ne_of_lt lt_b1_b169) nin0))
    have hK177 := (backOf (R := room_1) (p := p) (e := e) (below := below) (s := s) (args := #[(.int p0), (.long q1), (.int p2), (.int p3)]) (len := 3) (W := 0) (rm_v0 l Z a0 hw [] w_COMPACT_STRINGS w_SIOOBE_FORMATTER b1 (3 : Int32) k1 x0 x1 x2 (123 : Int32) x4 x5 T171.heap n0 (own_old_le O171) ST O171 f178) hZ (ww41 hw) (ww3 hw) (by decide) (by decide))
    obtain ⟨_, _, ⟨T177, L177, k177, n177⟩, -, X177, ⟨Lc177, hQ177, l177, y177, z177⟩, st177⟩ := Jvm.LawKit.callS X175 hx (y := y_1) hown (mvT hZ (ww39 hw)) (mvT hZ (ww40 hw)) (mvT hZ (ww3 hw)) (mvT hZ (ww41 hw)) (by decide) hK177 (g := (mkF m 125 ls176 [(.int 3), (.int 0), (.ref b1)])) rfl (by rw [hml, hls176]; rfl) (argsL := [(.ref b1), (.int 0), (.int 3)]) (rest := []) (lenOf pd_4 rfl) rfl (by show 2 * 0 + _ ≤ _; exact Nat.le_of_eq rfl) (hb hby at_125) (fun _ _ => ⟨rfl, e175, (by decide : 3 + 0 ≤ _), (by decide : 16 + 0 ≤ _)⟩)
    dsimp only [Pt.U, Pt.locs, Pt.cells, Pt.slots] at X177 l177 y177 z177 st177 hQ177
    subst l177 y177 z177
    obtain ⟨rfl, N177q, e177⟩ := hQ177
    have N177 := Fr.app N175 N177q
    obtain ⟨lc177, X177, N177⟩ := own_gen X177 N177
    refine step (fun t k => st177 t k) ?_
    show G T177 (mkF m 128 ls176 [(.int (f_v0 w_COMPACT_STRINGS w_SIOOBE_FORMATTER b1 (3 : Int32) k1 x0 x1 x2 (123 : Int32) x4 x5))])
    obtain ⟨ls179, hls179⟩  := own_sl #[.val (.int p0), .val (.long q1), .second, .val (.int p2), .val (.int p3), .val (.ref b1), .val (.int 3), .val (.int tt), .val (.ref b169), .val (.int (own_go [x0, x1, x2, (123 : Int32), x4, x5] NN (NN - 3) 3 0)), .val (.int (f_v0 w_COMPACT_STRINGS w_SIOOBE_FORMATTER b1 (3 : Int32) k1 x0 x1 x2 (123 : Int32) x4 x5)), .unset, .unset, .unset, .unset, .unset, .unset]
    refine step (fun t k => XS.istore X177.here hx rfl (hb hby at_128) rfl (l' := ls179) (by rw [hls176, hls179]; rfl) k) ?_
    show G T177 (mkF m 130 ls179 [])
    obtain ⟨d0, hd0⟩ : ∃ z : Int32, z = (f_v0 w_COMPACT_STRINGS w_SIOOBE_FORMATTER b1 (3 : Int32) k1 x0 x1 x2 (123 : Int32) x4 x5) := ⟨_, rfl⟩
    obtain ⟨ls180, hls180⟩  := own_sl #[.val (.int p0), .val (.long q1), .second, .val (.int p2), .val (.int p3), .val (.ref b1), .val (.int 3), .val (.int tt), .val (.ref b169), .val (.int (own_go [x0, x1, x2, (123 : Int32), x4, x5] NN (NN - 3) 3 0)), .val (.int d0), .unset, .unset, .unset, .unset, .unset, .unset]
    rw [show ls179 = ls180 from by rw [hls179, hls180, hd0]]
    show G T177 (mkF m 130 ls180 [])
    have hv0 : d0 = 0 := by rw [hd0]; unfold f_v0; rw [if_pos (by decide)]
    refine step (fun t k => XS.iload X177.here hx rfl (hb hby at_130) (by rw [hls180]; rfl) k) ?_
    show G T177 (mkF m 132 ls180 [(.int d0)])
    refine step (fun t k => XS.aload X177.here hx rfl (hb hby at_132) (by rw [hls180]; rfl) rfl k) ?_
    show G T177 (mkF m 134 ls180 [(.ref b1), (.int d0)])
    refine step (fun t k => XS.iconst X177.here hx rfl (hb hby at_134) k) ?_
    show G T177 (mkF m 135 ls180 [(.int 1), (.ref b1), (.int d0)])
    refine step (fun t k => XS.iload X177.here hx rfl (hb hby at_135) (by rw [hls180]; rfl) k) ?_
    show G T177 (mkF m 137 ls180 [(.int 3), (.int 1), (.ref b1), (.int d0)])
    have hK181 := (backOf (R := room_1) (p := p) (e := e) (below := below) (s := s) (args := #[(.int p0), (.long q1), (.int p2), (.int p3)]) (len := 3) (W := 1) (rm_v1 l Z a0 hw [] w_COMPACT_STRINGS w_SIOOBE_FORMATTER b1 (3 : Int32) k1 x0 x1 x2 (123 : Int32) x4 x5 T171.heap n0 (own_old_le O171) ST O171 f178) hZ (ww41 hw) (ww3 hw) (by decide) (by decide))
    obtain ⟨_, _, ⟨T181, L181, k181, n181⟩, -, X181, ⟨Lc181, hQ181, l181, y181, z181⟩, st181⟩ := Jvm.LawKit.callS X177 hx (y := y_1) hown (mvT hZ (ww39 hw)) (mvT hZ (ww40 hw)) (mvT hZ (ww3 hw)) (mvT hZ (ww41 hw)) (by decide) hK181 (g := (mkF m 137 ls180 [(.int 3), (.int 1), (.ref b1), (.int d0)])) rfl (by rw [hml, hls180]; rfl) (argsL := [(.ref b1), (.int 1), (.int 3)]) (rest := [(.int d0)]) (lenOf pd_4 rfl) rfl (by show 2 * 0 + _ ≤ _; exact Nat.le_of_eq rfl) (hb hby at_137) (fun _ _ => ⟨rfl, e177, (by decide : 3 + 0 ≤ _), (by decide : 16 + 0 ≤ _)⟩)
    dsimp only [Pt.U, Pt.locs, Pt.cells, Pt.slots] at X181 l181 y181 z181 st181 hQ181
    subst l181 y181 z181
    obtain ⟨rfl, N181q, e181⟩ := hQ181
    have N181 := Fr.app N177 N181q
    obtain ⟨lc181, X181, N181⟩ := own_gen X181 N181
    refine step (fun t k => st181 t k) ?_
    show G T181 (mkF m 140 ls180 [(.int (f_v1 w_COMPACT_STRINGS w_SIOOBE_FORMATTER b1 (3 : Int32) k1 x0 x1 x2 (123 : Int32) x4 x5)), (.int d0)])
    refine step (fun t k => XS.iadd X181.here hx rfl (hb hby at_140) rfl k) ?_
    show G T181 (mkF m 141 ls180 [(.int (d0 + (f_v1 w_COMPACT_STRINGS w_SIOOBE_FORMATTER b1 (3 : Int32) k1 x0 x1 x2 (123 : Int32) x4 x5)))])
    obtain ⟨ls182, hls182⟩  := own_sl #[.val (.int p0), .val (.long q1), .second, .val (.int p2), .val (.int p3), .val (.ref b1), .val (.int 3), .val (.int tt), .val (.ref b169), .val (.int (own_go [x0, x1, x2, (123 : Int32), x4, x5] NN (NN - 3) 3 0)), .val (.int d0), .val (.int (d0 + (f_v1 w_COMPACT_STRINGS w_SIOOBE_FORMATTER b1 (3 : Int32) k1 x0 x1 x2 (123 : Int32) x4 x5))), .unset, .unset, .unset, .unset, .unset]
    refine step (fun t k => XS.istore X181.here hx rfl (hb hby at_141) rfl (l' := ls182) (by rw [hls180, hls182]; rfl) k) ?_
    show G T181 (mkF m 143 ls182 [])
    obtain ⟨d1, hd1⟩ : ∃ z : Int32, z = (d0 + (f_v1 w_COMPACT_STRINGS w_SIOOBE_FORMATTER b1 (3 : Int32) k1 x0 x1 x2 (123 : Int32) x4 x5)) := ⟨_, rfl⟩
    obtain ⟨ls183, hls183⟩  := own_sl #[.val (.int p0), .val (.long q1), .second, .val (.int p2), .val (.int p3), .val (.ref b1), .val (.int 3), .val (.int tt), .val (.ref b169), .val (.int (own_go [x0, x1, x2, (123 : Int32), x4, x5] NN (NN - 3) 3 0)), .val (.int d0), .val (.int d1), .unset, .unset, .unset, .unset, .unset]
    rw [show ls182 = ls183 from by rw [hls182, hls183, hd1]]
    show G T181 (mkF m 143 ls183 [])
    have hv1 : d1 = 0 := by rw [hd1, hv0]; unfold f_v1; rw [if_pos (by decide)]; rfl
    refine step (fun t k => XS.iload X181.here hx rfl (hb hby at_143) (by rw [hls183]; rfl) k) ?_
    show G T181 (mkF m 145 ls183 [(.int d1)])
    refine step (fun t k => XS.aload X181.here hx rfl (hb hby at_145) (by rw [hls183]; rfl) rfl k) ?_
    show G T181 (mkF m 147 ls183 [(.ref b1), (.int d1)])
    refine step (fun t k => XS.iconst X181.here hx rfl (hb hby at_147) k) ?_
    show G T181 (mkF m 148 ls183 [(.int 2), (.ref b1), (.int d1)])
    refine step (fun t k => XS.iload X181.here hx rfl (hb hby at_148) (by rw [hls183]; rfl) k) ?_
    show G T181 (mkF m 150 ls183 [(.int 3), (.int 2), (.ref b1), (.int d1)])
    have hK184 := (backOf (R := room_1) (p := p) (e := e) (below := below) (s := s) (args := #[(.int p0), (.long q1), (.int p2), (.int p3)]) (len := 3) (W := 1) (rm_v2 l Z a0 hw [] w_COMPACT_STRINGS w_SIOOBE_FORMATTER b1 (3 : Int32) k1 x0 x1 x2 (123 : Int32) x4 x5 T171.heap n0 (own_old_le O171) ST O171 f178) hZ (ww41 hw) (ww3 hw) (by decide) (by decide))
    obtain ⟨_, _, ⟨T184, L184, k184, n184⟩, -, X184, ⟨Lc184, hQ184, l184, y184, z184⟩, st184⟩ := Jvm.LawKit.callS X181 hx (y := y_1) hown (mvT hZ (ww39 hw)) (mvT hZ (ww40 hw)) (mvT hZ (ww3 hw)) (mvT hZ (ww41 hw)) (by decide) hK184 (g := (mkF m 150 ls183 [(.int 3), (.int 2), (.ref b1), (.int d1)])) rfl (by rw [hml, hls183]; rfl) (argsL := [(.ref b1), (.int 2), (.int 3)]) (rest := [(.int d1)]) (lenOf pd_4 rfl) rfl (by show 2 * 0 + _ ≤ _; exact Nat.le_of_eq rfl) (hb hby at_150) (fun _ _ => ⟨rfl, e181, (by decide : 3 + 0 ≤ _), (by decide : 16 + 0 ≤ _)⟩)
    dsimp only [Pt.U, Pt.locs, Pt.cells, Pt.slots] at X184 l184 y184 z184 st184 hQ184
    subst l184 y184 z184
    obtain ⟨rfl, N184q, e184⟩ := hQ184
    have N184 := Fr.app N181 N184q
    obtain ⟨lc184, X184, N184⟩ := own_gen X184 N184
    refine step (fun t k => st184 t k) ?_
    show G T184 (mkF m 153 ls183 [(.int (f_v2 w_COMPACT_STRINGS w_SIOOBE_FORMATTER b1 (3 : Int32) k1 x0 x1 x2 (123 : Int32) x4 x5)), (.int d1)])
    refine step (fun t k => XS.iadd X184.here hx rfl (hb hby at_153) rfl k) ?_
    show G T184 (mkF m 154 ls183 [(.int (d1 + (f_v2 w_COMPACT_STRINGS w_SIOOBE_FORMATTER b1 (3 : Int32) k1 x0 x1 x2 (123 : Int32) x4 x5)))])
    obtain ⟨ls185, hls185⟩  := own_sl #[.val (.int p0), .val (.long q1), .second, .val (.int p2), .val (.int p3), .val (.ref b1), .val (.int 3), .val (.int tt), .val (.ref b169), .val (.int (own_go [x0, x1, x2, (123 : Int32), x4, x5] NN (NN - 3) 3 0)), .val (.int d0), .val (.int d1), .val (.int (d1 + (f_v2 w_COMPACT_STRINGS w_SIOOBE_FORMATTER b1 (3 : Int32) k1 x0 x1 x2 (123 : Int32) x4 x5))), .unset, .unset, .unset, .unset]
    refine step (fun t k => XS.istore X184.here hx rfl (hb hby at_154) rfl (l' := ls185) (by rw [hls183, hls185]; rfl) k) ?_
    show G T184 (mkF m 156 ls185 [])
    obtain ⟨d2, hd2⟩ : ∃ z : Int32, z = (d1 + (f_v2 w_COMPACT_STRINGS w_SIOOBE_FORMATTER b1 (3 : Int32) k1 x0 x1 x2 (123 : Int32) x4 x5)) := ⟨_, rfl⟩
    obtain ⟨ls186, hls186⟩  := own_sl #[.val (.int p0), .val (.long q1), .second, .val (.int p2), .val (.int p3), .val (.ref b1), .val (.int 3), .val (.int tt), .val (.ref b169), .val (.int (own_go [x0, x1, x2, (123 : Int32), x4, x5] NN (NN - 3) 3 0)), .val (.int d0), .val (.int d1), .val (.int d2), .unset, .unset, .unset, .unset]
    rw [show ls185 = ls186 from by rw [hls185, hls186, hd2]]
    show G T184 (mkF m 156 ls186 [])
    have hv2 : d2 = 0 := by rw [hd2, hv1]; unfold f_v2; rw [if_pos (by decide)]; rfl
    refine step (fun t k => XS.iload X184.here hx rfl (hb hby at_156) (by rw [hls186]; rfl) k) ?_
    show G T184 (mkF m 158 ls186 [(.int d2)])
    refine step (fun t k => XS.aload X184.here hx rfl (hb hby at_158) (by rw [hls186]; rfl) rfl k) ?_
    show G T184 (mkF m 160 ls186 [(.ref b1), (.int d2)])
    refine step (fun t k => XS.iconst X184.here hx rfl (hb hby at_160) k) ?_
    show G T184 (mkF m 161 ls186 [(.int 3), (.ref b1), (.int d2)])
    refine step (fun t k => XS.iload X184.here hx rfl (hb hby at_161) (by rw [hls186]; rfl) k) ?_
    show G T184 (mkF m 163 ls186 [(.int 3), (.int 3), (.ref b1), (.int d2)])
    have hK187 := (backOf (R := room_1) (p := p) (e := e) (below := below) (s := s) (args := #[(.int p0), (.long q1), (.int p2), (.int p3)]) (len := 3) (W := 1) (rm_v3 l Z a0 hw [] w_COMPACT_STRINGS w_SIOOBE_FORMATTER b1 (3 : Int32) k1 x0 x1 x2 (123 : Int32) x4 x5 T171.heap n0 (own_old_le O171) ST O171 f178) hZ (ww41 hw) (ww3 hw) (by decide) (by decide))
    obtain ⟨_, _, ⟨T187, L187, k187, n187⟩, -, X187, ⟨Lc187, hQ187, l187, y187, z187⟩, st187⟩ := Jvm.LawKit.callS X184 hx (y := y_1) hown (mvT hZ (ww39 hw)) (mvT hZ (ww40 hw)) (mvT hZ (ww3 hw)) (mvT hZ (ww41 hw)) (by decide) hK187 (g := (mkF m 163 ls186 [(.int 3), (.int 3), (.ref b1), (.int d2)])) rfl (by rw [hml, hls186]; rfl) (argsL := [(.ref b1), (.int 3), (.int 3)]) (rest := [(.int d2)]) (lenOf pd_4 rfl) rfl (by show 2 * 0 + _ ≤ _; exact Nat.le_of_eq rfl) (hb hby at_163) (fun _ _ => ⟨rfl, e184, (by decide : 3 + 0 ≤ _), (by decide : 16 + 0 ≤ _)⟩)
    dsimp only [Pt.U, Pt.locs, Pt.cells, Pt.slots] at X187 l187 y187 z187 st187 hQ187
    subst l187 y187 z187
    obtain ⟨rfl, N187q, e187⟩ := hQ187
    have N187 := Fr.app N184 N187q
    obtain ⟨lc187, X187, N187⟩ := own_gen X187 N187
    refine step (fun t k => st187 t k) ?_
    show G T187 (mkF m 166 ls186 [(.int (f_v3 w_COMPACT_STRINGS w_SIOOBE_FORMATTER b1 (3 : Int32) k1 x0 x1 x2 (123 : Int32) x4 x5)), (.int d2)])
    refine step (fun t k => XS.iadd X187.here hx rfl (hb hby at_166) rfl k) ?_
    show G T187 (mkF m 167 ls186 [(.int (d2 + (f_v3 w_COMPACT_STRINGS w_SIOOBE_FORMATTER b1 (3 : Int32) k1 x0 x1 x2 (123 : Int32) x4 x5)))])
    obtain ⟨ls188, hls188⟩  := own_sl #[.val (.int p0), .val (.long q1), .second, .val (.int p2), .val (.int p3), .val (.ref b1), .val (.int 3), .val (.int tt), .val (.ref b169), .val (.int (own_go [x0, x1, x2, (123 : Int32), x4, x5] NN (NN - 3) 3 0)), .val (.int d0), .val (.int d1), .val (.int d2), .val (.int (d2 + (f_v3 w_COMPACT_STRINGS w_SIOOBE_FORMATTER b1 (3 : Int32) k1 x0 x1 x2 (123 : Int32) x4 x5))), .unset, .unset, .unset]
    refine step (fun t k => XS.istore X187.here hx rfl (hb hby at_167) rfl (l' := ls188) (by rw [hls186, hls188]; rfl) k) ?_
    show G T187 (mkF m 169 ls188 [])
    obtain ⟨d3, hd3⟩ : ∃ z : Int32, z = (d2 + (f_v3 w_COMPACT_STRINGS w_SIOOBE_FORMATTER b1 (3 : Int32) k1 x0 x1 x2 (123 : Int32) x4 x5)) := ⟨_, rfl⟩
    obtain ⟨ls189, hls189⟩  := own_sl #[.val (.int p0), .val (.long q1), .second, .val (.int p2), .val (.int p3), .val (.ref b1), .val (.int 3), .val (.int tt), .val (.ref b169), .val (.int (own_go [x0, x1, x2, (123 : Int32), x4, x5] NN (NN - 3) 3 0)), .val (.int d0), .val (.int d1), .val (.int d2), .val (.int d3), .unset, .unset, .unset]
    rw [show ls188 = ls189 from by rw [hls188, hls189, hd3]]
    show G T187 (mkF m 169 ls189 [])
    have hv3 : d3 = 0 + own_vv (123 : Int32) := by rw [hd3, hv2]; unfold f_v3; rw [if_neg (by decide)]; rfl
    refine step (fun t k => XS.iload X187.here hx rfl (hb hby at_169) (by rw [hls189]; rfl) k) ?_
    show G T187 (mkF m 171 ls189 [(.int d3)])
    refine step (fun t k => XS.aload X187.here hx rfl (hb hby at_171) (by rw [hls189]; rfl) rfl k) ?_
    show G T187 (mkF m 173 ls189 [(.ref b1), (.int d3)])
    refine step (fun t k => XS.iconst X187.here hx rfl (hb hby at_173) k) ?_
    show G T187 (mkF m 174 ls189 [(.int 4), (.ref b1), (.int d3)])
    refine step (fun t k => XS.iload X187.here hx rfl (hb hby at_174) (by rw [hls189]; rfl) k) ?_
    show G T187 (mkF m 176 ls189 [(.int 3), (.int 4), (.ref b1), (.int d3)])
    have hK190 := (backOf (R := room_1) (p := p) (e := e) (below := below) (s := s) (args := #[(.int p0), (.long q1), (.int p2), (.int p3)]) (len := 3) (W := 1) (rm_v4 l Z a0 hw [] w_COMPACT_STRINGS w_SIOOBE_FORMATTER b1 (3 : Int32) k1 x0 x1 x2 (123 : Int32) x4 x5 T171.heap n0 (own_old_le O171) ST O171 f178) hZ (ww41 hw) (ww3 hw) (by decide) (by decide))
    obtain ⟨_, _, ⟨T190, L190, k190, n190⟩, -, X190, ⟨Lc190, hQ190, l190, y190, z190⟩, st190⟩ := Jvm.LawKit.callS X187 hx (y := y_1) hown (mvT hZ (ww39 hw)) (mvT hZ (ww40 hw)) (mvT hZ (ww3 hw)) (mvT hZ (ww41 hw)) (by decide) hK190 (g := (mkF m 176 ls189 [(.int 3), (.int 4), (.ref b1), (.int d3)])) rfl (by rw [hml, hls189]; rfl) (argsL := [(.ref b1), (.int 4), (.int 3)]) (rest := [(.int d3)]) (lenOf pd_4 rfl) rfl (by show 2 * 0 + _ ≤ _; exact Nat.le_of_eq rfl) (hb hby at_176) (fun _ _ => ⟨rfl, e187, (by decide : 3 + 0 ≤ _), (by decide : 16 + 0 ≤ _)⟩)
    dsimp only [Pt.U, Pt.locs, Pt.cells, Pt.slots] at X190 l190 y190 z190 st190 hQ190
    subst l190 y190 z190
    obtain ⟨rfl, N190q, e190⟩ := hQ190
    have N190 := Fr.app N187 N190q
    obtain ⟨lc190, X190, N190⟩ := own_gen X190 N190
    refine step (fun t k => st190 t k) ?_
    show G T190 (mkF m 179 ls189 [(.int (f_v4 w_COMPACT_STRINGS w_SIOOBE_FORMATTER b1 (3 : Int32) k1 x0 x1 x2 (123 : Int32) x4 x5)), (.int d3)])
    refine step (fun t k => XS.iadd X190.here hx rfl (hb hby at_179) rfl k) ?_
    show G T190 (mkF m 180 ls189 [(.int (d3 + (f_v4 w_COMPACT_STRINGS w_SIOOBE_FORMATTER b1 (3 : Int32) k1 x0 x1 x2 (123 : Int32) x4 x5)))])
    obtain ⟨ls191, hls191⟩  := own_sl #[.val (.int p0), .val (.long q1), .second, .val (.int p2), .val (.int p3), .val (.ref b1), .val (.int 3), .val (.int tt), .val (.ref b169), .val (.int (own_go [x0, x1, x2, (123 : Int32), x4, x5] NN (NN - 3) 3 0)), .val (.int d0), .val (.int d1), .val (.int d2), .val (.int d3), .val (.int (d3 + (f_v4 w_COMPACT_STRINGS w_SIOOBE_FORMATTER b1 (3 : Int32) k1 x0 x1 x2 (123 : Int32) x4 x5))), .unset, .unset]
    refine step (fun t k => XS.istore X190.here hx rfl (hb hby at_180) rfl (l' := ls191) (by rw [hls189, hls191]; rfl) k) ?_
    show G T190 (mkF m 182 ls191 [])
    obtain ⟨d4, hd4⟩ : ∃ z : Int32, z = (d3 + (f_v4 w_COMPACT_STRINGS w_SIOOBE_FORMATTER b1 (3 : Int32) k1 x0 x1 x2 (123 : Int32) x4 x5)) := ⟨_, rfl⟩
    obtain ⟨ls192, hls192⟩  := own_sl #[.val (.int p0), .val (.long q1), .second, .val (.int p2), .val (.int p3), .val (.ref b1), .val (.int 3), .val (.int tt), .val (.ref b169), .val (.int (own_go [x0, x1, x2, (123 : Int32), x4, x5] NN (NN - 3) 3 0)), .val (.int d0), .val (.int d1), .val (.int d2), .val (.int d3), .val (.int d4), .unset, .unset]
    rw [show ls191 = ls192 from by rw [hls191, hls192, hd4]]
    show G T190 (mkF m 182 ls192 [])
    have hv4 : d4 = d3 + own_vv x4 := by rw [hd4]; unfold f_v4; rw [if_neg (by decide)]; rfl
    refine step (fun t k => XS.iload X190.here hx rfl (hb hby at_182) (by rw [hls192]; rfl) k) ?_
    show G T190 (mkF m 184 ls192 [(.int d4)])
    refine step (fun t k => XS.aload X190.here hx rfl (hb hby at_184) (by rw [hls192]; rfl) rfl k) ?_
    show G T190 (mkF m 186 ls192 [(.ref b1), (.int d4)])
    refine step (fun t k => XS.iconst X190.here hx rfl (hb hby at_186) k) ?_
    show G T190 (mkF m 187 ls192 [(.int 5), (.ref b1), (.int d4)])
    refine step (fun t k => XS.iload X190.here hx rfl (hb hby at_187) (by rw [hls192]; rfl) k) ?_
    show G T190 (mkF m 189 ls192 [(.int 3), (.int 5), (.ref b1), (.int d4)])
    have hK193 := (backOf (R := room_1) (p := p) (e := e) (below := below) (s := s) (args := #[(.int p0), (.long q1), (.int p2), (.int p3)]) (len := 3) (W := 1) (rm_v5 l Z a0 hw [] w_COMPACT_STRINGS w_SIOOBE_FORMATTER b1 (3 : Int32) k1 x0 x1 x2 (123 : Int32) x4 x5 T171.heap n0 (own_old_le O171) ST O171 f178) hZ (ww41 hw) (ww3 hw) (by decide) (by decide))
    obtain ⟨_, _, ⟨T193, L193, k193, n193⟩, -, X193, ⟨Lc193, hQ193, l193, y193, z193⟩, st193⟩ := Jvm.LawKit.callS X190 hx (y := y_1) hown (mvT hZ (ww39 hw)) (mvT hZ (ww40 hw)) (mvT hZ (ww3 hw)) (mvT hZ (ww41 hw)) (by decide) hK193 (g := (mkF m 189 ls192 [(.int 3), (.int 5), (.ref b1), (.int d4)])) rfl (by rw [hml, hls192]; rfl) (argsL := [(.ref b1), (.int 5), (.int 3)]) (rest := [(.int d4)]) (lenOf pd_4 rfl) rfl (by show 2 * 0 + _ ≤ _; exact Nat.le_of_eq rfl) (hb hby at_189) (fun _ _ => ⟨rfl, e190, (by decide : 3 + 0 ≤ _), (by decide : 16 + 0 ≤ _)⟩)
    dsimp only [Pt.U, Pt.locs, Pt.cells, Pt.slots] at X193 l193 y193 z193 st193 hQ193
    subst l193 y193 z193
    obtain ⟨rfl, N193q, e193⟩ := hQ193
    have N193 := Fr.app N190 N193q
    obtain ⟨lc193, X193, N193⟩ := own_gen X193 N193
    refine step (fun t k => st193 t k) ?_
    show G T193 (mkF m 192 ls192 [(.int (f_v5 w_COMPACT_STRINGS w_SIOOBE_FORMATTER b1 (3 : Int32) k1 x0 x1 x2 (123 : Int32) x4 x5)), (.int d4)])
    refine step (fun t k => XS.iadd X193.here hx rfl (hb hby at_192) rfl k) ?_
    show G T193 (mkF m 193 ls192 [(.int (d4 + (f_v5 w_COMPACT_STRINGS w_SIOOBE_FORMATTER b1 (3 : Int32) k1 x0 x1 x2 (123 : Int32) x4 x5)))])
    obtain ⟨ls194, hls194⟩  := own_sl #[.val (.int p0), .val (.long q1), .second, .val (.int p2), .val (.int p3), .val (.ref b1), .val (.int 3), .val (.int tt), .val (.ref b169), .val (.int (own_go [x0, x1, x2, (123 : Int32), x4, x5] NN (NN - 3) 3 0)), .val (.int d0), .val (.int d1), .val (.int d2), .val (.int d3), .val (.int d4), .val (.int (d4 + (f_v5 w_COMPACT_STRINGS w_SIOOBE_FORMATTER b1 (3 : Int32) k1 x0 x1 x2 (123 : Int32) x4 x5))), .unset]
    refine step (fun t k => XS.istore X193.here hx rfl (hb hby at_193) rfl (l' := ls194) (by rw [hls192, hls194]; rfl) k) ?_
    show G T193 (mkF m 195 ls194 [])
    obtain ⟨d5, hd5⟩ : ∃ z : Int32, z = (d4 + (f_v5 w_COMPACT_STRINGS w_SIOOBE_FORMATTER b1 (3 : Int32) k1 x0 x1 x2 (123 : Int32) x4 x5)) := ⟨_, rfl⟩
    obtain ⟨ls195, hls195⟩  := own_sl #[.val (.int p0), .val (.long q1), .second, .val (.int p2), .val (.int p3), .val (.ref b1), .val (.int 3), .val (.int tt), .val (.ref b169), .val (.int (own_go [x0, x1, x2, (123 : Int32), x4, x5] NN (NN - 3) 3 0)), .val (.int d0), .val (.int d1), .val (.int d2), .val (.int d3), .val (.int d4), .val (.int d5), .unset]
    rw [show ls194 = ls195 from by rw [hls194, hls195, hd5]]
    show G T193 (mkF m 195 ls195 [])
    have hv5 : d5 = d4 + own_vv x5 := by rw [hd5]; unfold f_v5; rw [if_neg (by decide)]; rfl
    refine step (fun t k => XS.aload X193.here hx rfl (hb hby at_195) (by rw [hls195]; rfl) rfl k) ?_
    show G T193 (mkF m 197 ls195 [(.ref b1)])
    refine step (fun t k => XS.iconst X193.here hx rfl (hb hby at_197) k) ?_
    show G T193 (mkF m 198 ls195 [(.int 0), (.ref b1)])
    refine step (fun t k => XS.iload X193.here hx rfl (hb hby at_198) (by rw [hls195]; rfl) k) ?_
    show G T193 (mkF m 200 ls195 [(.int 3), (.int 0), (.ref b1)])
    refine step (fun t k => XS.iload X193.here hx rfl (hb hby at_200) (by rw [hls195]; rfl) k) ?_
    show G T193 (mkF m 202 ls195 [(.int tt), (.int 3), (.int 0), (.ref b1)])
    refine step (fun t k => XS.iload X193.here hx rfl (hb hby at_202) (by rw [hls195]; rfl) k) ?_
    show G T193 (mkF m 204 ls195 [(.int d0), (.int tt), (.int 3), (.int 0), (.ref b1)])
    have hK196 := (backOf (R := room_1) (p := p) (e := e) (below := below) (s := s) (args := #[(.int p0), (.long q1), (.int p2), (.int p3)]) (len := 3) (W := 0) (rm_h0 l Z a0 hw [] w_COMPACT_STRINGS w_SIOOBE_FORMATTER b1 (3 : Int32) tt d0 k1 x0 x1 x2 (123 : Int32) x4 x5 T171.heap n0 (own_old_le O171) ST O171 f178) hZ (ww44 hw) (ww3 hw) (by decide) (by decide))
    obtain ⟨_, _, ⟨T196, L196, k196, n196⟩, -, X196, ⟨Lc196, hQ196, l196, y196, z196⟩, st196⟩ := Jvm.LawKit.callS X193 hx (y := y_2) hown (mvT hZ (ww42 hw)) (mvT hZ (ww43 hw)) (mvT hZ (ww3 hw)) (mvT hZ (ww44 hw)) (by decide) hK196 (g := (mkF m 204 ls195 [(.int d0), (.int tt), (.int 3), (.int 0), (.ref b1)])) rfl (by rw [hml, hls195]; rfl) (argsL := [(.ref b1), (.int 0), (.int 3), (.int tt), (.int d0)]) (rest := []) (lenOf pd_5 rfl) rfl (by show 2 * 0 + _ ≤ _; exact Nat.le_of_eq rfl) (hb hby at_204) (fun _ _ => ⟨rfl, e193, (by decide : 3 + 0 ≤ _), (by decide : 16 + 0 ≤ _)⟩)
    dsimp only [Pt.U, Pt.locs, Pt.cells, Pt.slots] at X196 l196 y196 z196 st196 hQ196
    subst l196 y196 z196
    obtain ⟨rfl, N196q, e196⟩ := hQ196
    have N196 := Fr.app N193 N196q
    obtain ⟨lc196, X196, N196⟩ := own_gen X196 N196
    refine step (fun t k => st196 t k) ?_
    show G T196 (mkF m 207 ls195 [(.int (f_h0 w_COMPACT_STRINGS w_SIOOBE_FORMATTER b1 (3 : Int32) tt d0 k1 x0 x1 x2 (123 : Int32) x4 x5))])
    refine step (fun t k => XS.ifYes X196.here hx rfl (pc0 := 207) (pc' := 216) rfl (hb hby at_207) rfl ((if0 _ _).trans (teq (by unfold f_h0; rw [if_pos (by decide)])).1) (by decide) (by decide) k) ?_
    show G T196 (mkF m 216 ls195 [])
    refine step (fun t k => XS.aload X196.here hx rfl (hb hby at_216) (by rw [hls195]; rfl) rfl k) ?_
    show G T196 (mkF m 218 ls195 [(.ref b1)])
    refine step (fun t k => XS.iconst X196.here hx rfl (hb hby at_218) k) ?_
    show G T196 (mkF m 219 ls195 [(.int 1), (.ref b1)])
    refine step (fun t k => XS.iload X196.here hx rfl (hb hby at_219) (by rw [hls195]; rfl) k) ?_
    show G T196 (mkF m 221 ls195 [(.int 3), (.int 1), (.ref b1)])
    refine step (fun t k => XS.iload X196.here hx rfl (hb hby at_221) (by rw [hls195]; rfl) k) ?_
    show G T196 (mkF m 223 ls195 [(.int tt), (.int 3), (.int 1), (.ref b1)])
    refine step (fun t k => XS.iload X196.here hx rfl (hb hby at_223) (by rw [hls195]; rfl) k) ?_
    show G T196 (mkF m 225 ls195 [(.int d1), (.int tt), (.int 3), (.int 1), (.ref b1)])
    have hK197 := (backOf (R := room_1) (p := p) (e := e) (below := below) (s := s) (args := #[(.int p0), (.long q1), (.int p2), (.int p3)]) (len := 3) (W := 0) (rm_h1 l Z a0 hw [] w_COMPACT_STRINGS w_SIOOBE_FORMATTER b1 (3 : Int32) tt d1 k1 x0 x1 x2 (123 : Int32) x4 x5 T171.heap n0 (own_old_le O171) ST O171 f178) hZ (ww44 hw) (ww3 hw) (by decide) (by decide))
    obtain ⟨_, _, ⟨T197, L197, k197, n197⟩, -, X197, ⟨Lc197, hQ197, l197, y197, z197⟩, st197⟩ := Jvm.LawKit.callS X196 hx (y := y_2) hown (mvT hZ (ww42 hw)) (mvT hZ (ww43 hw)) (mvT hZ (ww3 hw)) (mvT hZ (ww44 hw)) (by decide) hK197 (g := (mkF m 225 ls195 [(.int d1), (.int tt), (.int 3), (.int 1), (.ref b1)])) rfl (by rw [hml, hls195]; rfl) (argsL := [(.ref b1), (.int 1), (.int 3), (.int tt), (.int d1)]) (rest := []) (lenOf pd_5 rfl) rfl (by show 2 * 0 + _ ≤ _; exact Nat.le_of_eq rfl) (hb hby at_225) (fun _ _ => ⟨rfl, e196, (by decide : 3 + 0 ≤ _), (by decide : 16 + 0 ≤ _)⟩)
    dsimp only [Pt.U, Pt.locs, Pt.cells, Pt.slots] at X197 l197 y197 z197 st197 hQ197
    subst l197 y197 z197
    obtain ⟨rfl, N197q, e197⟩ := hQ197
    have N197 := Fr.app N196 N197q
    obtain ⟨lc197, X197, N197⟩ := own_gen X197 N197
    refine step (fun t k => st197 t k) ?_
    show G T197 (mkF m 228 ls195 [(.int (f_h1 w_COMPACT_STRINGS w_SIOOBE_FORMATTER b1 (3 : Int32) tt d1 k1 x0 x1 x2 (123 : Int32) x4 x5))])
    refine step (fun t k => XS.ifYes X197.here hx rfl (pc0 := 228) (pc' := 237) rfl (hb hby at_228) rfl ((if0 _ _).trans (teq (by unfold f_h1; rw [if_pos (by decide)])).1) (by decide) (by decide) k) ?_
    show G T197 (mkF m 237 ls195 [])
    refine step (fun t k => XS.aload X197.here hx rfl (hb hby at_237) (by rw [hls195]; rfl) rfl k) ?_
    show G T197 (mkF m 239 ls195 [(.ref b1)])
    refine step (fun t k => XS.iconst X197.here hx rfl (hb hby at_239) k) ?_
    show G T197 (mkF m 240 ls195 [(.int 2), (.ref b1)])
    refine step (fun t k => XS.iload X197.here hx rfl (hb hby at_240) (by rw [hls195]; rfl) k) ?_
    show G T197 (mkF m 242 ls195 [(.int 3), (.int 2), (.ref b1)])
    refine step (fun t k => XS.iload X197.here hx rfl (hb hby at_242) (by rw [hls195]; rfl) k) ?_
    show G T197 (mkF m 244 ls195 [(.int tt), (.int 3), (.int 2), (.ref b1)])
    refine step (fun t k => XS.iload X197.here hx rfl (hb hby at_244) (by rw [hls195]; rfl) k) ?_
    show G T197 (mkF m 246 ls195 [(.int d2), (.int tt), (.int 3), (.int 2), (.ref b1)])
    have hK198 := (backOf (R := room_1) (p := p) (e := e) (below := below) (s := s) (args := #[(.int p0), (.long q1), (.int p2), (.int p3)]) (len := 3) (W := 0) (rm_h2 l Z a0 hw [] w_COMPACT_STRINGS w_SIOOBE_FORMATTER b1 (3 : Int32) tt d2 k1 x0 x1 x2 (123 : Int32) x4 x5 T171.heap n0 (own_old_le O171) ST O171 f178) hZ (ww44 hw) (ww3 hw) (by decide) (by decide))
    obtain ⟨_, _, ⟨T198, L198, k198, n198⟩, -, X198, ⟨Lc198, hQ198, l198, y198, z198⟩, st198⟩ := Jvm.LawKit.callS X197 hx (y := y_2) hown (mvT hZ (ww42 hw)) (mvT hZ (ww43 hw)) (mvT hZ (ww3 hw)) (mvT hZ (ww44 hw)) (by decide) hK198 (g := (mkF m 246 ls195 [(.int d2), (.int tt), (.int 3), (.int 2), (.ref b1)])) rfl (by rw [hml, hls195]; rfl) (argsL := [(.ref b1), (.int 2), (.int 3), (.int tt), (.int d2)]) (rest := []) (lenOf pd_5 rfl) rfl (by show 2 * 0 + _ ≤ _; exact Nat.le_of_eq rfl) (hb hby at_246) (fun _ _ => ⟨rfl, e197, (by decide : 3 + 0 ≤ _), (by decide : 16 + 0 ≤ _)⟩)
    dsimp only [Pt.U, Pt.locs, Pt.cells, Pt.slots] at X198 l198 y198 z198 st198 hQ198
    subst l198 y198 z198
    obtain ⟨rfl, N198q, e198⟩ := hQ198
    have N198 := Fr.app N197 N198q
    obtain ⟨lc198, X198, N198⟩ := own_gen X198 N198
    refine step (fun t k => st198 t k) ?_
    show G T198 (mkF m 249 ls195 [(.int (f_h2 w_COMPACT_STRINGS w_SIOOBE_FORMATTER b1 (3 : Int32) tt d2 k1 x0 x1 x2 (123 : Int32) x4 x5))])
    refine step (fun t k => XS.ifYes X198.here hx rfl (pc0 := 249) (pc' := 258) rfl (hb hby at_249) rfl ((if0 _ _).trans (teq (by unfold f_h2; rw [if_pos (by decide)])).1) (by decide) (by decide) k) ?_
    show G T198 (mkF m 258 ls195 [])
    refine step (fun t k => XS.aload X198.here hx rfl (hb hby at_258) (by rw [hls195]; rfl) rfl k) ?_
    show G T198 (mkF m 260 ls195 [(.ref b1)])
    refine step (fun t k => XS.iconst X198.here hx rfl (hb hby at_260) k) ?_
    show G T198 (mkF m 261 ls195 [(.int 3), (.ref b1)])
    refine step (fun t k => XS.iload X198.here hx rfl (hb hby at_261) (by rw [hls195]; rfl) k) ?_
    show G T198 (mkF m 263 ls195 [(.int 3), (.int 3), (.ref b1)])
    refine step (fun t k => XS.iload X198.here hx rfl (hb hby at_263) (by rw [hls195]; rfl) k) ?_
    show G T198 (mkF m 265 ls195 [(.int tt), (.int 3), (.int 3), (.ref b1)])
    refine step (fun t k => XS.iload X198.here hx rfl (hb hby at_265) (by rw [hls195]; rfl) k) ?_
    show G T198 (mkF m 267 ls195 [(.int d3), (.int tt), (.int 3), (.int 3), (.ref b1)])
    have hK199 := (backOf (R := room_1) (p := p) (e := e) (below := below) (s := s) (args := #[(.int p0), (.long q1), (.int p2), (.int p3)]) (len := 3) (W := 0) (rm_h3 l Z a0 hw [] w_COMPACT_STRINGS w_SIOOBE_FORMATTER b1 (3 : Int32) tt d3 k1 x0 x1 x2 (123 : Int32) x4 x5 T171.heap n0 (own_old_le O171) ST O171 f178) hZ (ww44 hw) (ww3 hw) (by decide) (by decide))
    obtain ⟨_, _, ⟨T199, L199, k199, n199⟩, -, X199, ⟨Lc199, hQ199, l199, y199, z199⟩, st199⟩ := Jvm.LawKit.callS X198 hx (y := y_2) hown (mvT hZ (ww42 hw)) (mvT hZ (ww43 hw)) (mvT hZ (ww3 hw)) (mvT hZ (ww44 hw)) (by decide) hK199 (g := (mkF m 267 ls195 [(.int d3), (.int tt), (.int 3), (.int 3), (.ref b1)])) rfl (by rw [hml, hls195]; rfl) (argsL := [(.ref b1), (.int 3), (.int 3), (.int tt), (.int d3)]) (rest := []) (lenOf pd_5 rfl) rfl (by show 2 * 0 + _ ≤ _; exact Nat.le_of_eq rfl) (hb hby at_267) (fun _ _ => ⟨rfl, e198, (by decide : 3 + 0 ≤ _), (by decide : 16 + 0 ≤ _)⟩)
    dsimp only [Pt.U, Pt.locs, Pt.cells, Pt.slots] at X199 l199 y199 z199 st199 hQ199
    subst l199 y199 z199
    obtain ⟨rfl, N199q, e199⟩ := hQ199
    have N199 := Fr.app N198 N199q
    obtain ⟨lc199, X199, N199⟩ := own_gen X199 N199
    refine step (fun t k => st199 t k) ?_
    show G T199 (mkF m 270 ls195 [(.int (f_h3 w_COMPACT_STRINGS w_SIOOBE_FORMATTER b1 (3 : Int32) tt d3 k1 x0 x1 x2 (123 : Int32) x4 x5))])
    by_cases hc200 : (f_h3 w_COMPACT_STRINGS w_SIOOBE_FORMATTER b1 (3 : Int32) tt d3 k1 x0 x1 x2 (123 : Int32) x4 x5) = (0 : Int32)
    · skip
      refine step (fun t k => XS.ifYes X199.here hx rfl (pc0 := 270) (pc' := 279) rfl (hb hby at_270) rfl ((if0 _ _).trans (teq hc200).1) (by decide) (by decide) k) ?_
      show G T199 (mkF m 279 ls195 [])
      refine step (fun t k => XS.aload X199.here hx rfl (hb hby at_279) (by rw [hls195]; rfl) rfl k) ?_
      show G T199 (mkF m 281 ls195 [(.ref b1)])
      refine step (fun t k => XS.iconst X199.here hx rfl (hb hby at_281) k) ?_
      show G T199 (mkF m 282 ls195 [(.int 4), (.ref b1)])
      refine step (fun t k => XS.iload X199.here hx rfl (hb hby at_282) (by rw [hls195]; rfl) k) ?_
      show G T199 (mkF m 284 ls195 [(.int 3), (.int 4), (.ref b1)])
      refine step (fun t k => XS.iload X199.here hx rfl (hb hby at_284) (by rw [hls195]; rfl) k) ?_
      show G T199 (mkF m 286 ls195 [(.int tt), (.int 3), (.int 4), (.ref b1)])
      refine step (fun t k => XS.iload X199.here hx rfl (hb hby at_286) (by rw [hls195]; rfl) k) ?_
      show G T199 (mkF m 288 ls195 [(.int d4), (.int tt), (.int 3), (.int 4), (.ref b1)])
      have hK201 := (backOf (R := room_1) (p := p) (e := e) (below := below) (s := s) (args := #[(.int p0), (.long q1), (.int p2), (.int p3)]) (len := 3) (W := 0) (rm_h4 l Z a0 hw [] w_COMPACT_STRINGS w_SIOOBE_FORMATTER b1 (3 : Int32) tt d4 k1 x0 x1 x2 (123 : Int32) x4 x5 T171.heap n0 (own_old_le O171) ST O171 f178) hZ (ww44 hw) (ww3 hw) (by decide) (by decide))
      obtain ⟨_, _, ⟨T201, L201, k201, n201⟩, -, X201, ⟨Lc201, hQ201, l201, y201, z201⟩, st201⟩ := Jvm.LawKit.callS X199 hx (y := y_2) hown (mvT hZ (ww42 hw)) (mvT hZ (ww43 hw)) (mvT hZ (ww3 hw)) (mvT hZ (ww44 hw)) (by decide) hK201 (g := (mkF m 288 ls195 [(.int d4), (.int tt), (.int 3), (.int 4), (.ref b1)])) rfl (by rw [hml, hls195]; rfl) (argsL := [(.ref b1), (.int 4), (.int 3), (.int tt), (.int d4)]) (rest := []) (lenOf pd_5 rfl) rfl (by show 2 * 0 + _ ≤ _; exact Nat.le_of_eq rfl) (hb hby at_288) (fun _ _ => ⟨rfl, e199, (by decide : 3 + 0 ≤ _), (by decide : 16 + 0 ≤ _)⟩)
      dsimp only [Pt.U, Pt.locs, Pt.cells, Pt.slots] at X201 l201 y201 z201 st201 hQ201
      subst l201 y201 z201
      obtain ⟨rfl, N201q, e201⟩ := hQ201
      have N201 := Fr.app N199 N201q
      obtain ⟨lc201, X201, N201⟩ := own_gen X201 N201
      refine step (fun t k => st201 t k) ?_
      show G T201 (mkF m 291 ls195 [(.int (f_h4 w_COMPACT_STRINGS w_SIOOBE_FORMATTER b1 (3 : Int32) tt d4 k1 x0 x1 x2 (123 : Int32) x4 x5))])
      by_cases hc202 : (f_h4 w_COMPACT_STRINGS w_SIOOBE_FORMATTER b1 (3 : Int32) tt d4 k1 x0 x1 x2 (123 : Int32) x4 x5) = (0 : Int32)
      · skip
        refine step (fun t k => XS.ifYes X201.here hx rfl (pc0 := 291) (pc' := 300) rfl (hb hby at_291) rfl ((if0 _ _).trans (teq hc202).1) (by decide) (by decide) k) ?_
        show G T201 (mkF m 300 ls195 [])
        refine step (fun t k => XS.aload X201.here hx rfl (hb hby at_300) (by rw [hls195]; rfl) rfl k) ?_
        show G T201 (mkF m 302 ls195 [(.ref b1)])
        refine step (fun t k => XS.iconst X201.here hx rfl (hb hby at_302) k) ?_
        show G T201 (mkF m 303 ls195 [(.int 5), (.ref b1)])
        refine step (fun t k => XS.iload X201.here hx rfl (hb hby at_303) (by rw [hls195]; rfl) k) ?_
        show G T201 (mkF m 305 ls195 [(.int 3), (.int 5), (.ref b1)])
        refine step (fun t k => XS.iload X201.here hx rfl (hb hby at_305) (by rw [hls195]; rfl) k) ?_
        show G T201 (mkF m 307 ls195 [(.int tt), (.int 3), (.int 5), (.ref b1)])
        refine step (fun t k => XS.iload X201.here hx rfl (hb hby at_307) (by rw [hls195]; rfl) k) ?_
        show G T201 (mkF m 309 ls195 [(.int d5), (.int tt), (.int 3), (.int 5), (.ref b1)])
        have hK203 := (backOf (R := room_1) (p := p) (e := e) (below := below) (s := s) (args := #[(.int p0), (.long q1), (.int p2), (.int p3)]) (len := 3) (W := 0) (rm_h5 l Z a0 hw [] w_COMPACT_STRINGS w_SIOOBE_FORMATTER b1 (3 : Int32) tt d5 k1 x0 x1 x2 (123 : Int32) x4 x5 T171.heap n0 (own_old_le O171) ST O171 f178) hZ (ww44 hw) (ww3 hw) (by decide) (by decide))
        obtain ⟨_, _, ⟨T203, L203, k203, n203⟩, -, X203, ⟨Lc203, hQ203, l203, y203, z203⟩, st203⟩ := Jvm.LawKit.callS X201 hx (y := y_2) hown (mvT hZ (ww42 hw)) (mvT hZ (ww43 hw)) (mvT hZ (ww3 hw)) (mvT hZ (ww44 hw)) (by decide) hK203 (g := (mkF m 309 ls195 [(.int d5), (.int tt), (.int 3), (.int 5), (.ref b1)])) rfl (by rw [hml, hls195]; rfl) (argsL := [(.ref b1), (.int 5), (.int 3), (.int tt), (.int d5)]) (rest := []) (lenOf pd_5 rfl) rfl (by show 2 * 0 + _ ≤ _; exact Nat.le_of_eq rfl) (hb hby at_309) (fun _ _ => ⟨rfl, e201, (by decide : 3 + 0 ≤ _), (by decide : 16 + 0 ≤ _)⟩)
        dsimp only [Pt.U, Pt.locs, Pt.cells, Pt.slots] at X203 l203 y203 z203 st203 hQ203
        subst l203 y203 z203
        obtain ⟨rfl, N203q, e203⟩ := hQ203
        have N203 := Fr.app N201 N203q
        obtain ⟨lc203, X203, N203⟩ := own_gen X203 N203
        refine step (fun t k => st203 t k) ?_
        show G T203 (mkF m 312 ls195 [(.int (f_h5 w_COMPACT_STRINGS w_SIOOBE_FORMATTER b1 (3 : Int32) tt d5 k1 x0 x1 x2 (123 : Int32) x4 x5))])
        by_cases hc204 : (f_h5 w_COMPACT_STRINGS w_SIOOBE_FORMATTER b1 (3 : Int32) tt d5 k1 x0 x1 x2 (123 : Int32) x4 x5) = (0 : Int32)
        · skip
          refine step (fun t k => XS.ifYes X203.here hx rfl (pc0 := 312) (pc' := 321) rfl (hb hby at_312) rfl ((if0 _ _).trans (teq hc204).1) (by decide) (by decide) k) ?_
          show G T203 (mkF m 321 ls195 [])
          refine step (fun t k => XS.iload X203.here hx rfl (hb hby at_321) (by rw [hls195]; rfl) k) ?_
          show G T203 (mkF m 323 ls195 [(.int tt)])
          obtain ⟨ls205, hls205⟩  := own_sl #[.val (.int p0), .val (.long q1), .second, .val (.int p2), .val (.int p3), .val (.ref b1), .val (.int 3), .val (.int tt), .val (.ref b169), .val (.int (own_go [x0, x1, x2, (123 : Int32), x4, x5] NN (NN - 3) 3 0)), .val (.int d0), .val (.int d1), .val (.int d2), .val (.int d3), .val (.int d4), .val (.int d5), .val (.int tt)]
          refine step (fun t k => XS.istore X203.here hx rfl (hb hby at_323) rfl (l' := ls205) (by rw [hls195, hls205]; rfl) k) ?_
          show G T203 (mkF m 325 ls205 [])
          refine step (fun t k => XS.iload X203.here hx rfl (hb hby at_325) (by rw [hls205]; rfl) k) ?_
          show G T203 (mkF m 327 ls205 [(.int (own_go [x0, x1, x2, (123 : Int32), x4, x5] NN (NN - 3) 3 0))])
          refine step (fun t k => XS.iload X203.here hx rfl (hb hby at_327) (by rw [hls205]; rfl) k) ?_
          show G T203 (mkF m 329 ls205 [(.int tt), (.int (own_go [x0, x1, x2, (123 : Int32), x4, x5] NN (NN - 3) 3 0))])
          refine step (fun t k => XS.icmpNo X203.here hx rfl (hb hby at_329) rfl (teq ((own_fin3 x0 x1 x2 (123 : Int32) x4 x5 d3 d4 d5 NN hKN hN6 hv3 hv4 hv5).trans (by rw [if_neg (own_hn3 (by decide) hNN hN6 hc200), if_neg (own_hn4 (by decide) hNN hN6 hc202), if_neg (own_hn5 (by decide) hNN hN6 hc204)]; exact hNN.symm))).2 k) ?_
          show G T203 (mkF m 332 ls205 [])
          refine step (fun t k => XS.iconst X203.here hx rfl (hb hby at_332) k) ?_
          show G T203 (mkF m 333 ls205 [(.int 1)])
          refine step (fun t k => XS.goto X203.here hx rfl (pc0 := 333) (pc' := 337) rfl (hb hby at_333) (by decide) (by decide) k) ?_
          show G T203 (mkF m 337 ls205 [(.int 1)])
          exact ret (v := some (.int 1)) X203 (fun h => by rw [Bd.returns] at h; cases h) (fun fs hr => retN X203 hx (t := .boolean) Bd.returns (by simp) (hb hby at_337) hr) e203 ⟨rfl, N203⟩ (by decide) (by decide)
        · skip
          refine step (fun t k => XS.ifNo X203.here hx rfl (hb hby at_312) rfl ((if0 _ _).trans (feq hc204).1) k) ?_
          show G T203 (mkF m 315 ls195 [])
          refine step (fun t k => XS.iconst X203.here hx rfl (hb hby at_315) k) ?_
          show G T203 (mkF m 316 ls195 [(.int 5)])
          obtain ⟨ls206, hls206⟩  := own_sl #[.val (.int p0), .val (.long q1), .second, .val (.int p2), .val (.int p3), .val (.ref b1), .val (.int 3), .val (.int tt), .val (.ref b169), .val (.int (own_go [x0, x1, x2, (123 : Int32), x4, x5] NN (NN - 3) 3 0)), .val (.int d0), .val (.int d1), .val (.int d2), .val (.int d3), .val (.int d4), .val (.int d5), .val (.int 5)]
          refine step (fun t k => XS.istore X203.here hx rfl (hb hby at_316) rfl (l' := ls206) (by rw [hls195, hls206]; rfl) k) ?_
          show G T203 (mkF m 318 ls206 [])
          refine step (fun t k => XS.goto X203.here hx rfl (pc0 := 318) (pc' := 325) rfl (hb hby at_318) (by decide) (by decide) k) ?_
          show G T203 (mkF m 325 ls206 [])
          refine step (fun t k => XS.iload X203.here hx rfl (hb hby at_325) (by rw [hls206]; rfl) k) ?_
          show G T203 (mkF m 327 ls206 [(.int (own_go [x0, x1, x2, (123 : Int32), x4, x5] NN (NN - 3) 3 0))])
          refine step (fun t k => XS.iload X203.here hx rfl (hb hby at_327) (by rw [hls206]; rfl) k) ?_
          show G T203 (mkF m 329 ls206 [(.int 5), (.int (own_go [x0, x1, x2, (123 : Int32), x4, x5] NN (NN - 3) 3 0))])
          refine step (fun t k => XS.icmpNo X203.here hx rfl (hb hby at_329) rfl (teq ((own_fin3 x0 x1 x2 (123 : Int32) x4 x5 d3 d4 d5 NN hKN hN6 hv3 hv4 hv5).trans (by rw [if_neg (own_hn3 (by decide) hNN hN6 hc200), if_neg (own_hn4 (by decide) hNN hN6 hc202), if_pos (own_hy5 (by decide) hNN hN6 hc204)]))).2 k) ?_
          show G T203 (mkF m 332 ls206 [])
          refine step (fun t k => XS.iconst X203.here hx rfl (hb hby at_332) k) ?_
          show G T203 (mkF m 333 ls206 [(.int 1)])
          refine step (fun t k => XS.goto X203.here hx rfl (pc0 := 333) (pc' := 337) rfl (hb hby at_333) (by decide) (by decide) k) ?_
          show G T203 (mkF m 337 ls206 [(.int 1)])
          exact ret (v := some (.int 1)) X203 (fun h => by rw [Bd.returns] at h; cases h) (fun fs hr => retN X203 hx (t := .boolean) Bd.returns (by simp) (hb hby at_337) hr) e203 ⟨rfl, N203⟩ (by decide) (by decide)
      · skip
        refine step (fun t k => XS.ifNo X201.here hx rfl (hb hby at_291) rfl ((if0 _ _).trans (feq hc202).1) k) ?_
        show G T201 (mkF m 294 ls195 [])
        refine step (fun t k => XS.iconst X201.here hx rfl (hb hby at_294) k) ?_
        show G T201 (mkF m 295 ls195 [(.int 4)])
        obtain ⟨ls207, hls207⟩  := own_sl #[.val (.int p0), .val (.long q1), .second, .val (.int p2), .val (.int p3), .val (.ref b1), .val (.int 3), .val (.int tt), .val (.ref b169), .val (.int (own_go [x0, x1, x2, (123 : Int32), x4, x5] NN (NN - 3) 3 0)), .val (.int d0), .val (.int d1), .val (.int d2), .val (.int d3), .val (.int d4), .val (.int d5), .val (.int 4)]
        refine step (fun t k => XS.istore X201.here hx rfl (hb hby at_295) rfl (l' := ls207) (by rw [hls195, hls207]; rfl) k) ?_
        show G T201 (mkF m 297 ls207 [])
        refine step (fun t k => XS.goto X201.here hx rfl (pc0 := 297) (pc' := 325) rfl (hb hby at_297) (by decide) (by decide) k) ?_
        show G T201 (mkF m 325 ls207 [])
        refine step (fun t k => XS.iload X201.here hx rfl (hb hby at_325) (by rw [hls207]; rfl) k) ?_
        show G T201 (mkF m 327 ls207 [(.int (own_go [x0, x1, x2, (123 : Int32), x4, x5] NN (NN - 3) 3 0))])
        refine step (fun t k => XS.iload X201.here hx rfl (hb hby at_327) (by rw [hls207]; rfl) k) ?_
        show G T201 (mkF m 329 ls207 [(.int 4), (.int (own_go [x0, x1, x2, (123 : Int32), x4, x5] NN (NN - 3) 3 0))])
        refine step (fun t k => XS.icmpNo X201.here hx rfl (hb hby at_329) rfl (teq ((own_fin3 x0 x1 x2 (123 : Int32) x4 x5 d3 d4 d5 NN hKN hN6 hv3 hv4 hv5).trans (by rw [if_neg (own_hn3 (by decide) hNN hN6 hc200), if_pos (own_hy4 (by decide) hNN hN6 hc202)]))).2 k) ?_
        show G T201 (mkF m 332 ls207 [])
        refine step (fun t k => XS.iconst X201.here hx rfl (hb hby at_332) k) ?_
        show G T201 (mkF m 333 ls207 [(.int 1)])
        refine step (fun t k => XS.goto X201.here hx rfl (pc0 := 333) (pc' := 337) rfl (hb hby at_333) (by decide) (by decide) k) ?_
        show G T201 (mkF m 337 ls207 [(.int 1)])
        exact ret (v := some (.int 1)) X201 (fun h => by rw [Bd.returns] at h; cases h) (fun fs hr => retN X201 hx (t := .boolean) Bd.returns (by simp) (hb hby at_337) hr) e201 ⟨rfl, N201⟩ (by decide) (by decide)
    · skip
      refine step (fun t k => XS.ifNo X199.here hx rfl (hb hby at_270) rfl ((if0 _ _).trans (feq hc200).1) k) ?_
      show G T199 (mkF m 273 ls195 [])
      refine step (fun t k => XS.iconst X199.here hx rfl (hb hby at_273) k) ?_
      show G T199 (mkF m 274 ls195 [(.int 3)])
      obtain ⟨ls208, hls208⟩  := own_sl #[.val (.int p0), .val (.long q1), .second, .val (.int p2), .val (.int p3), .val (.ref b1), .val (.int 3), .val (.int tt), .val (.ref b169), .val (.int (own_go [x0, x1, x2, (123 : Int32), x4, x5] NN (NN - 3) 3 0)), .val (.int d0), .val (.int d1), .val (.int d2), .val (.int d3), .val (.int d4), .val (.int d5), .val (.int 3)]
      refine step (fun t k => XS.istore X199.here hx rfl (hb hby at_274) rfl (l' := ls208) (by rw [hls195, hls208]; rfl) k) ?_
      show G T199 (mkF m 276 ls208 [])
      refine step (fun t k => XS.goto X199.here hx rfl (pc0 := 276) (pc' := 325) rfl (hb hby at_276) (by decide) (by decide) k) ?_
      show G T199 (mkF m 325 ls208 [])
      refine step (fun t k => XS.iload X199.here hx rfl (hb hby at_325) (by rw [hls208]; rfl) k) ?_
      show G T199 (mkF m 327 ls208 [(.int (own_go [x0, x1, x2, (123 : Int32), x4, x5] NN (NN - 3) 3 0))])
      refine step (fun t k => XS.iload X199.here hx rfl (hb hby at_327) (by rw [hls208]; rfl) k) ?_
      show G T199 (mkF m 329 ls208 [(.int 3), (.int (own_go [x0, x1, x2, (123 : Int32), x4, x5] NN (NN - 3) 3 0))])
      refine step (fun t k => XS.icmpNo X199.here hx rfl (hb hby at_329) rfl (teq ((own_fin3 x0 x1 x2 (123 : Int32) x4 x5 d3 d4 d5 NN hKN hN6 hv3 hv4 hv5).trans (by rw [if_pos (own_hy3 (by decide) hNN hN6 hc200)]))).2 k) ?_
      show G T199 (mkF m 332 ls208 [])
      refine step (fun t k => XS.iconst X199.here hx rfl (hb hby at_332) k) ?_
      show G T199 (mkF m 333 ls208 [(.int 1)])
      refine step (fun t k => XS.goto X199.here hx rfl (pc0 := 333) (pc' := 337) rfl (hb hby at_333) (by decide) (by decide) k) ?_
      show G T199 (mkF m 337 ls208 [(.int 1)])
      exact ret (v := some (.int 1)) X199 (fun h => by rw [Bd.returns] at h; cases h) (fun fs hr => retN X199 hx (t := .boolean) Bd.returns (by simp) (hb hby at_337) hr) e199 ⟨rfl, N199⟩ (by decide) (by decide)
  · skip
    obtain ⟨ls209, hls209⟩  := own_sl #[.val (.int p0), .val (.long q1), .second, .val (.int p2), .val (.int p3), .val (.ref b1), .val (.int 4), .unset, .unset, .unset, .unset, .unset, .unset, .unset, .unset, .unset, .unset]
    rw [show ls16 = ls209 from by rw [hls16, hls209, hO]]
    show G T14 (mkF m 75 ls209 [])
    refine step (fun t k => XS.iload X14.here hx rfl (hb hby at_75) (by rw [hls209]; rfl) k) ?_
    show G T14 (mkF m 77 ls209 [(.int 4)])
    refine step (fun t k => XS.iload X14.here hx rfl (hb hby at_77) (by rw [hls209]; rfl) k) ?_
    show G T14 (mkF m 79 ls209 [(.int p3), (.int 4)])
    have q210 := X14.ldcInt hx hown (mvT hZ (ww5 hw)) (g := (mkF m 79 ls209 [(.int p3), (.int 4)])) rfl (hb hby at_79)
    refine step q210 ?_
    show G T14 (mkF m 81 ls209 [(.int 2147483647), (.int p3), (.int 4)])
    refine step (fun t k => XS.iand X14.here hx rfl (hb hby at_81) rfl k) ?_
    show G T14 (mkF m 82 ls209 [(.int (p3 &&& (2147483647 : Int32))), (.int 4)])
    refine step (fun t k => XS.bipush X14.here hx rfl (hb hby at_82) k) ?_
    show G T14 (mkF m 84 ls209 [(.int 7), (.int (p3 &&& (2147483647 : Int32))), (.int 4)])
    refine step (fun t k => XS.iload X14.here hx rfl (hb hby at_84) (by rw [hls209]; rfl) k) ?_
    show G T14 (mkF m 86 ls209 [(.int 4), (.int 7), (.int (p3 &&& (2147483647 : Int32))), (.int 4)])
    refine step (fun t k => XS.isub X14.here hx rfl (hb hby at_86) rfl k) ?_
    show G T14 (mkF m 87 ls209 [(.int ((7 : Int32) - (4 : Int32))), (.int (p3 &&& (2147483647 : Int32))), (.int 4)])
    rw [(by decide : ((7 : Int32) - (4 : Int32)) = (3 : Int32))]
    show G T14 (mkF m 87 ls209 [(.int 3), (.int (p3 &&& (2147483647 : Int32))), (.int 4)])
    refine step (fun t k => iremM X14 hx rfl (hb hby at_87) rfl (by decide) k) ?_
    show G T14 (mkF m 88 ls209 [(.int ((p3 &&& (2147483647 : Int32)) % (3 : Int32))), (.int 4)])
    refine step (fun t k => XS.iadd X14.here hx rfl (hb hby at_88) rfl k) ?_
    show G T14 (mkF m 89 ls209 [(.int ((4 : Int32) + ((p3 &&& (2147483647 : Int32)) % (3 : Int32))))])
    obtain ⟨ls211, hls211⟩  := own_sl #[.val (.int p0), .val (.long q1), .second, .val (.int p2), .val (.int p3), .val (.ref b1), .val (.int 4), .val (.int ((4 : Int32) + ((p3 &&& (2147483647 : Int32)) % (3 : Int32)))), .unset, .unset, .unset, .unset, .unset, .unset, .unset, .unset, .unset]
    refine step (fun t k => XS.istore X14.here hx rfl (hb hby at_89) rfl (l' := ls211) (by rw [hls209, hls211]; rfl) k) ?_
    show G T14 (mkF m 91 ls211 [])
    obtain ⟨tt, htt⟩ : ∃ z : Int32, z = ((4 : Int32) + ((p3 &&& (2147483647 : Int32)) % (3 : Int32))) := ⟨_, rfl⟩
    obtain ⟨ls212, hls212⟩  := own_sl #[.val (.int p0), .val (.long q1), .second, .val (.int p2), .val (.int p3), .val (.ref b1), .val (.int 4), .val (.int tt), .unset, .unset, .unset, .unset, .unset, .unset, .unset, .unset, .unset]
    rw [show ls211 = ls212 from by rw [hls211, hls212, htt]]
    show G T14 (mkF m 91 ls212 [])
    obtain ⟨NN, hNN, hKN, hN6⟩ := own_to4 p3 tt htt
    refine step (fun t k => XS.aload X14.here hx rfl (hb hby at_91) (by rw [hls212]; rfl) rfl k) ?_
    show G T14 (mkF m 93 ls212 [(.ref b1)])
    refine step (fun t k => XS.iload X14.here hx rfl (hb hby at_93) (by rw [hls212]; rfl) k) ?_
    show G T14 (mkF m 95 ls212 [(.int 4), (.ref b1)])
    refine step (fun t k => XS.bipush X14.here hx rfl (hb hby at_95) k) ?_
    show G T14 (mkF m 97 ls212 [(.int 123), (.int 4), (.ref b1)])
    obtain ⟨T213, h213, X213, e213, W213, V213, st213⟩ := own_stC X14 hx hZ e14 V14 (j := (4 : Int32)) (by decide) (i := 4) rfl (by show 4 < 6; decide) (g := (mkF m 97 ls212 [(.int 123), (.int 4), (.ref b1)])) rfl rfl (hb hby at_97)
    replace V213 : Arv Z h213 b1 k1 .char (6 : Int32) [(.int x0), (.int x1), (.int x2), (.int x3), (.int 123), (.int x5)] (.int 0) := by rw [own_narc (by decide : ¬ (123 : Int32) < 0 ∧ ¬ (255 : Int32) < (123 : Int32))] at V213; exact V213
    have N213 := Fr.snoc X213 N14 ge_b1
    obtain ⟨lc213, X213, N213⟩ := own_gen X213 N213
    have O213 := O14.wr W213 ge_b1
    refine step st213 ?_
    show G T213 (mkF m 98 ls212 [])
    have f215 := (Exa.wr W213 (Exa.wr W14 (Exa.wr W12 (Exa.wr W10 (Exa.wr W8 (Exa.wr W6 (Exa.wr W4 B1)))))))
    obtain ⟨T214, h214, X214, e214, E214, A214, D214, -, st214⟩ := newO X213 hx hZ hown (ww6 hw) (ww7 hw) (ww8 hw) e213 (g := (mkF m 98 ls212 [])) rfl (hb hby at_98) (by decide) (by decide)
    obtain ⟨b214, g214⟩ : ∃ z, z = h213.size := ⟨_, rfl⟩
    rw [← g214] at A214 D214 st214
    have ge_b214 : n0 ≤ b214 := Nat.le_trans (own_old_le O213) (Nat.le_of_eq g214.symm)
    have lt_b1_b214 : b1 < b214 := Nat.lt_of_lt_of_le f215.lt (Nat.le_of_eq g214.symm)
    have O214 := O213.ext E214
    have F214_coder : Fld Z h214 b214 cn_1 "coder" "B" (.int 0) := D214 (Or.inr (ww32 hw)) (ty := .byte) (by decide)
    have F214_value : Fld Z h214 b214 cn_1 "value" "[B" .null := D214 (Or.inr (ww34 hw)) (ty := (.array .byte)) (by decide)
    refine step st214 ?_
    show G T214 (mkF m 101 ls212 [(.ref b214)])
    refine step (fun t k => XS.dup X214.here hx rfl (hb hby at_101) rfl rfl k) ?_
    show G T214 (mkF m 102 ls212 [(.ref b214), (.ref b214)])
    refine step (fun t k => XS.aload X214.here hx rfl (hb hby at_102) (by rw [hls212]; rfl) rfl k) ?_
    show G T214 (mkF m 104 ls212 [(.ref b1), (.ref b214), (.ref b214)])
    have f217 := (V213.ext E214)
    have f218 := (Exa.ext E214 f215)
    have hK216 := (StrChars.Road.backV (l := l) (R := room_1) (p := p) (e := e) (below := below) (s := s) (args := #[(.int p0), (.long q1), (.int p2), (.int p3)]) (len := 3) (W := 1) hZ (own_hwV hw) (kI := 4) (ww7 hw) (cs := [x0, x1, x2, x3, (123 : Int32), x5]) (bs := [(x0.toInt8.toInt32), (x1.toInt8.toInt32), (x2.toInt8.toInt32), (x3.toInt8.toInt32), ((123 : Int32).toInt8.toInt32), (x5.toInt8.toInt32)]) (n := 6) ge_b214 (own_old_le O214) A214 F214_value F214_coder f217 (Sta.ext O214.2 ST.k0) ST.k3 rfl rfl (by decide) (by decide) (List.forall_mem_cons.mpr ⟨lx0, (List.forall_mem_cons.mpr ⟨lx1, (List.forall_mem_cons.mpr ⟨lx2, (List.forall_mem_cons.mpr ⟨lx3, (List.forall_mem_cons.mpr ⟨(by decide : ¬ (123 : Int32) < 0 ∧ ¬ (255 : Int32) < (123 : Int32)), (List.forall_mem_cons.mpr ⟨lx5, (fun _ h => nomatch h)⟩)⟩)⟩)⟩)⟩)⟩) rfl (by decide) (by decide))
    obtain ⟨_, _, ⟨T216, L216, k216, n216⟩, -, X216, ⟨Lc216, hQ216, l216, y216, z216⟩, st216⟩ := X214.specialBack hx (y := y_5) rfl hown (mvT hZ (ww9 hw)) (mvT hZ (ww10 hw)) (mvT hZ (ww11 hw)) (by decide) hK216 (g := (mkF m 104 ls212 [(.ref b1), (.ref b214), (.ref b214)])) rfl (by rw [hml, hls212]; rfl) (Steps.refl _) (a := b214) (argsL := [(.ref b1)]) (rest := [(.ref b214)]) (lenOf pd_2 rfl) rfl (by show 2 * 0 + _ ≤ _; exact Nat.le_of_eq rfl) (hb hby at_104) (fun _ _ => ⟨rfl, e214, (by decide : 2 + 1 ≤ _), (by decide : 10 + 6 ≤ _)⟩)
    dsimp only [Pt.U, Pt.locs, Pt.cells, Pt.slots] at X216 l216 y216 z216 st216 hQ216
    subst l216 y216 z216
    obtain ⟨rfl, N216q, K216q, Es216, Cs216, b216, kb216, gt216, gh216, -, Fv216, Vb216⟩ := hQ216
    have N216 := Fr.app N213 N216q
    obtain ⟨lc216, X216, N216⟩ := own_gen X216 N216
    replace Vb216 : Arv Z T216.heap b216 kb216 .byte (6 : Int32) [(.int (x0.toInt8.toInt32)), (.int (x1.toInt8.toInt32)), (.int (x2.toInt8.toInt32)), (.int (x3.toInt8.toInt32)), (.int ((123 : Int32).toInt8.toInt32)), (.int (x5.toInt8.toInt32))] (.int 0) := Vb216
    have lt_b1_b216 : b1 < b216 := Nat.lt_of_lt_of_le f218.lt gh216
    have lt_b214_b216 : b214 < b216 := Nat.lt_of_lt_of_le A214.lt gh216
    have O216 := O214.keep K216q (allS ge_b214 all0)
    refine step (fun t k => st216.trans k) ?_
    show G T216 (mkF m 107 ls212 [(.ref b214)])
    obtain ⟨ls219, hls219⟩  := own_sl #[.val (.int p0), .val (.long q1), .second, .val (.int p2), .val (.int p3), .val (.ref b1), .val (.int 4), .val (.int tt), .val (.ref b214), .unset, .unset, .unset, .unset, .unset, .unset, .unset, .unset]
    refine step (fun t k => XS.astore X216.here hx rfl (hb hby at_107) rfl rfl (l' := ls219) (by rw [hls212, hls219]; rfl) k) ?_
    show G T216 (mkF m 109 ls219 [])
    refine step (fun t k => XS.aload X216.here hx rfl (hb hby at_109) (by rw [hls219]; rfl) rfl k) ?_
    show G T216 (mkF m 111 ls219 [(.ref b214)])
    refine step (fun t k => XS.iload X216.here hx rfl (hb hby at_111) (by rw [hls219]; rfl) k) ?_
    show G T216 (mkF m 113 ls219 [(.int 4), (.ref b214)])
    refine step (fun t k => XS.iload X216.here hx rfl (hb hby at_113) (by rw [hls219]; rfl) k) ?_
    show G T216 (mkF m 115 ls219 [(.int tt), (.int 4), (.ref b214)])
    have hK220 := (backOf (R := room_1) (p := p) (e := e) (below := below) (s := s) (args := #[(.int p0), (.long q1), (.int p2), (.int p3)]) (len := 3) (W := 0) (rm_clo l Z a0 hw [] w_COMPACT_STRINGS w_SIOOBE_FORMATTER b214 (4 : Int32) tt x0 x1 x2 x3 (123 : Int32) x5 b216 kb216 4 NN T216.heap n0 (own_old_le O216) ST O216 lx0 lx1 lx2 lx3 (by decide : ¬ (123 : Int32) < 0 ∧ ¬ (255 : Int32) < (123 : Int32)) lx5 Es216 Fv216 Cs216 Vb216 rfl hNN hKN hN6) hZ (ww38 hw) (ww37 hw) (by decide) (by decide))
    obtain ⟨_, _, ⟨T220, L220, k220, n220⟩, -, X220, ⟨Lc220, hQ220, l220, y220, z220⟩, st220⟩ := Jvm.LawKit.callS X216 hx (y := y_4) hown (mvT hZ (ww35 hw)) (mvT hZ (ww36 hw)) (mvT hZ (ww37 hw)) (mvT hZ (ww38 hw)) (by decide) hK220 (g := (mkF m 115 ls219 [(.int tt), (.int 4), (.ref b214)])) rfl (by rw [hml, hls219]; rfl) (argsL := [(.ref b214), (.int 4), (.int tt)]) (rest := []) (lenOf pd_3 rfl) rfl (by show 2 * 0 + _ ≤ _; exact Nat.le_of_eq rfl) (hb hby at_115) (fun _ _ => ⟨rfl, rfl, (by decide : 3 + 0 ≤ _), (by decide : 16 + 0 ≤ _)⟩)
    dsimp only [Pt.U, Pt.locs, Pt.cells, Pt.slots] at X220 l220 y220 z220 st220 hQ220
    subst l220 y220 z220
    obtain ⟨rfl, N220q, e220⟩ := hQ220
    have N220 := Fr.app N216 N220q
    refine step (fun t k => st220 t k) ?_
    show G T220 (mkF m 118 ls219 [(.int (own_go [x0, x1, x2, x3, (123 : Int32), x5] NN (NN - 4) 4 0))])
    obtain ⟨ls221, hls221⟩  := own_sl #[.val (.int p0), .val (.long q1), .second, .val (.int p2), .val (.int p3), .val (.ref b1), .val (.int 4), .val (.int tt), .val (.ref b214), .val (.int (own_go [x0, x1, x2, x3, (123 : Int32), x5] NN (NN - 4) 4 0)), .unset, .unset, .unset, .unset, .unset, .unset, .unset]
    refine step (fun t k => XS.istore X220.here hx rfl (hb hby at_118) rfl (l' := ls221) (by rw [hls219, hls221]; rfl) k) ?_
    show G T220 (mkF m 120 ls221 [])
    refine step (fun t k => XS.aload X220.here hx rfl (hb hby at_120) (by rw [hls221]; rfl) rfl k) ?_
    show G T220 (mkF m 122 ls221 [(.ref b1)])
    refine step (fun t k => XS.iconst X220.here hx rfl (hb hby at_122) k) ?_
    show G T220 (mkF m 123 ls221 [(.int 0), (.ref b1)])
    refine step (fun t k => XS.iload X220.here hx rfl (hb hby at_123) (by rw [hls221]; rfl) k) ?_
    show G T220 (mkF m 125 ls221 [(.int 4), (.int 0), (.ref b1)])
    have f223 := (Arv.keep f217 K216q (ninS (Nat.ne_of_lt lt_b1_b214) nin0))
    have hK222 := (backOf (R := room_1) (p := p) (e := e) (below := below) (s := s) (args := #[(.int p0), (.long q1), (.int p2), (.int p3)]) (len := 3) (W := 0) (rm_v0 l Z a0 hw [] w_COMPACT_STRINGS w_SIOOBE_FORMATTER b1 (4 : Int32) k1 x0 x1 x2 x3 (123 : Int32) x5 T216.heap n0 (own_old_le O216) ST O216 f223) hZ (ww41 hw) (ww3 hw) (by decide) (by decide))
    obtain ⟨_, _, ⟨T222, L222, k222, n222⟩, -, X222, ⟨Lc222, hQ222, l222, y222, z222⟩, st222⟩ := Jvm.LawKit.callS X220 hx (y := y_1) hown (mvT hZ (ww39 hw)) (mvT hZ (ww40 hw)) (mvT hZ (ww3 hw)) (mvT hZ (ww41 hw)) (by decide) hK222 (g := (mkF m 125 ls221 [(.int 4), (.int 0), (.ref b1)])) rfl (by rw [hml, hls221]; rfl) (argsL := [(.ref b1), (.int 0), (.int 4)]) (rest := []) (lenOf pd_4 rfl) rfl (by show 2 * 0 + _ ≤ _; exact Nat.le_of_eq rfl) (hb hby at_125) (fun _ _ => ⟨rfl, e220, (by decide : 3 + 0 ≤ _), (by decide : 16 + 0 ≤ _)⟩)
    dsimp only [Pt.U, Pt.locs, Pt.cells, Pt.slots] at X222 l222 y222 z222 st222 hQ222
    subst l222 y222 z222
    obtain ⟨rfl, N222q, e222⟩ := hQ222
    have N222 := Fr.app N220 N222q
    obtain ⟨lc222, X222, N222⟩ := own_gen X222 N222
    refine step (fun t k => st222 t k) ?_
    show G T222 (mkF m 128 ls221 [(.int (f_v0 w_COMPACT_STRINGS w_SIOOBE_FORMATTER b1 (4 : Int32) k1 x0 x1 x2 x3 (123 : Int32) x5))])
    obtain ⟨ls224, hls224⟩  := own_sl #[.val (.int p0), .val (.long q1), .second, .val (.int p2), .val (.int p3), .val (.ref b1), .val (.int 4), .val (.int tt), .val (.ref b214), .val (.int (own_go [x0, x1, x2, x3, (123 : Int32), x5] NN (NN - 4) 4 0)), .val (.int (f_v0 w_COMPACT_STRINGS w_SIOOBE_FORMATTER b1 (4 : Int32) k1 x0 x1 x2 x3 (123 : Int32) x5)), .unset, .unset, .unset, .unset, .unset, .unset]
    refine step (fun t k => XS.istore X222.here hx rfl (hb hby at_128) rfl (l' := ls224) (by rw [hls221, hls224]; rfl) k) ?_
    show G T222 (mkF m 130 ls224 [])
    obtain ⟨d0, hd0⟩ : ∃ z : Int32, z = (f_v0 w_COMPACT_STRINGS w_SIOOBE_FORMATTER b1 (4 : Int32) k1 x0 x1 x2 x3 (123 : Int32) x5) := ⟨_, rfl⟩
    obtain ⟨ls225, hls225⟩  := own_sl #[.val (.int p0), .val (.long q1), .second, .val (.int p2), .val (.int p3), .val (.ref b1), .val (.int 4), .val (.int tt), .val (.ref b214), .val (.int (own_go [x0, x1, x2, x3, (123 : Int32), x5] NN (NN - 4) 4 0)), .val (.int d0), .unset, .unset, .unset, .unset, .unset, .unset]
    rw [show ls224 = ls225 from by rw [hls224, hls225, hd0]]
    show G T222 (mkF m 130 ls225 [])
    have hv0 : d0 = 0 := by rw [hd0]; unfold f_v0; rw [if_pos (by decide)]
    refine step (fun t k => XS.iload X222.here hx rfl (hb hby at_130) (by rw [hls225]; rfl) k) ?_
    show G T222 (mkF m 132 ls225 [(.int d0)])
    refine step (fun t k => XS.aload X222.here hx rfl (hb hby at_132) (by rw [hls225]; rfl) rfl k) ?_
    show G T222 (mkF m 134 ls225 [(.ref b1), (.int d0)])
    refine step (fun t k => XS.iconst X222.here hx rfl (hb hby at_134) k) ?_
    show G T222 (mkF m 135 ls225 [(.int 1), (.ref b1), (.int d0)])
    refine step (fun t k => XS.iload X222.here hx rfl (hb hby at_135) (by rw [hls225]; rfl) k) ?_
    show G T222 (mkF m 137 ls225 [(.int 4), (.int 1), (.ref b1), (.int d0)])
    have hK226 := (backOf (R := room_1) (p := p) (e := e) (below := below) (s := s) (args := #[(.int p0), (.long q1), (.int p2), (.int p3)]) (len := 3) (W := 1) (rm_v1 l Z a0 hw [] w_COMPACT_STRINGS w_SIOOBE_FORMATTER b1 (4 : Int32) k1 x0 x1 x2 x3 (123 : Int32) x5 T216.heap n0 (own_old_le O216) ST O216 f223) hZ (ww41 hw) (ww3 hw) (by decide) (by decide))
    obtain ⟨_, _, ⟨T226, L226, k226, n226⟩, -, X226, ⟨Lc226, hQ226, l226, y226, z226⟩, st226⟩ := Jvm.LawKit.callS X222 hx (y := y_1) hown (mvT hZ (ww39 hw)) (mvT hZ (ww40 hw)) (mvT hZ (ww3 hw)) (mvT hZ (ww41 hw)) (by decide) hK226 (g := (mkF m 137 ls225 [(.int 4), (.int 1), (.ref b1), (.int d0)])) rfl (by rw [hml, hls225]; rfl) (argsL := [(.ref b1), (.int 1), (.int 4)]) (rest := [(.int d0)]) (lenOf pd_4 rfl) rfl (by show 2 * 0 + _ ≤ _; exact Nat.le_of_eq rfl) (hb hby at_137) (fun _ _ => ⟨rfl, e222, (by decide : 3 + 0 ≤ _), (by decide : 16 + 0 ≤ _)⟩)
    dsimp only [Pt.U, Pt.locs, Pt.cells, Pt.slots] at X226 l226 y226 z226 st226 hQ226
    subst l226 y226 z226
    obtain ⟨rfl, N226q, e226⟩ := hQ226
    have N226 := Fr.app N222 N226q
    obtain ⟨lc226, X226, N226⟩ := own_gen X226 N226
    refine step (fun t k => st226 t k) ?_
    show G T226 (mkF m 140 ls225 [(.int (f_v1 w_COMPACT_STRINGS w_SIOOBE_FORMATTER b1 (4 : Int32) k1 x0 x1 x2 x3 (123 : Int32) x5)), (.int d0)])
    refine step (fun t k => XS.iadd X226.here hx rfl (hb hby at_140) rfl k) ?_
    show G T226 (mkF m 141 ls225 [(.int (d0 + (f_v1 w_COMPACT_STRINGS w_SIOOBE_FORMATTER b1 (4 : Int32) k1 x0 x1 x2 x3 (123 : Int32) x5)))])
    obtain ⟨ls227, hls227⟩  := own_sl #[.val (.int p0), .val (.long q1), .second, .val (.int p2), .val (.int p3), .val (.ref b1), .val (.int 4), .val (.int tt), .val (.ref b214), .val (.int (own_go [x0, x1, x2, x3, (123 : Int32), x5] NN (NN - 4) 4 0)), .val (.int d0), .val (.int (d0 + (f_v1 w_COMPACT_STRINGS w_SIOOBE_FORMATTER b1 (4 : Int32) k1 x0 x1 x2 x3 (123 : Int32) x5))), .unset, .unset, .unset, .unset, .unset]
    refine step (fun t k => XS.istore X226.here hx rfl (hb hby at_141) rfl (l' := ls227) (by rw [hls225, hls227]; rfl) k) ?_
    show G T226 (mkF m 143 ls227 [])
    obtain ⟨d1, hd1⟩ : ∃ z : Int32, z = (d0 + (f_v1 w_COMPACT_STRINGS w_SIOOBE_FORMATTER b1 (4 : Int32) k1 x0 x1 x2 x3 (123 : Int32) x5)) := ⟨_, rfl⟩
    obtain ⟨ls228, hls228⟩  := own_sl #[.val (.int p0), .val (.long q1), .second, .val (.int p2), .val (.int p3), .val (.ref b1), .val (.int 4), .val (.int tt), .val (.ref b214), .val (.int (own_go [x0, x1, x2, x3, (123 : Int32), x5] NN (NN - 4) 4 0)), .val (.int d0), .val (.int d1), .unset, .unset, .unset, .unset, .unset]
    rw [show ls227 = ls228 from by rw [hls227, hls228, hd1]]
    show G T226 (mkF m 143 ls228 [])
    have hv1 : d1 = 0 := by rw [hd1, hv0]; unfold f_v1; rw [if_pos (by decide)]; rfl
    refine step (fun t k => XS.iload X226.here hx rfl (hb hby at_143) (by rw [hls228]; rfl) k) ?_
    show G T226 (mkF m 145 ls228 [(.int d1)])
    refine step (fun t k => XS.aload X226.here hx rfl (hb hby at_145) (by rw [hls228]; rfl) rfl k) ?_
    show G T226 (mkF m 147 ls228 [(.ref b1), (.int d1)])
    refine step (fun t k => XS.iconst X226.here hx rfl (hb hby at_147) k) ?_
    show G T226 (mkF m 148 ls228 [(.int 2), (.ref b1), (.int d1)])
    refine step (fun t k => XS.iload X226.here hx rfl (hb hby at_148) (by rw [hls228]; rfl) k) ?_
    show G T226 (mkF m 150 ls228 [(.int 4), (.int 2), (.ref b1), (.int d1)])
    have hK229 := (backOf (R := room_1) (p := p) (e := e) (below := below) (s := s) (args := #[(.int p0), (.long q1), (.int p2), (.int p3)]) (len := 3) (W := 1) (rm_v2 l Z a0 hw [] w_COMPACT_STRINGS w_SIOOBE_FORMATTER b1 (4 : Int32) k1 x0 x1 x2 x3 (123 : Int32) x5 T216.heap n0 (own_old_le O216) ST O216 f223) hZ (ww41 hw) (ww3 hw) (by decide) (by decide))
    obtain ⟨_, _, ⟨T229, L229, k229, n229⟩, -, X229, ⟨Lc229, hQ229, l229, y229, z229⟩, st229⟩ := Jvm.LawKit.callS X226 hx (y := y_1) hown (mvT hZ (ww39 hw)) (mvT hZ (ww40 hw)) (mvT hZ (ww3 hw)) (mvT hZ (ww41 hw)) (by decide) hK229 (g := (mkF m 150 ls228 [(.int 4), (.int 2), (.ref b1), (.int d1)])) rfl (by rw [hml, hls228]; rfl) (argsL := [(.ref b1), (.int 2), (.int 4)]) (rest := [(.int d1)]) (lenOf pd_4 rfl) rfl (by show 2 * 0 + _ ≤ _; exact Nat.le_of_eq rfl) (hb hby at_150) (fun _ _ => ⟨rfl, e226, (by decide : 3 + 0 ≤ _), (by decide : 16 + 0 ≤ _)⟩)
    dsimp only [Pt.U, Pt.locs, Pt.cells, Pt.slots] at X229 l229 y229 z229 st229 hQ229
    subst l229 y229 z229
    obtain ⟨rfl, N229q, e229⟩ := hQ229
    have N229 := Fr.app N226 N229q
    obtain ⟨lc229, X229, N229⟩ := own_gen X229 N229
    refine step (fun t k => st229 t k) ?_
    show G T229 (mkF m 153 ls228 [(.int (f_v2 w_COMPACT_STRINGS w_SIOOBE_FORMATTER b1 (4 : Int32) k1 x0 x1 x2 x3 (123 : Int32) x5)), (.int d1)])
    refine step (fun t k => XS.iadd X229.here hx rfl (hb hby at_153) rfl k) ?_
    show G T229 (mkF m 154 ls228 [(.int (d1 + (f_v2 w_COMPACT_STRINGS w_SIOOBE_FORMATTER b1 (4 : Int32) k1 x0 x1 x2 x3 (123 : Int32) x5)))])
    obtain ⟨ls230, hls230⟩  := own_sl #[.val (.int p0), .val (.long q1), .second, .val (.int p2), .val (.int p3), .val (.ref b1), .val (.int 4), .val (.int tt), .val (.ref b214), .val (.int (own_go [x0, x1, x2, x3, (123 : Int32), x5] NN (NN - 4) 4 0)), .val (.int d0), .val (.int d1), .val (.int (d1 + (f_v2 w_COMPACT_STRINGS w_SIOOBE_FORMATTER b1 (4 : Int32) k1 x0 x1 x2 x3 (123 : Int32) x5))), .unset, .unset, .unset, .unset]
    refine step (fun t k => XS.istore X229.here hx rfl (hb hby at_154) rfl (l' := ls230) (by rw [hls228, hls230]; rfl) k) ?_
    show G T229 (mkF m 156 ls230 [])
    obtain ⟨d2, hd2⟩ : ∃ z : Int32, z = (d1 + (f_v2 w_COMPACT_STRINGS w_SIOOBE_FORMATTER b1 (4 : Int32) k1 x0 x1 x2 x3 (123 : Int32) x5)) := ⟨_, rfl⟩
    obtain ⟨ls231, hls231⟩  := own_sl #[.val (.int p0), .val (.long q1), .second, .val (.int p2), .val (.int p3), .val (.ref b1), .val (.int 4), .val (.int tt), .val (.ref b214), .val (.int (own_go [x0, x1, x2, x3, (123 : Int32), x5] NN (NN - 4) 4 0)), .val (.int d0), .val (.int d1), .val (.int d2), .unset, .unset, .unset, .unset]
    rw [show ls230 = ls231 from by rw [hls230, hls231, hd2]]
    show G T229 (mkF m 156 ls231 [])
    have hv2 : d2 = 0 := by rw [hd2, hv1]; unfold f_v2; rw [if_pos (by decide)]; rfl
    refine step (fun t k => XS.iload X229.here hx rfl (hb hby at_156) (by rw [hls231]; rfl) k) ?_
    show G T229 (mkF m 158 ls231 [(.int d2)])
    refine step (fun t k => XS.aload X229.here hx rfl (hb hby at_158) (by rw [hls231]; rfl) rfl k) ?_
    show G T229 (mkF m 160 ls231 [(.ref b1), (.int d2)])
    refine step (fun t k => XS.iconst X229.here hx rfl (hb hby at_160) k) ?_
    show G T229 (mkF m 161 ls231 [(.int 3), (.ref b1), (.int d2)])
    refine step (fun t k => XS.iload X229.here hx rfl (hb hby at_161) (by rw [hls231]; rfl) k) ?_
    show G T229 (mkF m 163 ls231 [(.int 4), (.int 3), (.ref b1), (.int d2)])
    have hK232 := (backOf (R := room_1) (p := p) (e := e) (below := below) (s := s) (args := #[(.int p0), (.long q1), (.int p2), (.int p3)]) (len := 3) (W := 1) (rm_v3 l Z a0 hw [] w_COMPACT_STRINGS w_SIOOBE_FORMATTER b1 (4 : Int32) k1 x0 x1 x2 x3 (123 : Int32) x5 T216.heap n0 (own_old_le O216) ST O216 f223) hZ (ww41 hw) (ww3 hw) (by decide) (by decide))
    obtain ⟨_, _, ⟨T232, L232, k232, n232⟩, -, X232, ⟨Lc232, hQ232, l232, y232, z232⟩, st232⟩ := Jvm.LawKit.callS X229 hx (y := y_1) hown (mvT hZ (ww39 hw)) (mvT hZ (ww40 hw)) (mvT hZ (ww3 hw)) (mvT hZ (ww41 hw)) (by decide) hK232 (g := (mkF m 163 ls231 [(.int 4), (.int 3), (.ref b1), (.int d2)])) rfl (by rw [hml, hls231]; rfl) (argsL := [(.ref b1), (.int 3), (.int 4)]) (rest := [(.int d2)]) (lenOf pd_4 rfl) rfl (by show 2 * 0 + _ ≤ _; exact Nat.le_of_eq rfl) (hb hby at_163) (fun _ _ => ⟨rfl, e229, (by decide : 3 + 0 ≤ _), (by decide : 16 + 0 ≤ _)⟩)
    dsimp only [Pt.U, Pt.locs, Pt.cells, Pt.slots] at X232 l232 y232 z232 st232 hQ232
    subst l232 y232 z232
    obtain ⟨rfl, N232q, e232⟩ := hQ232
    have N232 := Fr.app N229 N232q
    obtain ⟨lc232, X232, N232⟩ := own_gen X232 N232
    refine step (fun t k => st232 t k) ?_
    show G T232 (mkF m 166 ls231 [(.int (f_v3 w_COMPACT_STRINGS w_SIOOBE_FORMATTER b1 (4 : Int32) k1 x0 x1 x2 x3 (123 : Int32) x5)), (.int d2)])
    refine step (fun t k => XS.iadd X232.here hx rfl (hb hby at_166) rfl k) ?_
    show G T232 (mkF m 167 ls231 [(.int (d2 + (f_v3 w_COMPACT_STRINGS w_SIOOBE_FORMATTER b1 (4 : Int32) k1 x0 x1 x2 x3 (123 : Int32) x5)))])
    obtain ⟨ls233, hls233⟩  := own_sl #[.val (.int p0), .val (.long q1), .second, .val (.int p2), .val (.int p3), .val (.ref b1), .val (.int 4), .val (.int tt), .val (.ref b214), .val (.int (own_go [x0, x1, x2, x3, (123 : Int32), x5] NN (NN - 4) 4 0)), .val (.int d0), .val (.int d1), .val (.int d2), .val (.int (d2 + (f_v3 w_COMPACT_STRINGS w_SIOOBE_FORMATTER b1 (4 : Int32) k1 x0 x1 x2 x3 (123 : Int32) x5))), .unset, .unset, .unset]
    refine step (fun t k => XS.istore X232.here hx rfl (hb hby at_167) rfl (l' := ls233) (by rw [hls231, hls233]; rfl) k) ?_
    show G T232 (mkF m 169 ls233 [])
    obtain ⟨d3, hd3⟩ : ∃ z : Int32, z = (d2 + (f_v3 w_COMPACT_STRINGS w_SIOOBE_FORMATTER b1 (4 : Int32) k1 x0 x1 x2 x3 (123 : Int32) x5)) := ⟨_, rfl⟩
    obtain ⟨ls234, hls234⟩  := own_sl #[.val (.int p0), .val (.long q1), .second, .val (.int p2), .val (.int p3), .val (.ref b1), .val (.int 4), .val (.int tt), .val (.ref b214), .val (.int (own_go [x0, x1, x2, x3, (123 : Int32), x5] NN (NN - 4) 4 0)), .val (.int d0), .val (.int d1), .val (.int d2), .val (.int d3), .unset, .unset, .unset]
    rw [show ls233 = ls234 from by rw [hls233, hls234, hd3]]
    show G T232 (mkF m 169 ls234 [])
    have hv3 : d3 = 0 := by rw [hd3, hv2]; unfold f_v3; rw [if_pos (by decide)]; rfl
    refine step (fun t k => XS.iload X232.here hx rfl (hb hby at_169) (by rw [hls234]; rfl) k) ?_
    show G T232 (mkF m 171 ls234 [(.int d3)])
    refine step (fun t k => XS.aload X232.here hx rfl (hb hby at_171) (by rw [hls234]; rfl) rfl k) ?_
    show G T232 (mkF m 173 ls234 [(.ref b1), (.int d3)])
    refine step (fun t k => XS.iconst X232.here hx rfl (hb hby at_173) k) ?_
    show G T232 (mkF m 174 ls234 [(.int 4), (.ref b1), (.int d3)])
    refine step (fun t k => XS.iload X232.here hx rfl (hb hby at_174) (by rw [hls234]; rfl) k) ?_
    show G T232 (mkF m 176 ls234 [(.int 4), (.int 4), (.ref b1), (.int d3)])
    have hK235 := (backOf (R := room_1) (p := p) (e := e) (below := below) (s := s) (args := #[(.int p0), (.long q1), (.int p2), (.int p3)]) (len := 3) (W := 1) (rm_v4 l Z a0 hw [] w_COMPACT_STRINGS w_SIOOBE_FORMATTER b1 (4 : Int32) k1 x0 x1 x2 x3 (123 : Int32) x5 T216.heap n0 (own_old_le O216) ST O216 f223) hZ (ww41 hw) (ww3 hw) (by decide) (by decide))
    obtain ⟨_, _, ⟨T235, L235, k235, n235⟩, -, X235, ⟨Lc235, hQ235, l235, y235, z235⟩, st235⟩ := Jvm.LawKit.callS X232 hx (y := y_1) hown (mvT hZ (ww39 hw)) (mvT hZ (ww40 hw)) (mvT hZ (ww3 hw)) (mvT hZ (ww41 hw)) (by decide) hK235 (g := (mkF m 176 ls234 [(.int 4), (.int 4), (.ref b1), (.int d3)])) rfl (by rw [hml, hls234]; rfl) (argsL := [(.ref b1), (.int 4), (.int 4)]) (rest := [(.int d3)]) (lenOf pd_4 rfl) rfl (by show 2 * 0 + _ ≤ _; exact Nat.le_of_eq rfl) (hb hby at_176) (fun _ _ => ⟨rfl, e232, (by decide : 3 + 0 ≤ _), (by decide : 16 + 0 ≤ _)⟩)
    dsimp only [Pt.U, Pt.locs, Pt.cells, Pt.slots] at X235 l235 y235 z235 st235 hQ235
    subst l235 y235 z235
    obtain ⟨rfl, N235q, e235⟩ := hQ235
    have N235 := Fr.app N232 N235q
    obtain ⟨lc235, X235, N235⟩ := own_gen X235 N235
    refine step (fun t k => st235 t k) ?_
    show G T235 (mkF m 179 ls234 [(.int (f_v4 w_COMPACT_STRINGS w_SIOOBE_FORMATTER b1 (4 : Int32) k1 x0 x1 x2 x3 (123 : Int32) x5)), (.int d3)])
    refine step (fun t k => XS.iadd X235.here hx rfl (hb hby at_179) rfl k) ?_
    show G T235 (mkF m 180 ls234 [(.int (d3 + (f_v4 w_COMPACT_STRINGS w_SIOOBE_FORMATTER b1 (4 : Int32) k1 x0 x1 x2 x3 (123 : Int32) x5)))])
    obtain ⟨ls236, hls236⟩  := own_sl #[.val (.int p0), .val (.long q1), .second, .val (.int p2), .val (.int p3), .val (.ref b1), .val (.int 4), .val (.int tt), .val (.ref b214), .val (.int (own_go [x0, x1, x2, x3, (123 : Int32), x5] NN (NN - 4) 4 0)), .val (.int d0), .val (.int d1), .val (.int d2), .val (.int d3), .val (.int (d3 + (f_v4 w_COMPACT_STRINGS w_SIOOBE_FORMATTER b1 (4 : Int32) k1 x0 x1 x2 x3 (123 : Int32) x5))), .unset, .unset]
    refine step (fun t k => XS.istore X235.here hx rfl (hb hby at_180) rfl (l' := ls236) (by rw [hls234, hls236]; rfl) k) ?_
    show G T235 (mkF m 182 ls236 [])
    obtain ⟨d4, hd4⟩ : ∃ z : Int32, z = (d3 + (f_v4 w_COMPACT_STRINGS w_SIOOBE_FORMATTER b1 (4 : Int32) k1 x0 x1 x2 x3 (123 : Int32) x5)) := ⟨_, rfl⟩
    obtain ⟨ls237, hls237⟩  := own_sl #[.val (.int p0), .val (.long q1), .second, .val (.int p2), .val (.int p3), .val (.ref b1), .val (.int 4), .val (.int tt), .val (.ref b214), .val (.int (own_go [x0, x1, x2, x3, (123 : Int32), x5] NN (NN - 4) 4 0)), .val (.int d0), .val (.int d1), .val (.int d2), .val (.int d3), .val (.int d4), .unset, .unset]
    rw [show ls236 = ls237 from by rw [hls236, hls237, hd4]]
    show G T235 (mkF m 182 ls237 [])
    have hv4 : d4 = 0 + own_vv (123 : Int32) := by rw [hd4, hv3]; unfold f_v4; rw [if_neg (by decide)]; rfl
    refine step (fun t k => XS.iload X235.here hx rfl (hb hby at_182) (by rw [hls237]; rfl) k) ?_
    show G T235 (mkF m 184 ls237 [(.int d4)])
    refine step (fun t k => XS.aload X235.here hx rfl (hb hby at_184) (by rw [hls237]; rfl) rfl k) ?_
    show G T235 (mkF m 186 ls237 [(.ref b1), (.int d4)])
    refine step (fun t k => XS.iconst X235.here hx rfl (hb hby at_186) k) ?_
    show G T235 (mkF m 187 ls237 [(.int 5), (.ref b1), (.int d4)])
    refine step (fun t k => XS.iload X235.here hx rfl (hb hby at_187) (by rw [hls237]; rfl) k) ?_
    show G T235 (mkF m 189 ls237 [(.int 4), (.int 5), (.ref b1), (.int d4)])
    have hK238 := (backOf (R := room_1) (p := p) (e := e) (below := below) (s := s) (args := #[(.int p0), (.long q1), (.int p2), (.int p3)]) (len := 3) (W := 1) (rm_v5 l Z a0 hw [] w_COMPACT_STRINGS w_SIOOBE_FORMATTER b1 (4 : Int32) k1 x0 x1 x2 x3 (123 : Int32) x5 T216.heap n0 (own_old_le O216) ST O216 f223) hZ (ww41 hw) (ww3 hw) (by decide) (by decide))
    obtain ⟨_, _, ⟨T238, L238, k238, n238⟩, -, X238, ⟨Lc238, hQ238, l238, y238, z238⟩, st238⟩ := Jvm.LawKit.callS X235 hx (y := y_1) hown (mvT hZ (ww39 hw)) (mvT hZ (ww40 hw)) (mvT hZ (ww3 hw)) (mvT hZ (ww41 hw)) (by decide) hK238 (g := (mkF m 189 ls237 [(.int 4), (.int 5), (.ref b1), (.int d4)])) rfl (by rw [hml, hls237]; rfl) (argsL := [(.ref b1), (.int 5), (.int 4)]) (rest := [(.int d4)]) (lenOf pd_4 rfl) rfl (by show 2 * 0 + _ ≤ _; exact Nat.le_of_eq rfl) (hb hby at_189) (fun _ _ => ⟨rfl, e235, (by decide : 3 + 0 ≤ _), (by decide : 16 + 0 ≤ _)⟩)
    dsimp only [Pt.U, Pt.locs, Pt.cells, Pt.slots] at X238 l238 y238 z238 st238 hQ238
    subst l238 y238 z238
    obtain ⟨rfl, N238q, e238⟩ := hQ238
    have N238 := Fr.app N235 N238q
    obtain ⟨lc238, X238, N238⟩ := own_gen X238 N238
    refine step (fun t k => st238 t k) ?_
    show G T238 (mkF m 192 ls237 [(.int (f_v5 w_COMPACT_STRINGS w_SIOOBE_FORMATTER b1 (4 : Int32) k1 x0 x1 x2 x3 (123 : Int32) x5)), (.int d4)])
    refine step (fun t k => XS.iadd X238.here hx rfl (hb hby at_192) rfl k) ?_
    show G T238 (mkF m 193 ls237 [(.int (d4 + (f_v5 w_COMPACT_STRINGS w_SIOOBE_FORMATTER b1 (4 : Int32) k1 x0 x1 x2 x3 (123 : Int32) x5)))])
    obtain ⟨ls239, hls239⟩  := own_sl #[.val (.int p0), .val (.long q1), .second, .val (.int p2), .val (.int p3), .val (.ref b1), .val (.int 4), .val (.int tt), .val (.ref b214), .val (.int (own_go [x0, x1, x2, x3, (123 : Int32), x5] NN (NN - 4) 4 0)), .val (.int d0), .val (.int d1), .val (.int d2), .val (.int d3), .val (.int d4), .val (.int (d4 + (f_v5 w_COMPACT_STRINGS w_SIOOBE_FORMATTER b1 (4 : Int32) k1 x0 x1 x2 x3 (123 : Int32) x5))), .unset]
    refine step (fun t k => XS.istore X238.here hx rfl (hb hby at_193) rfl (l' := ls239) (by rw [hls237, hls239]; rfl) k) ?_
    show G T238 (mkF m 195 ls239 [])
    obtain ⟨d5, hd5⟩ : ∃ z : Int32, z = (d4 + (f_v5 w_COMPACT_STRINGS w_SIOOBE_FORMATTER b1 (4 : Int32) k1 x0 x1 x2 x3 (123 : Int32) x5)) := ⟨_, rfl⟩
    obtain ⟨ls240, hls240⟩  := own_sl #[.val (.int p0), .val (.long q1), .second, .val (.int p2), .val (.int p3), .val (.ref b1), .val (.int 4), .val (.int tt), .val (.ref b214), .val (.int (own_go [x0, x1, x2, x3, (123 : Int32), x5] NN (NN - 4) 4 0)), .val (.int d0), .val (.int d1), .val (.int d2), .val (.int d3), .val (.int d4), .val (.int d5), .unset]
    rw [show ls239 = ls240 from by rw [hls239, hls240, hd5]]
    show G T238 (mkF m 195 ls240 [])
    have hv5 : d5 = d4 + own_vv x5 := by rw [hd5]; unfold f_v5; rw [if_neg (by decide)]; rfl
    refine step (fun t k => XS.aload X238.here hx rfl (hb hby at_195) (by rw [hls240]; rfl) rfl k) ?_
    show G T238 (mkF m 197 ls240 [(.ref b1)])
    refine step (fun t k => XS.iconst X238.here hx rfl (hb hby at_197) k) ?_
    show G T238 (mkF m 198 ls240 [(.int 0), (.ref b1)])
    refine step (fun t k => XS.iload X238.here hx rfl (hb hby at_198) (by rw [hls240]; rfl) k) ?_
    show G T238 (mkF m 200 ls240 [(.int 4), (.int 0), (.ref b1)])
    refine step (fun t k => XS.iload X238.here hx rfl (hb hby at_200) (by rw [hls240]; rfl) k) ?_
    show G T238 (mkF m 202 ls240 [(.int tt), (.int 4), (.int 0), (.ref b1)])
    refine step (fun t k => XS.iload X238.here hx rfl (hb hby at_202) (by rw [hls240]; rfl) k) ?_
    show G T238 (mkF m 204 ls240 [(.int d0), (.int tt), (.int 4), (.int 0), (.ref b1)])
    have hK241 := (backOf (R := room_1) (p := p) (e := e) (below := below) (s := s) (args := #[(.int p0), (.long q1), (.int p2), (.int p3)]) (len := 3) (W := 0) (rm_h0 l Z a0 hw [] w_COMPACT_STRINGS w_SIOOBE_FORMATTER b1 (4 : Int32) tt d0 k1 x0 x1 x2 x3 (123 : Int32) x5 T216.heap n0 (own_old_le O216) ST O216 f223) hZ (ww44 hw) (ww3 hw) (by decide) (by decide))
    obtain ⟨_, _, ⟨T241, L241, k241, n241⟩, -, X241, ⟨Lc241, hQ241, l241, y241, z241⟩, st241⟩ := Jvm.LawKit.callS X238 hx (y := y_2) hown (mvT hZ (ww42 hw)) (mvT hZ (ww43 hw)) (mvT hZ (ww3 hw)) (mvT hZ (ww44 hw)) (by decide) hK241 (g := (mkF m 204 ls240 [(.int d0), (.int tt), (.int 4), (.int 0), (.ref b1)])) rfl (by rw [hml, hls240]; rfl) (argsL := [(.ref b1), (.int 0), (.int 4), (.int tt), (.int d0)]) (rest := []) (lenOf pd_5 rfl) rfl (by show 2 * 0 + _ ≤ _; exact Nat.le_of_eq rfl) (hb hby at_204) (fun _ _ => ⟨rfl, e238, (by decide : 3 + 0 ≤ _), (by decide : 16 + 0 ≤ _)⟩)
    dsimp only [Pt.U, Pt.locs, Pt.cells, Pt.slots] at X241 l241 y241 z241 st241 hQ241
    subst l241 y241 z241
    obtain ⟨rfl, N241q, e241⟩ := hQ241
    have N241 := Fr.app N238 N241q
    obtain ⟨lc241, X241, N241⟩ := own_gen X241 N241
    refine step (fun t k => st241 t k) ?_
    show G T241 (mkF m 207 ls240 [(.int (f_h0 w_COMPACT_STRINGS w_SIOOBE_FORMATTER b1 (4 : Int32) tt d0 k1 x0 x1 x2 x3 (123 : Int32) x5))])
    refine step (fun t k => XS.ifYes X241.here hx rfl (pc0 := 207) (pc' := 216) rfl (hb hby at_207) rfl ((if0 _ _).trans (teq (by unfold f_h0; rw [if_pos (by decide)])).1) (by decide) (by decide) k) ?_
    show G T241 (mkF m 216 ls240 [])
    refine step (fun t k => XS.aload X241.here hx rfl (hb hby at_216) (by rw [hls240]; rfl) rfl k) ?_
    show G T241 (mkF m 218 ls240 [(.ref b1)])
    refine step (fun t k => XS.iconst X241.here hx rfl (hb hby at_218) k) ?_
    show G T241 (mkF m 219 ls240 [(.int 1), (.ref b1)])
    refine step (fun t k => XS.iload X241.here hx rfl (hb hby at_219) (by rw [hls240]; rfl) k) ?_
    show G T241 (mkF m 221 ls240 [(.int 4), (.int 1), (.ref b1)])
    refine step (fun t k => XS.iload X241.here hx rfl (hb hby at_221) (by rw [hls240]; rfl) k) ?_
    show G T241 (mkF m 223 ls240 [(.int tt), (.int 4), (.int 1), (.ref b1)])
    refine step (fun t k => XS.iload X241.here hx rfl (hb hby at_223) (by rw [hls240]; rfl) k) ?_
    show G T241 (mkF m 225 ls240 [(.int d1), (.int tt), (.int 4), (.int 1), (.ref b1)])
    have hK242 := (backOf (R := room_1) (p := p) (e := e) (below := below) (s := s) (args := #[(.int p0), (.long q1), (.int p2), (.int p3)]) (len := 3) (W := 0) (rm_h1 l Z a0 hw [] w_COMPACT_STRINGS w_SIOOBE_FORMATTER b1 (4 : Int32) tt d1 k1 x0 x1 x2 x3 (123 : Int32) x5 T216.heap n0 (own_old_le O216) ST O216 f223) hZ (ww44 hw) (ww3 hw) (by decide) (by decide))
    obtain ⟨_, _, ⟨T242, L242, k242, n242⟩, -, X242, ⟨Lc242, hQ242, l242, y242, z242⟩, st242⟩ := Jvm.LawKit.callS X241 hx (y := y_2) hown (mvT hZ (ww42 hw)) (mvT hZ (ww43 hw)) (mvT hZ (ww3 hw)) (mvT hZ (ww44 hw)) (by decide) hK242 (g := (mkF m 225 ls240 [(.int d1), (.int tt), (.int 4), (.int 1), (.ref b1)])) rfl (by rw [hml, hls240]; rfl) (argsL := [(.ref b1), (.int 1), (.int 4), (.int tt), (.int d1)]) (rest := []) (lenOf pd_5 rfl) rfl (by show 2 * 0 + _ ≤ _; exact Nat.le_of_eq rfl) (hb hby at_225) (fun _ _ => ⟨rfl, e241, (by decide : 3 + 0 ≤ _), (by decide : 16 + 0 ≤ _)⟩)
    dsimp only [Pt.U, Pt.locs, Pt.cells, Pt.slots] at X242 l242 y242 z242 st242 hQ242
    subst l242 y242 z242
    obtain ⟨rfl, N242q, e242⟩ := hQ242
    have N242 := Fr.app N241 N242q
    obtain ⟨lc242, X242, N242⟩ := own_gen X242 N242
    refine step (fun t k => st242 t k) ?_
    show G T242 (mkF m 228 ls240 [(.int (f_h1 w_COMPACT_STRINGS w_SIOOBE_FORMATTER b1 (4 : Int32) tt d1 k1 x0 x1 x2 x3 (123 : Int32) x5))])
    refine step (fun t k => XS.ifYes X242.here hx rfl (pc0 := 228) (pc' := 237) rfl (hb hby at_228) rfl ((if0 _ _).trans (teq (by unfold f_h1; rw [if_pos (by decide)])).1) (by decide) (by decide) k) ?_
    show G T242 (mkF m 237 ls240 [])
    refine step (fun t k => XS.aload X242.here hx rfl (hb hby at_237) (by rw [hls240]; rfl) rfl k) ?_
    show G T242 (mkF m 239 ls240 [(.ref b1)])
    refine step (fun t k => XS.iconst X242.here hx rfl (hb hby at_239) k) ?_
    show G T242 (mkF m 240 ls240 [(.int 2), (.ref b1)])
    refine step (fun t k => XS.iload X242.here hx rfl (hb hby at_240) (by rw [hls240]; rfl) k) ?_
    show G T242 (mkF m 242 ls240 [(.int 4), (.int 2), (.ref b1)])
    refine step (fun t k => XS.iload X242.here hx rfl (hb hby at_242) (by rw [hls240]; rfl) k) ?_
    show G T242 (mkF m 244 ls240 [(.int tt), (.int 4), (.int 2), (.ref b1)])
    refine step (fun t k => XS.iload X242.here hx rfl (hb hby at_244) (by rw [hls240]; rfl) k) ?_
    show G T242 (mkF m 246 ls240 [(.int d2), (.int tt), (.int 4), (.int 2), (.ref b1)])
    have hK243 := (backOf (R := room_1) (p := p) (e := e) (below := below) (s := s) (args := #[(.int p0), (.long q1), (.int p2), (.int p3)]) (len := 3) (W := 0) (rm_h2 l Z a0 hw [] w_COMPACT_STRINGS w_SIOOBE_FORMATTER b1 (4 : Int32) tt d2 k1 x0 x1 x2 x3 (123 : Int32) x5 T216.heap n0 (own_old_le O216) ST O216 f223) hZ (ww44 hw) (ww3 hw) (by decide) (by decide))
    obtain ⟨_, _, ⟨T243, L243, k243, n243⟩, -, X243, ⟨Lc243, hQ243, l243, y243, z243⟩, st243⟩ := Jvm.LawKit.callS X242 hx (y := y_2) hown (mvT hZ (ww42 hw)) (mvT hZ (ww43 hw)) (mvT hZ (ww3 hw)) (mvT hZ (ww44 hw)) (by decide) hK243 (g := (mkF m 246 ls240 [(.int d2), (.int tt), (.int 4), (.int 2), (.ref b1)])) rfl (by rw [hml, hls240]; rfl) (argsL := [(.ref b1), (.int 2), (.int 4), (.int tt), (.int d2)]) (rest := []) (lenOf pd_5 rfl) rfl (by show 2 * 0 + _ ≤ _; exact Nat.le_of_eq rfl) (hb hby at_246) (fun _ _ => ⟨rfl, e242, (by decide : 3 + 0 ≤ _), (by decide : 16 + 0 ≤ _)⟩)
    dsimp only [Pt.U, Pt.locs, Pt.cells, Pt.slots] at X243 l243 y243 z243 st243 hQ243
    subst l243 y243 z243
    obtain ⟨rfl, N243q, e243⟩ := hQ243
    have N243 := Fr.app N242 N243q
    obtain ⟨lc243, X243, N243⟩ := own_gen X243 N243
    refine step (fun t k => st243 t k) ?_
    show G T243 (mkF m 249 ls240 [(.int (f_h2 w_COMPACT_STRINGS w_SIOOBE_FORMATTER b1 (4 : Int32) tt d2 k1 x0 x1 x2 x3 (123 : Int32) x5))])
    refine step (fun t k => XS.ifYes X243.here hx rfl (pc0 := 249) (pc' := 258) rfl (hb hby at_249) rfl ((if0 _ _).trans (teq (by unfold f_h2; rw [if_pos (by decide)])).1) (by decide) (by decide) k) ?_
    show G T243 (mkF m 258 ls240 [])
    refine step (fun t k => XS.aload X243.here hx rfl (hb hby at_258) (by rw [hls240]; rfl) rfl k) ?_
    show G T243 (mkF m 260 ls240 [(.ref b1)])
    refine step (fun t k => XS.iconst X243.here hx rfl (hb hby at_260) k) ?_
    show G T243 (mkF m 261 ls240 [(.int 3), (.ref b1)])
    refine step (fun t k => XS.iload X243.here hx rfl (hb hby at_261) (by rw [hls240]; rfl) k) ?_
    show G T243 (mkF m 263 ls240 [(.int 4), (.int 3), (.ref b1)])
    refine step (fun t k => XS.iload X243.here hx rfl (hb hby at_263) (by rw [hls240]; rfl) k) ?_
    show G T243 (mkF m 265 ls240 [(.int tt), (.int 4), (.int 3), (.ref b1)])
    refine step (fun t k => XS.iload X243.here hx rfl (hb hby at_265) (by rw [hls240]; rfl) k) ?_
    show G T243 (mkF m 267 ls240 [(.int d3), (.int tt), (.int 4), (.int 3), (.ref b1)])
    have hK244 := (backOf (R := room_1) (p := p) (e := e) (below := below) (s := s) (args := #[(.int p0), (.long q1), (.int p2), (.int p3)]) (len := 3) (W := 0) (rm_h3 l Z a0 hw [] w_COMPACT_STRINGS w_SIOOBE_FORMATTER b1 (4 : Int32) tt d3 k1 x0 x1 x2 x3 (123 : Int32) x5 T216.heap n0 (own_old_le O216) ST O216 f223) hZ (ww44 hw) (ww3 hw) (by decide) (by decide))
    obtain ⟨_, _, ⟨T244, L244, k244, n244⟩, -, X244, ⟨Lc244, hQ244, l244, y244, z244⟩, st244⟩ := Jvm.LawKit.callS X243 hx (y := y_2) hown (mvT hZ (ww42 hw)) (mvT hZ (ww43 hw)) (mvT hZ (ww3 hw)) (mvT hZ (ww44 hw)) (by decide) hK244 (g := (mkF m 267 ls240 [(.int d3), (.int tt), (.int 4), (.int 3), (.ref b1)])) rfl (by rw [hml, hls240]; rfl) (argsL := [(.ref b1), (.int 3), (.int 4), (.int tt), (.int d3)]) (rest := []) (lenOf pd_5 rfl) rfl (by show 2 * 0 + _ ≤ _; exact Nat.le_of_eq rfl) (hb hby at_267) (fun _ _ => ⟨rfl, e243, (by decide : 3 + 0 ≤ _), (by decide : 16 + 0 ≤ _)⟩)
    dsimp only [Pt.U, Pt.locs, Pt.cells, Pt.slots] at X244 l244 y244 z244 st244 hQ244
    subst l244 y244 z244
    obtain ⟨rfl, N244q, e244⟩ := hQ244
    have N244 := Fr.app N243 N244q
    obtain ⟨lc244, X244, N244⟩ := own_gen X244 N244
    refine step (fun t k => st244 t k) ?_
    show G T244 (mkF m 270 ls240 [(.int (f_h3 w_COMPACT_STRINGS w_SIOOBE_FORMATTER b1 (4 : Int32) tt d3 k1 x0 x1 x2 x3 (123 : Int32) x5))])
    refine step (fun t k => XS.ifYes X244.here hx rfl (pc0 := 270) (pc' := 279) rfl (hb hby at_270) rfl ((if0 _ _).trans (teq (by unfold f_h3; rw [if_pos (by decide)])).1) (by decide) (by decide) k) ?_
    show G T244 (mkF m 279 ls240 [])
    refine step (fun t k => XS.aload X244.here hx rfl (hb hby at_279) (by rw [hls240]; rfl) rfl k) ?_
    show G T244 (mkF m 281 ls240 [(.ref b1)])
    refine step (fun t k => XS.iconst X244.here hx rfl (hb hby at_281) k) ?_
    show G T244 (mkF m 282 ls240 [(.int 4), (.ref b1)])
    refine step (fun t k => XS.iload X244.here hx rfl (hb hby at_282) (by rw [hls240]; rfl) k) ?_
    show G T244 (mkF m 284 ls240 [(.int 4), (.int 4), (.ref b1)])
    refine step (fun t k => XS.iload X244.here hx rfl (hb hby at_284) (by rw [hls240]; rfl) k) ?_
    show G T244 (mkF m 286 ls240 [(.int tt), (.int 4), (.int 4), (.ref b1)])
    refine step (fun t k => XS.iload X244.here hx rfl (hb hby at_286) (by rw [hls240]; rfl) k) ?_
    show G T244 (mkF m 288 ls240 [(.int d4), (.int tt), (.int 4), (.int 4), (.ref b1)])
    have hK245 := (backOf (R := room_1) (p := p) (e := e) (below := below) (s := s) (args := #[(.int p0), (.long q1), (.int p2), (.int p3)]) (len := 3) (W := 0) (rm_h4 l Z a0 hw [] w_COMPACT_STRINGS w_SIOOBE_FORMATTER b1 (4 : Int32) tt d4 k1 x0 x1 x2 x3 (123 : Int32) x5 T216.heap n0 (own_old_le O216) ST O216 f223) hZ (ww44 hw) (ww3 hw) (by decide) (by decide))
    obtain ⟨_, _, ⟨T245, L245, k245, n245⟩, -, X245, ⟨Lc245, hQ245, l245, y245, z245⟩, st245⟩ := Jvm.LawKit.callS X244 hx (y := y_2) hown (mvT hZ (ww42 hw)) (mvT hZ (ww43 hw)) (mvT hZ (ww3 hw)) (mvT hZ (ww44 hw)) (by decide) hK245 (g := (mkF m 288 ls240 [(.int d4), (.int tt), (.int 4), (.int 4), (.ref b1)])) rfl (by rw [hml, hls240]; rfl) (argsL := [(.ref b1), (.int 4), (.int 4), (.int tt), (.int d4)]) (rest := []) (lenOf pd_5 rfl) rfl (by show 2 * 0 + _ ≤ _; exact Nat.le_of_eq rfl) (hb hby at_288) (fun _ _ => ⟨rfl, e244, (by decide : 3 + 0 ≤ _), (by decide : 16 + 0 ≤ _)⟩)
    dsimp only [Pt.U, Pt.locs, Pt.cells, Pt.slots] at X245 l245 y245 z245 st245 hQ245
    subst l245 y245 z245
    obtain ⟨rfl, N245q, e245⟩ := hQ245
    have N245 := Fr.app N244 N245q
    obtain ⟨lc245, X245, N245⟩ := own_gen X245 N245
    refine step (fun t k => st245 t k) ?_
    show G T245 (mkF m 291 ls240 [(.int (f_h4 w_COMPACT_STRINGS w_SIOOBE_FORMATTER b1 (4 : Int32) tt d4 k1 x0 x1 x2 x3 (123 : Int32) x5))])
    by_cases hc246 : (f_h4 w_COMPACT_STRINGS w_SIOOBE_FORMATTER b1 (4 : Int32) tt d4 k1 x0 x1 x2 x3 (123 : Int32) x5) = (0 : Int32)
    · skip
      refine step (fun t k => XS.ifYes X245.here hx rfl (pc0 := 291) (pc' := 300) rfl (hb hby at_291) rfl ((if0 _ _).trans (teq hc246).1) (by decide) (by decide) k) ?_
      show G T245 (mkF m 300 ls240 [])
      refine step (fun t k => XS.aload X245.here hx rfl (hb hby at_300) (by rw [hls240]; rfl) rfl k) ?_
      show G T245 (mkF m 302 ls240 [(.ref b1)])
      refine step (fun t k => XS.iconst X245.here hx rfl (hb hby at_302) k) ?_
      show G T245 (mkF m 303 ls240 [(.int 5), (.ref b1)])
      refine step (fun t k => XS.iload X245.here hx rfl (hb hby at_303) (by rw [hls240]; rfl) k) ?_
      show G T245 (mkF m 305 ls240 [(.int 4), (.int 5), (.ref b1)])
      refine step (fun t k => XS.iload X245.here hx rfl (hb hby at_305) (by rw [hls240]; rfl) k) ?_
      show G T245 (mkF m 307 ls240 [(.int tt), (.int 4), (.int 5), (.ref b1)])
      refine step (fun t k => XS.iload X245.here hx rfl (hb hby at_307) (by rw [hls240]; rfl) k) ?_
      show G T245 (mkF m 309 ls240 [(.int d5), (.int tt), (.int 4), (.int 5), (.ref b1)])
      have hK247 := (backOf (R := room_1) (p := p) (e := e) (below := below) (s := s) (args := #[(.int p0), (.long q1), (.int p2), (.int p3)]) (len := 3) (W := 0) (rm_h5 l Z a0 hw [] w_COMPACT_STRINGS w_SIOOBE_FORMATTER b1 (4 : Int32) tt d5 k1 x0 x1 x2 x3 (123 : Int32) x5 T216.heap n0 (own_old_le O216) ST O216 f223) hZ (ww44 hw) (ww3 hw) (by decide) (by decide))
      obtain ⟨_, _, ⟨T247, L247, k247, n247⟩, -, X247, ⟨Lc247, hQ247, l247, y247, z247⟩, st247⟩ := Jvm.LawKit.callS X245 hx (y := y_2) hown (mvT hZ (ww42 hw)) (mvT hZ (ww43 hw)) (mvT hZ (ww3 hw)) (mvT hZ (ww44 hw)) (by decide) hK247 (g := (mkF m 309 ls240 [(.int d5), (.int tt), (.int 4), (.int 5), (.ref b1)])) rfl (by rw [hml, hls240]; rfl) (argsL := [(.ref b1), (.int 5), (.int 4), (.int tt), (.int d5)]) (rest := []) (lenOf pd_5 rfl) rfl (by show 2 * 0 + _ ≤ _; exact Nat.le_of_eq rfl) (hb hby at_309) (fun _ _ => ⟨rfl, e245, (by decide : 3 + 0 ≤ _), (by decide : 16 + 0 ≤ _)⟩)
      dsimp only [Pt.U, Pt.locs, Pt.cells, Pt.slots] at X247 l247 y247 z247 st247 hQ247
      subst l247 y247 z247
      obtain ⟨rfl, N247q, e247⟩ := hQ247
      have N247 := Fr.app N245 N247q
      obtain ⟨lc247, X247, N247⟩ := own_gen X247 N247
      refine step (fun t k => st247 t k) ?_
      show G T247 (mkF m 312 ls240 [(.int (f_h5 w_COMPACT_STRINGS w_SIOOBE_FORMATTER b1 (4 : Int32) tt d5 k1 x0 x1 x2 x3 (123 : Int32) x5))])
      by_cases hc248 : (f_h5 w_COMPACT_STRINGS w_SIOOBE_FORMATTER b1 (4 : Int32) tt d5 k1 x0 x1 x2 x3 (123 : Int32) x5) = (0 : Int32)
      · skip
        refine step (fun t k => XS.ifYes X247.here hx rfl (pc0 := 312) (pc' := 321) rfl (hb hby at_312) rfl ((if0 _ _).trans (teq hc248).1) (by decide) (by decide) k) ?_
        show G T247 (mkF m 321 ls240 [])
        refine step (fun t k => XS.iload X247.here hx rfl (hb hby at_321) (by rw [hls240]; rfl) k) ?_
        show G T247 (mkF m 323 ls240 [(.int tt)])
        obtain ⟨ls249, hls249⟩  := own_sl #[.val (.int p0), .val (.long q1), .second, .val (.int p2), .val (.int p3), .val (.ref b1), .val (.int 4), .val (.int tt), .val (.ref b214), .val (.int (own_go [x0, x1, x2, x3, (123 : Int32), x5] NN (NN - 4) 4 0)), .val (.int d0), .val (.int d1), .val (.int d2), .val (.int d3), .val (.int d4), .val (.int d5), .val (.int tt)]
        refine step (fun t k => XS.istore X247.here hx rfl (hb hby at_323) rfl (l' := ls249) (by rw [hls240, hls249]; rfl) k) ?_
        show G T247 (mkF m 325 ls249 [])
        refine step (fun t k => XS.iload X247.here hx rfl (hb hby at_325) (by rw [hls249]; rfl) k) ?_
        show G T247 (mkF m 327 ls249 [(.int (own_go [x0, x1, x2, x3, (123 : Int32), x5] NN (NN - 4) 4 0))])
        refine step (fun t k => XS.iload X247.here hx rfl (hb hby at_327) (by rw [hls249]; rfl) k) ?_
        show G T247 (mkF m 329 ls249 [(.int tt), (.int (own_go [x0, x1, x2, x3, (123 : Int32), x5] NN (NN - 4) 4 0))])
        refine step (fun t k => XS.icmpNo X247.here hx rfl (hb hby at_329) rfl (teq ((own_fin4 x0 x1 x2 x3 (123 : Int32) x5 d4 d5 NN hKN hN6 hv4 hv5).trans (by rw [if_neg (own_hn4 (by decide) hNN hN6 hc246), if_neg (own_hn5 (by decide) hNN hN6 hc248)]; exact hNN.symm))).2 k) ?_
        show G T247 (mkF m 332 ls249 [])
        refine step (fun t k => XS.iconst X247.here hx rfl (hb hby at_332) k) ?_
        show G T247 (mkF m 333 ls249 [(.int 1)])
        refine step (fun t k => XS.goto X247.here hx rfl (pc0 := 333) (pc' := 337) rfl (hb hby at_333) (by decide) (by decide) k) ?_
        show G T247 (mkF m 337 ls249 [(.int 1)])
        exact ret (v := some (.int 1)) X247 (fun h => by rw [Bd.returns] at h; cases h) (fun fs hr => retN X247 hx (t := .boolean) Bd.returns (by simp) (hb hby at_337) hr) e247 ⟨rfl, N247⟩ (by decide) (by decide)
      · skip
        refine step (fun t k => XS.ifNo X247.here hx rfl (hb hby at_312) rfl ((if0 _ _).trans (feq hc248).1) k) ?_
        show G T247 (mkF m 315 ls240 [])
        refine step (fun t k => XS.iconst X247.here hx rfl (hb hby at_315) k) ?_
        show G T247 (mkF m 316 ls240 [(.int 5)])
        obtain ⟨ls250, hls250⟩  := own_sl #[.val (.int p0), .val (.long q1), .second, .val (.int p2), .val (.int p3), .val (.ref b1), .val (.int 4), .val (.int tt), .val (.ref b214), .val (.int (own_go [x0, x1, x2, x3, (123 : Int32), x5] NN (NN - 4) 4 0)), .val (.int d0), .val (.int d1), .val (.int d2), .val (.int d3), .val (.int d4), .val (.int d5), .val (.int 5)]
        refine step (fun t k => XS.istore X247.here hx rfl (hb hby at_316) rfl (l' := ls250) (by rw [hls240, hls250]; rfl) k) ?_
        show G T247 (mkF m 318 ls250 [])
        refine step (fun t k => XS.goto X247.here hx rfl (pc0 := 318) (pc' := 325) rfl (hb hby at_318) (by decide) (by decide) k) ?_
        show G T247 (mkF m 325 ls250 [])
        refine step (fun t k => XS.iload X247.here hx rfl (hb hby at_325) (by rw [hls250]; rfl) k) ?_
        show G T247 (mkF m 327 ls250 [(.int (own_go [x0, x1, x2, x3, (123 : Int32), x5] NN (NN - 4) 4 0))])
        refine step (fun t k => XS.iload X247.here hx rfl (hb hby at_327) (by rw [hls250]; rfl) k) ?_
        show G T247 (mkF m 329 ls250 [(.int 5), (.int (own_go [x0, x1, x2, x3, (123 : Int32), x5] NN (NN - 4) 4 0))])
        refine step (fun t k => XS.icmpNo X247.here hx rfl (hb hby at_329) rfl (teq ((own_fin4 x0 x1 x2 x3 (123 : Int32) x5 d4 d5 NN hKN hN6 hv4 hv5).trans (by rw [if_neg (own_hn4 (by decide) hNN hN6 hc246), if_pos (own_hy5 (by decide) hNN hN6 hc248)]))).2 k) ?_
        show G T247 (mkF m 332 ls250 [])
        refine step (fun t k => XS.iconst X247.here hx rfl (hb hby at_332) k) ?_
        show G T247 (mkF m 333 ls250 [(.int 1)])
        refine step (fun t k => XS.goto X247.here hx rfl (pc0 := 333) (pc' := 337) rfl (hb hby at_333) (by decide) (by decide) k) ?_
        show G T247 (mkF m 337 ls250 [(.int 1)])
        exact ret (v := some (.int 1)) X247 (fun h => by rw [Bd.returns] at h; cases h) (fun fs hr => retN X247 hx (t := .boolean) Bd.returns (by simp) (hb hby at_337) hr) e247 ⟨rfl, N247⟩ (by decide) (by decide)
    · skip
      refine step (fun t k => XS.ifNo X245.here hx rfl (hb hby at_291) rfl ((if0 _ _).trans (feq hc246).1) k) ?_
      show G T245 (mkF m 294 ls240 [])
      refine step (fun t k => XS.iconst X245.here hx rfl (hb hby at_294) k) ?_
      show G T245 (mkF m 295 ls240 [(.int 4)])
      obtain ⟨ls251, hls251⟩  := own_sl #[.val (.int p0), .val (.long q1), .second, .val (.int p2), .val (.int p3), .val (.ref b1), .val (.int 4), .val (.int tt), .val (.ref b214), .val (.int (own_go [x0, x1, x2, x3, (123 : Int32), x5] NN (NN - 4) 4 0)), .val (.int d0), .val (.int d1), .val (.int d2), .val (.int d3), .val (.int d4), .val (.int d5), .val (.int 4)]
      refine step (fun t k => XS.istore X245.here hx rfl (hb hby at_295) rfl (l' := ls251) (by rw [hls240, hls251]; rfl) k) ?_
      show G T245 (mkF m 297 ls251 [])
      refine step (fun t k => XS.goto X245.here hx rfl (pc0 := 297) (pc' := 325) rfl (hb hby at_297) (by decide) (by decide) k) ?_
      show G T245 (mkF m 325 ls251 [])
      refine step (fun t k => XS.iload X245.here hx rfl (hb hby at_325) (by rw [hls251]; rfl) k) ?_
      show G T245 (mkF m 327 ls251 [(.int (own_go [x0, x1, x2, x3, (123 : Int32), x5] NN (NN - 4) 4 0))])
      refine step (fun t k => XS.iload X245.here hx rfl (hb hby at_327) (by rw [hls251]; rfl) k) ?_
      show G T245 (mkF m 329 ls251 [(.int 4), (.int (own_go [x0, x1, x2, x3, (123 : Int32), x5] NN (NN - 4) 4 0))])
      refine step (fun t k => XS.icmpNo X245.here hx rfl (hb hby at_329) rfl (teq ((own_fin4 x0 x1 x2 x3 (123 : Int32) x5 d4 d5 NN hKN hN6 hv4 hv5).trans (by rw [if_pos (own_hy4 (by decide) hNN hN6 hc246)]))).2 k) ?_
      show G T245 (mkF m 332 ls251 [])
      refine step (fun t k => XS.iconst X245.here hx rfl (hb hby at_332) k) ?_
      show G T245 (mkF m 333 ls251 [(.int 1)])
      refine step (fun t k => XS.goto X245.here hx rfl (pc0 := 333) (pc' := 337) rfl (hb hby at_333) (by decide) (by decide) k) ?_
      show G T245 (mkF m 337 ls251 [(.int 1)])
      exact ret (v := some (.int 1)) X245 (fun h => by rw [Bd.returns] at h; cases h) (fun fs hr => retN X245 hx (t := .boolean) Bd.returns (by simp) (hb hby at_337) hr) e245 ⟨rfl, N245⟩ (by decide) (by decide)
  · skip
    obtain ⟨ls252, hls252⟩  := own_sl #[.val (.int p0), .val (.long q1), .second, .val (.int p2), .val (.int p3), .val (.ref b1), .val (.int 5), .unset, .unset, .unset, .unset, .unset, .unset, .unset, .unset, .unset, .unset]
    rw [show ls16 = ls252 from by rw [hls16, hls252, hO]]
    show G T14 (mkF m 75 ls252 [])
    refine step (fun t k => XS.iload X14.here hx rfl (hb hby at_75) (by rw [hls252]; rfl) k) ?_
    show G T14 (mkF m 77 ls252 [(.int 5)])
    refine step (fun t k => XS.iload X14.here hx rfl (hb hby at_77) (by rw [hls252]; rfl) k) ?_
    show G T14 (mkF m 79 ls252 [(.int p3), (.int 5)])
    have q253 := X14.ldcInt hx hown (mvT hZ (ww5 hw)) (g := (mkF m 79 ls252 [(.int p3), (.int 5)])) rfl (hb hby at_79)
    refine step q253 ?_
    show G T14 (mkF m 81 ls252 [(.int 2147483647), (.int p3), (.int 5)])
    refine step (fun t k => XS.iand X14.here hx rfl (hb hby at_81) rfl k) ?_
    show G T14 (mkF m 82 ls252 [(.int (p3 &&& (2147483647 : Int32))), (.int 5)])
    refine step (fun t k => XS.bipush X14.here hx rfl (hb hby at_82) k) ?_
    show G T14 (mkF m 84 ls252 [(.int 7), (.int (p3 &&& (2147483647 : Int32))), (.int 5)])
    refine step (fun t k => XS.iload X14.here hx rfl (hb hby at_84) (by rw [hls252]; rfl) k) ?_
    show G T14 (mkF m 86 ls252 [(.int 5), (.int 7), (.int (p3 &&& (2147483647 : Int32))), (.int 5)])
    refine step (fun t k => XS.isub X14.here hx rfl (hb hby at_86) rfl k) ?_
    show G T14 (mkF m 87 ls252 [(.int ((7 : Int32) - (5 : Int32))), (.int (p3 &&& (2147483647 : Int32))), (.int 5)])
    rw [(by decide : ((7 : Int32) - (5 : Int32)) = (2 : Int32))]
    show G T14 (mkF m 87 ls252 [(.int 2), (.int (p3 &&& (2147483647 : Int32))), (.int 5)])
    refine step (fun t k => iremM X14 hx rfl (hb hby at_87) rfl (by decide) k) ?_
    show G T14 (mkF m 88 ls252 [(.int ((p3 &&& (2147483647 : Int32)) % (2 : Int32))), (.int 5)])
    refine step (fun t k => XS.iadd X14.here hx rfl (hb hby at_88) rfl k) ?_
    show G T14 (mkF m 89 ls252 [(.int ((5 : Int32) + ((p3 &&& (2147483647 : Int32)) % (2 : Int32))))])
    obtain ⟨ls254, hls254⟩  := own_sl #[.val (.int p0), .val (.long q1), .second, .val (.int p2), .val (.int p3), .val (.ref b1), .val (.int 5), .val (.int ((5 : Int32) + ((p3 &&& (2147483647 : Int32)) % (2 : Int32)))), .unset, .unset, .unset, .unset, .unset, .unset, .unset, .unset, .unset]
    refine step (fun t k => XS.istore X14.here hx rfl (hb hby at_89) rfl (l' := ls254) (by rw [hls252, hls254]; rfl) k) ?_
    show G T14 (mkF m 91 ls254 [])
    obtain ⟨tt, htt⟩ : ∃ z : Int32, z = ((5 : Int32) + ((p3 &&& (2147483647 : Int32)) % (2 : Int32))) := ⟨_, rfl⟩
    obtain ⟨ls255, hls255⟩  := own_sl #[.val (.int p0), .val (.long q1), .second, .val (.int p2), .val (.int p3), .val (.ref b1), .val (.int 5), .val (.int tt), .unset, .unset, .unset, .unset, .unset, .unset, .unset, .unset, .unset]
    rw [show ls254 = ls255 from by rw [hls254, hls255, htt]]
    show G T14 (mkF m 91 ls255 [])
    obtain ⟨NN, hNN, hKN, hN6⟩ := own_to5 p3 tt htt
    refine step (fun t k => XS.aload X14.here hx rfl (hb hby at_91) (by rw [hls255]; rfl) rfl k) ?_
    show G T14 (mkF m 93 ls255 [(.ref b1)])
    refine step (fun t k => XS.iload X14.here hx rfl (hb hby at_93) (by rw [hls255]; rfl) k) ?_
    show G T14 (mkF m 95 ls255 [(.int 5), (.ref b1)])
    refine step (fun t k => XS.bipush X14.here hx rfl (hb hby at_95) k) ?_
    show G T14 (mkF m 97 ls255 [(.int 123), (.int 5), (.ref b1)])
    obtain ⟨T256, h256, X256, e256, W256, V256, st256⟩ := own_stC X14 hx hZ e14 V14 (j := (5 : Int32)) (by decide) (i := 5) rfl (by show 5 < 6; decide) (g := (mkF m 97 ls255 [(.int 123), (.int 5), (.ref b1)])) rfl rfl (hb hby at_97)
    replace V256 : Arv Z h256 b1 k1 .char (6 : Int32) [(.int x0), (.int x1), (.int x2), (.int x3), (.int x4), (.int 123)] (.int 0) := by rw [own_narc (by decide : ¬ (123 : Int32) < 0 ∧ ¬ (255 : Int32) < (123 : Int32))] at V256; exact V256
    have N256 := Fr.snoc X256 N14 ge_b1
    obtain ⟨lc256, X256, N256⟩ := own_gen X256 N256
    have O256 := O14.wr W256 ge_b1
    refine step st256 ?_
    show G T256 (mkF m 98 ls255 [])
    have f258 := (Exa.wr W256 (Exa.wr W14 (Exa.wr W12 (Exa.wr W10 (Exa.wr W8 (Exa.wr W6 (Exa.wr W4 B1)))))))
    obtain ⟨T257, h257, X257, e257, E257, A257, D257, -, st257⟩ := newO X256 hx hZ hown (ww6 hw) (ww7 hw) (ww8 hw) e256 (g := (mkF m 98 ls255 [])) rfl (hb hby at_98) (by decide) (by decide)
    obtain ⟨b257, g257⟩ : ∃ z, z = h256.size := ⟨_, rfl⟩
    rw [← g257] at A257 D257 st257
    have ge_b257 : n0 ≤ b257 := Nat.le_trans (own_old_le O256) (Nat.le_of_eq g257.symm)
    have lt_b1_b257 : b1 < b257 := Nat.lt_of_lt_of_le f258.lt (Nat.le_of_eq g257.symm)
    have O257 := O256.ext E257
    have F257_coder : Fld Z h257 b257 cn_1 "coder" "B" (.int 0) := D257 (Or.inr (ww32 hw)) (ty := .byte) (by decide)
    have F257_value : Fld Z h257 b257 cn_1 "value" "[B" .null := D257 (Or.inr (ww34 hw)) (ty := (.array .byte)) (by decide)
    refine step st257 ?_
    show G T257 (mkF m 101 ls255 [(.ref b257)])
    refine step (fun t k => XS.dup X257.here hx rfl (hb hby at_101) rfl rfl k) ?_
    show G T257 (mkF m 102 ls255 [(.ref b257), (.ref b257)])
    refine step (fun t k => XS.aload X257.here hx rfl (hb hby at_102) (by rw [hls255]; rfl) rfl k) ?_
    show G T257 (mkF m 104 ls255 [(.ref b1), (.ref b257), (.ref b257)])
    have f260 := (V256.ext E257)
    have f261 := (Exa.ext E257 f258)
    have hK259 := (StrChars.Road.backV (l := l) (R := room_1) (p := p) (e := e) (below := below) (s := s) (args := #[(.int p0), (.long q1), (.int p2), (.int p3)]) (len := 3) (W := 1) hZ (own_hwV hw) (kI := 4) (ww7 hw) (cs := [x0, x1, x2, x3, x4, (123 : Int32)]) (bs := [(x0.toInt8.toInt32), (x1.toInt8.toInt32), (x2.toInt8.toInt32), (x3.toInt8.toInt32), (x4.toInt8.toInt32), ((123 : Int32).toInt8.toInt32)]) (n := 6) ge_b257 (own_old_le O257) A257 F257_value F257_coder f260 (Sta.ext O257.2 ST.k0) ST.k3 rfl rfl (by decide) (by decide) (List.forall_mem_cons.mpr ⟨lx0, (List.forall_mem_cons.mpr ⟨lx1, (List.forall_mem_cons.mpr ⟨lx2, (List.forall_mem_cons.mpr ⟨lx3, (List.forall_mem_cons.mpr ⟨lx4, (List.forall_mem_cons.mpr ⟨(by decide : ¬ (123 : Int32) < 0 ∧ ¬ (255 : Int32) < (123 : Int32)), (fun _ h => nomatch h)⟩)⟩)⟩)⟩)⟩)⟩) rfl (by decide) (by decide))
    obtain ⟨_, _, ⟨T259, L259, k259, n259⟩, -, X259, ⟨Lc259, hQ259, l259, y259, z259⟩, st259⟩ := X257.specialBack hx (y := y_5) rfl hown (mvT hZ (ww9 hw)) (mvT hZ (ww10 hw)) (mvT hZ (ww11 hw)) (by decide) hK259 (g := (mkF m 104 ls255 [(.ref b1), (.ref b257), (.ref b257)])) rfl (by rw [hml, hls255]; rfl) (Steps.refl _) (a := b257) (argsL := [(.ref b1)]) (rest := [(.ref b257)]) (lenOf pd_2 rfl) rfl (by show 2 * 0 + _ ≤ _; exact Nat.le_of_eq rfl) (hb hby at_104) (fun _ _ => ⟨rfl, e257, (by decide : 2 + 1 ≤ _), (by decide : 10 + 6 ≤ _)⟩)
    dsimp only [Pt.U, Pt.locs, Pt.cells, Pt.slots] at X259 l259 y259 z259 st259 hQ259
    subst l259 y259 z259
    obtain ⟨rfl, N259q, K259q, Es259, Cs259, b259, kb259, gt259, gh259, -, Fv259, Vb259⟩ := hQ259
    have N259 := Fr.app N256 N259q
    obtain ⟨lc259, X259, N259⟩ := own_gen X259 N259
    replace Vb259 : Arv Z T259.heap b259 kb259 .byte (6 : Int32) [(.int (x0.toInt8.toInt32)), (.int (x1.toInt8.toInt32)), (.int (x2.toInt8.toInt32)), (.int (x3.toInt8.toInt32)), (.int (x4.toInt8.toInt32)), (.int ((123 : Int32).toInt8.toInt32))] (.int 0) := Vb259
    have lt_b1_b259 : b1 < b259 := Nat.lt_of_lt_of_le f261.lt gh259
    have lt_b257_b259 : b257 < b259 := Nat.lt_of_lt_of_le A257.lt gh259
    have O259 := O257.keep K259q (allS ge_b257 all0)
    refine step (fun t k => st259.trans k) ?_
    show G T259 (mkF m 107 ls255 [(.ref b257)])
    obtain ⟨ls262, hls262⟩  := own_sl #[.val (.int p0), .val (.long q1), .second, .val (.int p2), .val (.int p3), .val (.ref b1), .val (.int 5), .val (.int tt), .val (.ref b257), .unset, .unset, .unset, .unset, .unset, .unset, .unset, .unset]
    refine step (fun t k => XS.astore X259.here hx rfl (hb hby at_107) rfl rfl (l' := ls262) (by rw [hls255, hls262]; rfl) k) ?_
    show G T259 (mkF m 109 ls262 [])
    refine step (fun t k => XS.aload X259.here hx rfl (hb hby at_109) (by rw [hls262]; rfl) rfl k) ?_
    show G T259 (mkF m 111 ls262 [(.ref b257)])
    refine step (fun t k => XS.iload X259.here hx rfl (hb hby at_111) (by rw [hls262]; rfl) k) ?_
    show G T259 (mkF m 113 ls262 [(.int 5), (.ref b257)])
    refine step (fun t k => XS.iload X259.here hx rfl (hb hby at_113) (by rw [hls262]; rfl) k) ?_
    show G T259 (mkF m 115 ls262 [(.int tt), (.int 5), (.ref b257)])
    have hK263 := (backOf (R := room_1) (p := p) (e := e) (below := below) (s := s) (args := #[(.int p0), (.long q1), (.int p2), (.int p3)]) (len := 3) (W := 0) (rm_clo l Z a0 hw [] w_COMPACT_STRINGS w_SIOOBE_FORMATTER b257 (5 : Int32) tt x0 x1 x2 x3 x4 (123 : Int32) b259 kb259 5 NN T259.heap n0 (own_old_le O259) ST O259 lx0 lx1 lx2 lx3 lx4 (by decide : ¬ (123 : Int32) < 0 ∧ ¬ (255 : Int32) < (123 : Int32)) Es259 Fv259 Cs259 Vb259 rfl hNN hKN hN6) hZ (ww38 hw) (ww37 hw) (by decide) (by decide))
    obtain ⟨_, _, ⟨T263, L263, k263, n263⟩, -, X263, ⟨Lc263, hQ263, l263, y263, z263⟩, st263⟩ := Jvm.LawKit.callS X259 hx (y := y_4) hown (mvT hZ (ww35 hw)) (mvT hZ (ww36 hw)) (mvT hZ (ww37 hw)) (mvT hZ (ww38 hw)) (by decide) hK263 (g := (mkF m 115 ls262 [(.int tt), (.int 5), (.ref b257)])) rfl (by rw [hml, hls262]; rfl) (argsL := [(.ref b257), (.int 5), (.int tt)]) (rest := []) (lenOf pd_3 rfl) rfl (by show 2 * 0 + _ ≤ _; exact Nat.le_of_eq rfl) (hb hby at_115) (fun _ _ => ⟨rfl, rfl, (by decide : 3 + 0 ≤ _), (by decide : 16 + 0 ≤ _)⟩)
    dsimp only [Pt.U, Pt.locs, Pt.cells, Pt.slots] at X263 l263 y263 z263 st263 hQ263
    subst l263 y263 z263
    obtain ⟨rfl, N263q, e263⟩ := hQ263
    have N263 := Fr.app N259 N263q
    refine step (fun t k => st263 t k) ?_
    show G T263 (mkF m 118 ls262 [(.int (own_go [x0, x1, x2, x3, x4, (123 : Int32)] NN (NN - 5) 5 0))])
    obtain ⟨ls264, hls264⟩  := own_sl #[.val (.int p0), .val (.long q1), .second, .val (.int p2), .val (.int p3), .val (.ref b1), .val (.int 5), .val (.int tt), .val (.ref b257), .val (.int (own_go [x0, x1, x2, x3, x4, (123 : Int32)] NN (NN - 5) 5 0)), .unset, .unset, .unset, .unset, .unset, .unset, .unset]
    refine step (fun t k => XS.istore X263.here hx rfl (hb hby at_118) rfl (l' := ls264) (by rw [hls262, hls264]; rfl) k) ?_
    show G T263 (mkF m 120 ls264 [])
    refine step (fun t k => XS.aload X263.here hx rfl (hb hby at_120) (by rw [hls264]; rfl) rfl k) ?_
    show G T263 (mkF m 122 ls264 [(.ref b1)])
    refine step (fun t k => XS.iconst X263.here hx rfl (hb hby at_122) k) ?_
    show G T263 (mkF m 123 ls264 [(.int 0), (.ref b1)])
    refine step (fun t k => XS.iload X263.here hx rfl (hb hby at_123) (by rw [hls264]; rfl) k) ?_
    show G T263 (mkF m 125 ls264 [(.int 5), (.int 0), (.ref b1)])
    have f266 := (Arv.keep f260 K259q (ninS (Nat.ne_of_lt lt_b1_b257) nin0))
    have hK265 := (backOf (R := room_1) (p := p) (e := e) (below := below) (s := s) (args := #[(.int p0), (.long q1), (.int p2), (.int p3)]) (len := 3) (W := 0) (rm_v0 l Z a0 hw [] w_COMPACT_STRINGS w_SIOOBE_FORMATTER b1 (5 : Int32) k1 x0 x1 x2 x3 x4 (123 : Int32) T259.heap n0 (own_old_le O259) ST O259 f266) hZ (ww41 hw) (ww3 hw) (by decide) (by decide))
    obtain ⟨_, _, ⟨T265, L265, k265, n265⟩, -, X265, ⟨Lc265, hQ265, l265, y265, z265⟩, st265⟩ := Jvm.LawKit.callS X263 hx (y := y_1) hown (mvT hZ (ww39 hw)) (mvT hZ (ww40 hw)) (mvT hZ (ww3 hw)) (mvT hZ (ww41 hw)) (by decide) hK265 (g := (mkF m 125 ls264 [(.int 5), (.int 0), (.ref b1)])) rfl (by rw [hml, hls264]; rfl) (argsL := [(.ref b1), (.int 0), (.int 5)]) (rest := []) (lenOf pd_4 rfl) rfl (by show 2 * 0 + _ ≤ _; exact Nat.le_of_eq rfl) (hb hby at_125) (fun _ _ => ⟨rfl, e263, (by decide : 3 + 0 ≤ _), (by decide : 16 + 0 ≤ _)⟩)
    dsimp only [Pt.U, Pt.locs, Pt.cells, Pt.slots] at X265 l265 y265 z265 st265 hQ265
    subst l265 y265 z265
    obtain ⟨rfl, N265q, e265⟩ := hQ265
    have N265 := Fr.app N263 N265q
    obtain ⟨lc265, X265, N265⟩ := own_gen X265 N265
    refine step (fun t k => st265 t k) ?_
    show G T265 (mkF m 128 ls264 [(.int (f_v0 w_COMPACT_STRINGS w_SIOOBE_FORMATTER b1 (5 : Int32) k1 x0 x1 x2 x3 x4 (123 : Int32)))])
    obtain ⟨ls267, hls267⟩  := own_sl #[.val (.int p0), .val (.long q1), .second, .val (.int p2), .val (.int p3), .val (.ref b1), .val (.int 5), .val (.int tt), .val (.ref b257), .val (.int (own_go [x0, x1, x2, x3, x4, (123 : Int32)] NN (NN - 5) 5 0)), .val (.int (f_v0 w_COMPACT_STRINGS w_SIOOBE_FORMATTER b1 (5 : Int32) k1 x0 x1 x2 x3 x4 (123 : Int32))), .unset, .unset, .unset, .unset, .unset, .unset]
    refine step (fun t k => XS.istore X265.here hx rfl (hb hby at_128) rfl (l' := ls267) (by rw [hls264, hls267]; rfl) k) ?_
    show G T265 (mkF m 130 ls267 [])
    obtain ⟨d0, hd0⟩ : ∃ z : Int32, z = (f_v0 w_COMPACT_STRINGS w_SIOOBE_FORMATTER b1 (5 : Int32) k1 x0 x1 x2 x3 x4 (123 : Int32)) := ⟨_, rfl⟩
    obtain ⟨ls268, hls268⟩  := own_sl #[.val (.int p0), .val (.long q1), .second, .val (.int p2), .val (.int p3), .val (.ref b1), .val (.int 5), .val (.int tt), .val (.ref b257), .val (.int (own_go [x0, x1, x2, x3, x4, (123 : Int32)] NN (NN - 5) 5 0)), .val (.int d0), .unset, .unset, .unset, .unset, .unset, .unset]
    rw [show ls267 = ls268 from by rw [hls267, hls268, hd0]]
    show G T265 (mkF m 130 ls268 [])
    have hv0 : d0 = 0 := by rw [hd0]; unfold f_v0; rw [if_pos (by decide)]
    refine step (fun t k => XS.iload X265.here hx rfl (hb hby at_130) (by rw [hls268]; rfl) k) ?_
    show G T265 (mkF m 132 ls268 [(.int d0)])
    refine step (fun t k => XS.aload X265.here hx rfl (hb hby at_132) (by rw [hls268]; rfl) rfl k) ?_
    show G T265 (mkF m 134 ls268 [(.ref b1), (.int d0)])
    refine step (fun t k => XS.iconst X265.here hx rfl (hb hby at_134) k) ?_
    show G T265 (mkF m 135 ls268 [(.int 1), (.ref b1), (.int d0)])
    refine step (fun t k => XS.iload X265.here hx rfl (hb hby at_135) (by rw [hls268]; rfl) k) ?_
    show G T265 (mkF m 137 ls268 [(.int 5), (.int 1), (.ref b1), (.int d0)])
    have hK269 := (backOf (R := room_1) (p := p) (e := e) (below := below) (s := s) (args := #[(.int p0), (.long q1), (.int p2), (.int p3)]) (len := 3) (W := 1) (rm_v1 l Z a0 hw [] w_COMPACT_STRINGS w_SIOOBE_FORMATTER b1 (5 : Int32) k1 x0 x1 x2 x3 x4 (123 : Int32) T259.heap n0 (own_old_le O259) ST O259 f266) hZ (ww41 hw) (ww3 hw) (by decide) (by decide))
    obtain ⟨_, _, ⟨T269, L269, k269, n269⟩, -, X269, ⟨Lc269, hQ269, l269, y269, z269⟩, st269⟩ := Jvm.LawKit.callS X265 hx (y := y_1) hown (mvT hZ (ww39 hw)) (mvT hZ (ww40 hw)) (mvT hZ (ww3 hw)) (mvT hZ (ww41 hw)) (by decide) hK269 (g := (mkF m 137 ls268 [(.int 5), (.int 1), (.ref b1), (.int d0)])) rfl (by rw [hml, hls268]; rfl) (argsL := [(.ref b1), (.int 1), (.int 5)]) (rest := [(.int d0)]) (lenOf pd_4 rfl) rfl (by show 2 * 0 + _ ≤ _; exact Nat.le_of_eq rfl) (hb hby at_137) (fun _ _ => ⟨rfl, e265, (by decide : 3 + 0 ≤ _), (by decide : 16 + 0 ≤ _)⟩)
    dsimp only [Pt.U, Pt.locs, Pt.cells, Pt.slots] at X269 l269 y269 z269 st269 hQ269
    subst l269 y269 z269
    obtain ⟨rfl, N269q, e269⟩ := hQ269
    have N269 := Fr.app N265 N269q
    obtain ⟨lc269, X269, N269⟩ := own_gen X269 N269
    refine step (fun t k => st269 t k) ?_
    show G T269 (mkF m 140 ls268 [(.int (f_v1 w_COMPACT_STRINGS w_SIOOBE_FORMATTER b1 (5 : Int32) k1 x0 x1 x2 x3 x4 (123 : Int32))), (.int d0)])
    refine step (fun t k => XS.iadd X269.here hx rfl (hb hby at_140) rfl k) ?_
    show G T269 (mkF m 141 ls268 [(.int (d0 + (f_v1 w_COMPACT_STRINGS w_SIOOBE_FORMATTER b1 (5 : Int32) k1 x0 x1 x2 x3 x4 (123 : Int32))))])
    obtain ⟨ls270, hls270⟩  := own_sl #[.val (.int p0), .val (.long q1), .second, .val (.int p2), .val (.int p3), .val (.ref b1), .val (.int 5), .val (.int tt), .val (.ref b257), .val (.int (own_go [x0, x1, x2, x3, x4, (123 : Int32)] NN (NN - 5) 5 0)), .val (.int d0), .val (.int (d0 + (f_v1 w_COMPACT_STRINGS w_SIOOBE_FORMATTER b1 (5 : Int32) k1 x0 x1 x2 x3 x4 (123 : Int32)))), .unset, .unset, .unset, .unset, .unset]
    refine step (fun t k => XS.istore X269.here hx rfl (hb hby at_141) rfl (l' := ls270) (by rw [hls268, hls270]; rfl) k) ?_
    show G T269 (mkF m 143 ls270 [])
    obtain ⟨d1, hd1⟩ : ∃ z : Int32, z = (d0 + (f_v1 w_COMPACT_STRINGS w_SIOOBE_FORMATTER b1 (5 : Int32) k1 x0 x1 x2 x3 x4 (123 : Int32))) := ⟨_, rfl⟩
    obtain ⟨ls271, hls271⟩  := own_sl #[.val (.int p0), .val (.long q1), .second, .val (.int p2), .val (.int p3), .val (.ref b1), .val (.int 5), .val (.int tt), .val (.ref b257), .val (.int (own_go [x0, x1, x2, x3, x4, (123 : Int32)] NN (NN - 5) 5 0)), .val (.int d0), .val (.int d1), .unset, .unset, .unset, .unset, .unset]
    rw [show ls270 = ls271 from by rw [hls270, hls271, hd1]]
    show G T269 (mkF m 143 ls271 [])
    have hv1 : d1 = 0 := by rw [hd1, hv0]; unfold f_v1; rw [if_pos (by decide)]; rfl
    refine step (fun t k => XS.iload X269.here hx rfl (hb hby at_143) (by rw [hls271]; rfl) k) ?_
    show G T269 (mkF m 145 ls271 [(.int d1)])
    refine step (fun t k => XS.aload X269.here hx rfl (hb hby at_145) (by rw [hls271]; rfl) rfl k) ?_
    show G T269 (mkF m 147 ls271 [(.ref b1), (.int d1)])
    refine step (fun t k => XS.iconst X269.here hx rfl (hb hby at_147) k) ?_
    show G T269 (mkF m 148 ls271 [(.int 2), (.ref b1), (.int d1)])
    refine step (fun t k => XS.iload X269.here hx rfl (hb hby at_148) (by rw [hls271]; rfl) k) ?_
    show G T269 (mkF m 150 ls271 [(.int 5), (.int 2), (.ref b1), (.int d1)])
    have hK272 := (backOf (R := room_1) (p := p) (e := e) (below := below) (s := s) (args := #[(.int p0), (.long q1), (.int p2), (.int p3)]) (len := 3) (W := 1) (rm_v2 l Z a0 hw [] w_COMPACT_STRINGS w_SIOOBE_FORMATTER b1 (5 : Int32) k1 x0 x1 x2 x3 x4 (123 : Int32) T259.heap n0 (own_old_le O259) ST O259 f266) hZ (ww41 hw) (ww3 hw) (by decide) (by decide))
    obtain ⟨_, _, ⟨T272, L272, k272, n272⟩, -, X272, ⟨Lc272, hQ272, l272, y272, z272⟩, st272⟩ := Jvm.LawKit.callS X269 hx (y := y_1) hown (mvT hZ (ww39 hw)) (mvT hZ (ww40 hw)) (mvT hZ (ww3 hw)) (mvT hZ (ww41 hw)) (by decide) hK272 (g := (mkF m 150 ls271 [(.int 5), (.int 2), (.ref b1), (.int d1)])) rfl (by rw [hml, hls271]; rfl) (argsL := [(.ref b1), (.int 2), (.int 5)]) (rest := [(.int d1)]) (lenOf pd_4 rfl) rfl (by show 2 * 0 + _ ≤ _; exact Nat.le_of_eq rfl) (hb hby at_150) (fun _ _ => ⟨rfl, e269, (by decide : 3 + 0 ≤ _), (by decide : 16 + 0 ≤ _)⟩)
    dsimp only [Pt.U, Pt.locs, Pt.cells, Pt.slots] at X272 l272 y272 z272 st272 hQ272
    subst l272 y272 z272
    obtain ⟨rfl, N272q, e272⟩ := hQ272
    have N272 := Fr.app N269 N272q
    obtain ⟨lc272, X272, N272⟩ := own_gen X272 N272
    refine step (fun t k => st272 t k) ?_
    show G T272 (mkF m 153 ls271 [(.int (f_v2 w_COMPACT_STRINGS w_SIOOBE_FORMATTER b1 (5 : Int32) k1 x0 x1 x2 x3 x4 (123 : Int32))), (.int d1)])
    refine step (fun t k => XS.iadd X272.here hx rfl (hb hby at_153) rfl k) ?_
    show G T272 (mkF m 154 ls271 [(.int (d1 + (f_v2 w_COMPACT_STRINGS w_SIOOBE_FORMATTER b1 (5 : Int32) k1 x0 x1 x2 x3 x4 (123 : Int32))))])
    obtain ⟨ls273, hls273⟩  := own_sl #[.val (.int p0), .val (.long q1), .second, .val (.int p2), .val (.int p3), .val (.ref b1), .val (.int 5), .val (.int tt), .val (.ref b257), .val (.int (own_go [x0, x1, x2, x3, x4, (123 : Int32)] NN (NN - 5) 5 0)), .val (.int d0), .val (.int d1), .val (.int (d1 + (f_v2 w_COMPACT_STRINGS w_SIOOBE_FORMATTER b1 (5 : Int32) k1 x0 x1 x2 x3 x4 (123 : Int32)))), .unset, .unset, .unset, .unset]
    refine step (fun t k => XS.istore X272.here hx rfl (hb hby at_154) rfl (l' := ls273) (by rw [hls271, hls273]; rfl) k) ?_
    show G T272 (mkF m 156 ls273 [])
    obtain ⟨d2, hd2⟩ : ∃ z : Int32, z = (d1 + (f_v2 w_COMPACT_STRINGS w_SIOOBE_FORMATTER b1 (5 : Int32) k1 x0 x1 x2 x3 x4 (123 : Int32))) := ⟨_, rfl⟩
    obtain ⟨ls274, hls274⟩  := own_sl #[.val (.int p0), .val (.long q1), .second, .val (.int p2), .val (.int p3), .val (.ref b1), .val (.int 5), .val (.int tt), .val (.ref b257), .val (.int (own_go [x0, x1, x2, x3, x4, (123 : Int32)] NN (NN - 5) 5 0)), .val (.int d0), .val (.int d1), .val (.int d2), .unset, .unset, .unset, .unset]
    rw [show ls273 = ls274 from by rw [hls273, hls274, hd2]]
    show G T272 (mkF m 156 ls274 [])
    have hv2 : d2 = 0 := by rw [hd2, hv1]; unfold f_v2; rw [if_pos (by decide)]; rfl
    refine step (fun t k => XS.iload X272.here hx rfl (hb hby at_156) (by rw [hls274]; rfl) k) ?_
    show G T272 (mkF m 158 ls274 [(.int d2)])
    refine step (fun t k => XS.aload X272.here hx rfl (hb hby at_158) (by rw [hls274]; rfl) rfl k) ?_
    show G T272 (mkF m 160 ls274 [(.ref b1), (.int d2)])
    refine step (fun t k => XS.iconst X272.here hx rfl (hb hby at_160) k) ?_
    show G T272 (mkF m 161 ls274 [(.int 3), (.ref b1), (.int d2)])
    refine step (fun t k => XS.iload X272.here hx rfl (hb hby at_161) (by rw [hls274]; rfl) k) ?_
    show G T272 (mkF m 163 ls274 [(.int 5), (.int 3), (.ref b1), (.int d2)])
    have hK275 := (backOf (R := room_1) (p := p) (e := e) (below := below) (s := s) (args := #[(.int p0), (.long q1), (.int p2), (.int p3)]) (len := 3) (W := 1) (rm_v3 l Z a0 hw [] w_COMPACT_STRINGS w_SIOOBE_FORMATTER b1 (5 : Int32) k1 x0 x1 x2 x3 x4 (123 : Int32) T259.heap n0 (own_old_le O259) ST O259 f266) hZ (ww41 hw) (ww3 hw) (by decide) (by decide))
    obtain ⟨_, _, ⟨T275, L275, k275, n275⟩, -, X275, ⟨Lc275, hQ275, l275, y275, z275⟩, st275⟩ := Jvm.LawKit.callS X272 hx (y := y_1) hown (mvT hZ (ww39 hw)) (mvT hZ (ww40 hw)) (mvT hZ (ww3 hw)) (mvT hZ (ww41 hw)) (by decide) hK275 (g := (mkF m 163 ls274 [(.int 5), (.int 3), (.ref b1), (.int d2)])) rfl (by rw [hml, hls274]; rfl) (argsL := [(.ref b1), (.int 3), (.int 5)]) (rest := [(.int d2)]) (lenOf pd_4 rfl) rfl (by show 2 * 0 + _ ≤ _; exact Nat.le_of_eq rfl) (hb hby at_163) (fun _ _ => ⟨rfl, e272, (by decide : 3 + 0 ≤ _), (by decide : 16 + 0 ≤ _)⟩)
    dsimp only [Pt.U, Pt.locs, Pt.cells, Pt.slots] at X275 l275 y275 z275 st275 hQ275
    subst l275 y275 z275
    obtain ⟨rfl, N275q, e275⟩ := hQ275
    have N275 := Fr.app N272 N275q
    obtain ⟨lc275, X275, N275⟩ := own_gen X275 N275
    refine step (fun t k => st275 t k) ?_
    show G T275 (mkF m 166 ls274 [(.int (f_v3 w_COMPACT_STRINGS w_SIOOBE_FORMATTER b1 (5 : Int32) k1 x0 x1 x2 x3 x4 (123 : Int32))), (.int d2)])
    refine step (fun t k => XS.iadd X275.here hx rfl (hb hby at_166) rfl k) ?_
    show G T275 (mkF m 167 ls274 [(.int (d2 + (f_v3 w_COMPACT_STRINGS w_SIOOBE_FORMATTER b1 (5 : Int32) k1 x0 x1 x2 x3 x4 (123 : Int32))))])
    obtain ⟨ls276, hls276⟩  := own_sl #[.val (.int p0), .val (.long q1), .second, .val (.int p2), .val (.int p3), .val (.ref b1), .val (.int 5), .val (.int tt), .val (.ref b257), .val (.int (own_go [x0, x1, x2, x3, x4, (123 : Int32)] NN (NN - 5) 5 0)), .val (.int d0), .val (.int d1), .val (.int d2), .val (.int (d2 + (f_v3 w_COMPACT_STRINGS w_SIOOBE_FORMATTER b1 (5 : Int32) k1 x0 x1 x2 x3 x4 (123 : Int32)))), .unset, .unset, .unset]
    refine step (fun t k => XS.istore X275.here hx rfl (hb hby at_167) rfl (l' := ls276) (by rw [hls274, hls276]; rfl) k) ?_
    show G T275 (mkF m 169 ls276 [])
    obtain ⟨d3, hd3⟩ : ∃ z : Int32, z = (d2 + (f_v3 w_COMPACT_STRINGS w_SIOOBE_FORMATTER b1 (5 : Int32) k1 x0 x1 x2 x3 x4 (123 : Int32))) := ⟨_, rfl⟩
    obtain ⟨ls277, hls277⟩  := own_sl #[.val (.int p0), .val (.long q1), .second, .val (.int p2), .val (.int p3), .val (.ref b1), .val (.int 5), .val (.int tt), .val (.ref b257), .val (.int (own_go [x0, x1, x2, x3, x4, (123 : Int32)] NN (NN - 5) 5 0)), .val (.int d0), .val (.int d1), .val (.int d2), .val (.int d3), .unset, .unset, .unset]
    rw [show ls276 = ls277 from by rw [hls276, hls277, hd3]]
    show G T275 (mkF m 169 ls277 [])
    have hv3 : d3 = 0 := by rw [hd3, hv2]; unfold f_v3; rw [if_pos (by decide)]; rfl
    refine step (fun t k => XS.iload X275.here hx rfl (hb hby at_169) (by rw [hls277]; rfl) k) ?_
    show G T275 (mkF m 171 ls277 [(.int d3)])
    refine step (fun t k => XS.aload X275.here hx rfl (hb hby at_171) (by rw [hls277]; rfl) rfl k) ?_
    show G T275 (mkF m 173 ls277 [(.ref b1), (.int d3)])
    refine step (fun t k => XS.iconst X275.here hx rfl (hb hby at_173) k) ?_
    show G T275 (mkF m 174 ls277 [(.int 4), (.ref b1), (.int d3)])
    refine step (fun t k => XS.iload X275.here hx rfl (hb hby at_174) (by rw [hls277]; rfl) k) ?_
    show G T275 (mkF m 176 ls277 [(.int 5), (.int 4), (.ref b1), (.int d3)])
    have hK278 := (backOf (R := room_1) (p := p) (e := e) (below := below) (s := s) (args := #[(.int p0), (.long q1), (.int p2), (.int p3)]) (len := 3) (W := 1) (rm_v4 l Z a0 hw [] w_COMPACT_STRINGS w_SIOOBE_FORMATTER b1 (5 : Int32) k1 x0 x1 x2 x3 x4 (123 : Int32) T259.heap n0 (own_old_le O259) ST O259 f266) hZ (ww41 hw) (ww3 hw) (by decide) (by decide))
    obtain ⟨_, _, ⟨T278, L278, k278, n278⟩, -, X278, ⟨Lc278, hQ278, l278, y278, z278⟩, st278⟩ := Jvm.LawKit.callS X275 hx (y := y_1) hown (mvT hZ (ww39 hw)) (mvT hZ (ww40 hw)) (mvT hZ (ww3 hw)) (mvT hZ (ww41 hw)) (by decide) hK278 (g := (mkF m 176 ls277 [(.int 5), (.int 4), (.ref b1), (.int d3)])) rfl (by rw [hml, hls277]; rfl) (argsL := [(.ref b1), (.int 4), (.int 5)]) (rest := [(.int d3)]) (lenOf pd_4 rfl) rfl (by show 2 * 0 + _ ≤ _; exact Nat.le_of_eq rfl) (hb hby at_176) (fun _ _ => ⟨rfl, e275, (by decide : 3 + 0 ≤ _), (by decide : 16 + 0 ≤ _)⟩)
    dsimp only [Pt.U, Pt.locs, Pt.cells, Pt.slots] at X278 l278 y278 z278 st278 hQ278
    subst l278 y278 z278
    obtain ⟨rfl, N278q, e278⟩ := hQ278
    have N278 := Fr.app N275 N278q
    obtain ⟨lc278, X278, N278⟩ := own_gen X278 N278
    refine step (fun t k => st278 t k) ?_
    show G T278 (mkF m 179 ls277 [(.int (f_v4 w_COMPACT_STRINGS w_SIOOBE_FORMATTER b1 (5 : Int32) k1 x0 x1 x2 x3 x4 (123 : Int32))), (.int d3)])
    refine step (fun t k => XS.iadd X278.here hx rfl (hb hby at_179) rfl k) ?_
    show G T278 (mkF m 180 ls277 [(.int (d3 + (f_v4 w_COMPACT_STRINGS w_SIOOBE_FORMATTER b1 (5 : Int32) k1 x0 x1 x2 x3 x4 (123 : Int32))))])
    obtain ⟨ls279, hls279⟩  := own_sl #[.val (.int p0), .val (.long q1), .second, .val (.int p2), .val (.int p3), .val (.ref b1), .val (.int 5), .val (.int tt), .val (.ref b257), .val (.int (own_go [x0, x1, x2, x3, x4, (123 : Int32)] NN (NN - 5) 5 0)), .val (.int d0), .val (.int d1), .val (.int d2), .val (.int d3), .val (.int (d3 + (f_v4 w_COMPACT_STRINGS w_SIOOBE_FORMATTER b1 (5 : Int32) k1 x0 x1 x2 x3 x4 (123 : Int32)))), .unset, .unset]
    refine step (fun t k => XS.istore X278.here hx rfl (hb hby at_180) rfl (l' := ls279) (by rw [hls277, hls279]; rfl) k) ?_
    show G T278 (mkF m 182 ls279 [])
    obtain ⟨d4, hd4⟩ : ∃ z : Int32, z = (d3 + (f_v4 w_COMPACT_STRINGS w_SIOOBE_FORMATTER b1 (5 : Int32) k1 x0 x1 x2 x3 x4 (123 : Int32))) := ⟨_, rfl⟩
    obtain ⟨ls280, hls280⟩  := own_sl #[.val (.int p0), .val (.long q1), .second, .val (.int p2), .val (.int p3), .val (.ref b1), .val (.int 5), .val (.int tt), .val (.ref b257), .val (.int (own_go [x0, x1, x2, x3, x4, (123 : Int32)] NN (NN - 5) 5 0)), .val (.int d0), .val (.int d1), .val (.int d2), .val (.int d3), .val (.int d4), .unset, .unset]
    rw [show ls279 = ls280 from by rw [hls279, hls280, hd4]]
    show G T278 (mkF m 182 ls280 [])
    have hv4 : d4 = 0 := by rw [hd4, hv3]; unfold f_v4; rw [if_pos (by decide)]; rfl
    refine step (fun t k => XS.iload X278.here hx rfl (hb hby at_182) (by rw [hls280]; rfl) k) ?_
    show G T278 (mkF m 184 ls280 [(.int d4)])
    refine step (fun t k => XS.aload X278.here hx rfl (hb hby at_184) (by rw [hls280]; rfl) rfl k) ?_
    show G T278 (mkF m 186 ls280 [(.ref b1), (.int d4)])
    refine step (fun t k => XS.iconst X278.here hx rfl (hb hby at_186) k) ?_
    show G T278 (mkF m 187 ls280 [(.int 5), (.ref b1), (.int d4)])
    refine step (fun t k => XS.iload X278.here hx rfl (hb hby at_187) (by rw [hls280]; rfl) k) ?_
    show G T278 (mkF m 189 ls280 [(.int 5), (.int 5), (.ref b1), (.int d4)])
    have hK281 := (backOf (R := room_1) (p := p) (e := e) (below := below) (s := s) (args := #[(.int p0), (.long q1), (.int p2), (.int p3)]) (len := 3) (W := 1) (rm_v5 l Z a0 hw [] w_COMPACT_STRINGS w_SIOOBE_FORMATTER b1 (5 : Int32) k1 x0 x1 x2 x3 x4 (123 : Int32) T259.heap n0 (own_old_le O259) ST O259 f266) hZ (ww41 hw) (ww3 hw) (by decide) (by decide))
    obtain ⟨_, _, ⟨T281, L281, k281, n281⟩, -, X281, ⟨Lc281, hQ281, l281, y281, z281⟩, st281⟩ := Jvm.LawKit.callS X278 hx (y := y_1) hown (mvT hZ (ww39 hw)) (mvT hZ (ww40 hw)) (mvT hZ (ww3 hw)) (mvT hZ (ww41 hw)) (by decide) hK281 (g := (mkF m 189 ls280 [(.int 5), (.int 5), (.ref b1), (.int d4)])) rfl (by rw [hml, hls280]; rfl) (argsL := [(.ref b1), (.int 5), (.int 5)]) (rest := [(.int d4)]) (lenOf pd_4 rfl) rfl (by show 2 * 0 + _ ≤ _; exact Nat.le_of_eq rfl) (hb hby at_189) (fun _ _ => ⟨rfl, e278, (by decide : 3 + 0 ≤ _), (by decide : 16 + 0 ≤ _)⟩)
    dsimp only [Pt.U, Pt.locs, Pt.cells, Pt.slots] at X281 l281 y281 z281 st281 hQ281
    subst l281 y281 z281
    obtain ⟨rfl, N281q, e281⟩ := hQ281
    have N281 := Fr.app N278 N281q
    obtain ⟨lc281, X281, N281⟩ := own_gen X281 N281
    refine step (fun t k => st281 t k) ?_
    show G T281 (mkF m 192 ls280 [(.int (f_v5 w_COMPACT_STRINGS w_SIOOBE_FORMATTER b1 (5 : Int32) k1 x0 x1 x2 x3 x4 (123 : Int32))), (.int d4)])
    refine step (fun t k => XS.iadd X281.here hx rfl (hb hby at_192) rfl k) ?_
    show G T281 (mkF m 193 ls280 [(.int (d4 + (f_v5 w_COMPACT_STRINGS w_SIOOBE_FORMATTER b1 (5 : Int32) k1 x0 x1 x2 x3 x4 (123 : Int32))))])
    obtain ⟨ls282, hls282⟩  := own_sl #[.val (.int p0), .val (.long q1), .second, .val (.int p2), .val (.int p3), .val (.ref b1), .val (.int 5), .val (.int tt), .val (.ref b257), .val (.int (own_go [x0, x1, x2, x3, x4, (123 : Int32)] NN (NN - 5) 5 0)), .val (.int d0), .val (.int d1), .val (.int d2), .val (.int d3), .val (.int d4), .val (.int (d4 + (f_v5 w_COMPACT_STRINGS w_SIOOBE_FORMATTER b1 (5 : Int32) k1 x0 x1 x2 x3 x4 (123 : Int32)))), .unset]
    refine step (fun t k => XS.istore X281.here hx rfl (hb hby at_193) rfl (l' := ls282) (by rw [hls280, hls282]; rfl) k) ?_
    show G T281 (mkF m 195 ls282 [])
    obtain ⟨d5, hd5⟩ : ∃ z : Int32, z = (d4 + (f_v5 w_COMPACT_STRINGS w_SIOOBE_FORMATTER b1 (5 : Int32) k1 x0 x1 x2 x3 x4 (123 : Int32))) := ⟨_, rfl⟩
    obtain ⟨ls283, hls283⟩  := own_sl #[.val (.int p0), .val (.long q1), .second, .val (.int p2), .val (.int p3), .val (.ref b1), .val (.int 5), .val (.int tt), .val (.ref b257), .val (.int (own_go [x0, x1, x2, x3, x4, (123 : Int32)] NN (NN - 5) 5 0)), .val (.int d0), .val (.int d1), .val (.int d2), .val (.int d3), .val (.int d4), .val (.int d5), .unset]
    rw [show ls282 = ls283 from by rw [hls282, hls283, hd5]]
    show G T281 (mkF m 195 ls283 [])
    have hv5 : d5 = 0 + own_vv (123 : Int32) := by rw [hd5, hv4]; unfold f_v5; rw [if_neg (by decide)]; rfl
    refine step (fun t k => XS.aload X281.here hx rfl (hb hby at_195) (by rw [hls283]; rfl) rfl k) ?_
    show G T281 (mkF m 197 ls283 [(.ref b1)])
    refine step (fun t k => XS.iconst X281.here hx rfl (hb hby at_197) k) ?_
    show G T281 (mkF m 198 ls283 [(.int 0), (.ref b1)])
    refine step (fun t k => XS.iload X281.here hx rfl (hb hby at_198) (by rw [hls283]; rfl) k) ?_
    show G T281 (mkF m 200 ls283 [(.int 5), (.int 0), (.ref b1)])
    refine step (fun t k => XS.iload X281.here hx rfl (hb hby at_200) (by rw [hls283]; rfl) k) ?_
    show G T281 (mkF m 202 ls283 [(.int tt), (.int 5), (.int 0), (.ref b1)])
    refine step (fun t k => XS.iload X281.here hx rfl (hb hby at_202) (by rw [hls283]; rfl) k) ?_
    show G T281 (mkF m 204 ls283 [(.int d0), (.int tt), (.int 5), (.int 0), (.ref b1)])
    have hK284 := (backOf (R := room_1) (p := p) (e := e) (below := below) (s := s) (args := #[(.int p0), (.long q1), (.int p2), (.int p3)]) (len := 3) (W := 0) (rm_h0 l Z a0 hw [] w_COMPACT_STRINGS w_SIOOBE_FORMATTER b1 (5 : Int32) tt d0 k1 x0 x1 x2 x3 x4 (123 : Int32) T259.heap n0 (own_old_le O259) ST O259 f266) hZ (ww44 hw) (ww3 hw) (by decide) (by decide))
    obtain ⟨_, _, ⟨T284, L284, k284, n284⟩, -, X284, ⟨Lc284, hQ284, l284, y284, z284⟩, st284⟩ := Jvm.LawKit.callS X281 hx (y := y_2) hown (mvT hZ (ww42 hw)) (mvT hZ (ww43 hw)) (mvT hZ (ww3 hw)) (mvT hZ (ww44 hw)) (by decide) hK284 (g := (mkF m 204 ls283 [(.int d0), (.int tt), (.int 5), (.int 0), (.ref b1)])) rfl (by rw [hml, hls283]; rfl) (argsL := [(.ref b1), (.int 0), (.int 5), (.int tt), (.int d0)]) (rest := []) (lenOf pd_5 rfl) rfl (by show 2 * 0 + _ ≤ _; exact Nat.le_of_eq rfl) (hb hby at_204) (fun _ _ => ⟨rfl, e281, (by decide : 3 + 0 ≤ _), (by decide : 16 + 0 ≤ _)⟩)
    dsimp only [Pt.U, Pt.locs, Pt.cells, Pt.slots] at X284 l284 y284 z284 st284 hQ284
    subst l284 y284 z284
    obtain ⟨rfl, N284q, e284⟩ := hQ284
    have N284 := Fr.app N281 N284q
    obtain ⟨lc284, X284, N284⟩ := own_gen X284 N284
    refine step (fun t k => st284 t k) ?_
    show G T284 (mkF m 207 ls283 [(.int (f_h0 w_COMPACT_STRINGS w_SIOOBE_FORMATTER b1 (5 : Int32) tt d0 k1 x0 x1 x2 x3 x4 (123 : Int32)))])
    refine step (fun t k => XS.ifYes X284.here hx rfl (pc0 := 207) (pc' := 216) rfl (hb hby at_207) rfl ((if0 _ _).trans (teq (by unfold f_h0; rw [if_pos (by decide)])).1) (by decide) (by decide) k) ?_
    show G T284 (mkF m 216 ls283 [])
    refine step (fun t k => XS.aload X284.here hx rfl (hb hby at_216) (by rw [hls283]; rfl) rfl k) ?_
    show G T284 (mkF m 218 ls283 [(.ref b1)])
    refine step (fun t k => XS.iconst X284.here hx rfl (hb hby at_218) k) ?_
    show G T284 (mkF m 219 ls283 [(.int 1), (.ref b1)])
    refine step (fun t k => XS.iload X284.here hx rfl (hb hby at_219) (by rw [hls283]; rfl) k) ?_
    show G T284 (mkF m 221 ls283 [(.int 5), (.int 1), (.ref b1)])
    refine step (fun t k => XS.iload X284.here hx rfl (hb hby at_221) (by rw [hls283]; rfl) k) ?_
    show G T284 (mkF m 223 ls283 [(.int tt), (.int 5), (.int 1), (.ref b1)])
    refine step (fun t k => XS.iload X284.here hx rfl (hb hby at_223) (by rw [hls283]; rfl) k) ?_
    show G T284 (mkF m 225 ls283 [(.int d1), (.int tt), (.int 5), (.int 1), (.ref b1)])
    have hK285 := (backOf (R := room_1) (p := p) (e := e) (below := below) (s := s) (args := #[(.int p0), (.long q1), (.int p2), (.int p3)]) (len := 3) (W := 0) (rm_h1 l Z a0 hw [] w_COMPACT_STRINGS w_SIOOBE_FORMATTER b1 (5 : Int32) tt d1 k1 x0 x1 x2 x3 x4 (123 : Int32) T259.heap n0 (own_old_le O259) ST O259 f266) hZ (ww44 hw) (ww3 hw) (by decide) (by decide))
    obtain ⟨_, _, ⟨T285, L285, k285, n285⟩, -, X285, ⟨Lc285, hQ285, l285, y285, z285⟩, st285⟩ := Jvm.LawKit.callS X284 hx (y := y_2) hown (mvT hZ (ww42 hw)) (mvT hZ (ww43 hw)) (mvT hZ (ww3 hw)) (mvT hZ (ww44 hw)) (by decide) hK285 (g := (mkF m 225 ls283 [(.int d1), (.int tt), (.int 5), (.int 1), (.ref b1)])) rfl (by rw [hml, hls283]; rfl) (argsL := [(.ref b1), (.int 1), (.int 5), (.int tt), (.int d1)]) (rest := []) (lenOf pd_5 rfl) rfl (by show 2 * 0 + _ ≤ _; exact Nat.le_of_eq rfl) (hb hby at_225) (fun _ _ => ⟨rfl, e284, (by decide : 3 + 0 ≤ _), (by decide : 16 + 0 ≤ _)⟩)
    dsimp only [Pt.U, Pt.locs, Pt.cells, Pt.slots] at X285 l285 y285 z285 st285 hQ285
    subst l285 y285 z285
    obtain ⟨rfl, N285q, e285⟩ := hQ285
    have N285 := Fr.app N284 N285q
    obtain ⟨lc285, X285, N285⟩ := own_gen X285 N285
    refine step (fun t k => st285 t k) ?_
    show G T285 (mkF m 228 ls283 [(.int (f_h1 w_COMPACT_STRINGS w_SIOOBE_FORMATTER b1 (5 : Int32) tt d1 k1 x0 x1 x2 x3 x4 (123 : Int32)))])
    refine step (fun t k => XS.ifYes X285.here hx rfl (pc0 := 228) (pc' := 237) rfl (hb hby at_228) rfl ((if0 _ _).trans (teq (by unfold f_h1; rw [if_pos (by decide)])).1) (by decide) (by decide) k) ?_
    show G T285 (mkF m 237 ls283 [])
    refine step (fun t k => XS.aload X285.here hx rfl (hb hby at_237) (by rw [hls283]; rfl) rfl k) ?_
    show G T285 (mkF m 239 ls283 [(.ref b1)])
    refine step (fun t k => XS.iconst X285.here hx rfl (hb hby at_239) k) ?_
    show G T285 (mkF m 240 ls283 [(.int 2), (.ref b1)])
    refine step (fun t k => XS.iload X285.here hx rfl (hb hby at_240) (by rw [hls283]; rfl) k) ?_
    show G T285 (mkF m 242 ls283 [(.int 5), (.int 2), (.ref b1)])
    refine step (fun t k => XS.iload X285.here hx rfl (hb hby at_242) (by rw [hls283]; rfl) k) ?_
    show G T285 (mkF m 244 ls283 [(.int tt), (.int 5), (.int 2), (.ref b1)])
    refine step (fun t k => XS.iload X285.here hx rfl (hb hby at_244) (by rw [hls283]; rfl) k) ?_
    show G T285 (mkF m 246 ls283 [(.int d2), (.int tt), (.int 5), (.int 2), (.ref b1)])
    have hK286 := (backOf (R := room_1) (p := p) (e := e) (below := below) (s := s) (args := #[(.int p0), (.long q1), (.int p2), (.int p3)]) (len := 3) (W := 0) (rm_h2 l Z a0 hw [] w_COMPACT_STRINGS w_SIOOBE_FORMATTER b1 (5 : Int32) tt d2 k1 x0 x1 x2 x3 x4 (123 : Int32) T259.heap n0 (own_old_le O259) ST O259 f266) hZ (ww44 hw) (ww3 hw) (by decide) (by decide))
    obtain ⟨_, _, ⟨T286, L286, k286, n286⟩, -, X286, ⟨Lc286, hQ286, l286, y286, z286⟩, st286⟩ := Jvm.LawKit.callS X285 hx (y := y_2) hown (mvT hZ (ww42 hw)) (mvT hZ (ww43 hw)) (mvT hZ (ww3 hw)) (mvT hZ (ww44 hw)) (by decide) hK286 (g := (mkF m 246 ls283 [(.int d2), (.int tt), (.int 5), (.int 2), (.ref b1)])) rfl (by rw [hml, hls283]; rfl) (argsL := [(.ref b1), (.int 2), (.int 5), (.int tt), (.int d2)]) (rest := []) (lenOf pd_5 rfl) rfl (by show 2 * 0 + _ ≤ _; exact Nat.le_of_eq rfl) (hb hby at_246) (fun _ _ => ⟨rfl, e285, (by decide : 3 + 0 ≤ _), (by decide : 16 + 0 ≤ _)⟩)
    dsimp only [Pt.U, Pt.locs, Pt.cells, Pt.slots] at X286 l286 y286 z286 st286 hQ286
    subst l286 y286 z286
    obtain ⟨rfl, N286q, e286⟩ := hQ286
    have N286 := Fr.app N285 N286q
    obtain ⟨lc286, X286, N286⟩ := own_gen X286 N286
    refine step (fun t k => st286 t k) ?_
    show G T286 (mkF m 249 ls283 [(.int (f_h2 w_COMPACT_STRINGS w_SIOOBE_FORMATTER b1 (5 : Int32) tt d2 k1 x0 x1 x2 x3 x4 (123 : Int32)))])
    refine step (fun t k => XS.ifYes X286.here hx rfl (pc0 := 249) (pc' := 258) rfl (hb hby at_249) rfl ((if0 _ _).trans (teq (by unfold f_h2; rw [if_pos (by decide)])).1) (by decide) (by decide) k) ?_
    show G T286 (mkF m 258 ls283 [])
    refine step (fun t k => XS.aload X286.here hx rfl (hb hby at_258) (by rw [hls283]; rfl) rfl k) ?_
    show G T286 (mkF m 260 ls283 [(.ref b1)])
    refine step (fun t k => XS.iconst X286.here hx rfl (hb hby at_260) k) ?_
    show G T286 (mkF m 261 ls283 [(.int 3), (.ref b1)])
    refine step (fun t k => XS.iload X286.here hx rfl (hb hby at_261) (by rw [hls283]; rfl) k) ?_
    show G T286 (mkF m 263 ls283 [(.int 5), (.int 3), (.ref b1)])
    refine step (fun t k => XS.iload X286.here hx rfl (hb hby at_263) (by rw [hls283]; rfl) k) ?_
    show G T286 (mkF m 265 ls283 [(.int tt), (.int 5), (.int 3), (.ref b1)])
    refine step (fun t k => XS.iload X286.here hx rfl (hb hby at_265) (by rw [hls283]; rfl) k) ?_
    show G T286 (mkF m 267 ls283 [(.int d3), (.int tt), (.int 5), (.int 3), (.ref b1)])
    have hK287 := (backOf (R := room_1) (p := p) (e := e) (below := below) (s := s) (args := #[(.int p0), (.long q1), (.int p2), (.int p3)]) (len := 3) (W := 0) (rm_h3 l Z a0 hw [] w_COMPACT_STRINGS w_SIOOBE_FORMATTER b1 (5 : Int32) tt d3 k1 x0 x1 x2 x3 x4 (123 : Int32) T259.heap n0 (own_old_le O259) ST O259 f266) hZ (ww44 hw) (ww3 hw) (by decide) (by decide))
    obtain ⟨_, _, ⟨T287, L287, k287, n287⟩, -, X287, ⟨Lc287, hQ287, l287, y287, z287⟩, st287⟩ := Jvm.LawKit.callS X286 hx (y := y_2) hown (mvT hZ (ww42 hw)) (mvT hZ (ww43 hw)) (mvT hZ (ww3 hw)) (mvT hZ (ww44 hw)) (by decide) hK287 (g := (mkF m 267 ls283 [(.int d3), (.int tt), (.int 5), (.int 3), (.ref b1)])) rfl (by rw [hml, hls283]; rfl) (argsL := [(.ref b1), (.int 3), (.int 5), (.int tt), (.int d3)]) (rest := []) (lenOf pd_5 rfl) rfl (by show 2 * 0 + _ ≤ _; exact Nat.le_of_eq rfl) (hb hby at_267) (fun _ _ => ⟨rfl, e286, (by decide : 3 + 0 ≤ _), (by decide : 16 + 0 ≤ _)⟩)
    dsimp only [Pt.U, Pt.locs, Pt.cells, Pt.slots] at X287 l287 y287 z287 st287 hQ287
    subst l287 y287 z287
    obtain ⟨rfl, N287q, e287⟩ := hQ287
    have N287 := Fr.app N286 N287q
    obtain ⟨lc287, X287, N287⟩ := own_gen X287 N287
    refine step (fun t k => st287 t k) ?_
    show G T287 (mkF m 270 ls283 [(.int (f_h3 w_COMPACT_STRINGS w_SIOOBE_FORMATTER b1 (5 : Int32) tt d3 k1 x0 x1 x2 x3 x4 (123 : Int32)))])
    refine step (fun t k => XS.ifYes X287.here hx rfl (pc0 := 270) (pc' := 279) rfl (hb hby at_270) rfl ((if0 _ _).trans (teq (by unfold f_h3; rw [if_pos (by decide)])).1) (by decide) (by decide) k) ?_
    show G T287 (mkF m 279 ls283 [])
    refine step (fun t k => XS.aload X287.here hx rfl (hb hby at_279) (by rw [hls283]; rfl) rfl k) ?_
    show G T287 (mkF m 281 ls283 [(.ref b1)])
    refine step (fun t k => XS.iconst X287.here hx rfl (hb hby at_281) k) ?_
    show G T287 (mkF m 282 ls283 [(.int 4), (.ref b1)])
    refine step (fun t k => XS.iload X287.here hx rfl (hb hby at_282) (by rw [hls283]; rfl) k) ?_
    show G T287 (mkF m 284 ls283 [(.int 5), (.int 4), (.ref b1)])
    refine step (fun t k => XS.iload X287.here hx rfl (hb hby at_284) (by rw [hls283]; rfl) k) ?_
    show G T287 (mkF m 286 ls283 [(.int tt), (.int 5), (.int 4), (.ref b1)])
    refine step (fun t k => XS.iload X287.here hx rfl (hb hby at_286) (by rw [hls283]; rfl) k) ?_
    show G T287 (mkF m 288 ls283 [(.int d4), (.int tt), (.int 5), (.int 4), (.ref b1)])
    have hK288 := (backOf (R := room_1) (p := p) (e := e) (below := below) (s := s) (args := #[(.int p0), (.long q1), (.int p2), (.int p3)]) (len := 3) (W := 0) (rm_h4 l Z a0 hw [] w_COMPACT_STRINGS w_SIOOBE_FORMATTER b1 (5 : Int32) tt d4 k1 x0 x1 x2 x3 x4 (123 : Int32) T259.heap n0 (own_old_le O259) ST O259 f266) hZ (ww44 hw) (ww3 hw) (by decide) (by decide))
    obtain ⟨_, _, ⟨T288, L288, k288, n288⟩, -, X288, ⟨Lc288, hQ288, l288, y288, z288⟩, st288⟩ := Jvm.LawKit.callS X287 hx (y := y_2) hown (mvT hZ (ww42 hw)) (mvT hZ (ww43 hw)) (mvT hZ (ww3 hw)) (mvT hZ (ww44 hw)) (by decide) hK288 (g := (mkF m 288 ls283 [(.int d4), (.int tt), (.int 5), (.int 4), (.ref b1)])) rfl (by rw [hml, hls283]; rfl) (argsL := [(.ref b1), (.int 4), (.int 5), (.int tt), (.int d4)]) (rest := []) (lenOf pd_5 rfl) rfl (by show 2 * 0 + _ ≤ _; exact Nat.le_of_eq rfl) (hb hby at_288) (fun _ _ => ⟨rfl, e287, (by decide : 3 + 0 ≤ _), (by decide : 16 + 0 ≤ _)⟩)
    dsimp only [Pt.U, Pt.locs, Pt.cells, Pt.slots] at X288 l288 y288 z288 st288 hQ288
    subst l288 y288 z288
    obtain ⟨rfl, N288q, e288⟩ := hQ288
    have N288 := Fr.app N287 N288q
    obtain ⟨lc288, X288, N288⟩ := own_gen X288 N288
    refine step (fun t k => st288 t k) ?_
    show G T288 (mkF m 291 ls283 [(.int (f_h4 w_COMPACT_STRINGS w_SIOOBE_FORMATTER b1 (5 : Int32) tt d4 k1 x0 x1 x2 x3 x4 (123 : Int32)))])
    refine step (fun t k => XS.ifYes X288.here hx rfl (pc0 := 291) (pc' := 300) rfl (hb hby at_291) rfl ((if0 _ _).trans (teq (by unfold f_h4; rw [if_pos (by decide)])).1) (by decide) (by decide) k) ?_
    show G T288 (mkF m 300 ls283 [])
    refine step (fun t k => XS.aload X288.here hx rfl (hb hby at_300) (by rw [hls283]; rfl) rfl k) ?_
    show G T288 (mkF m 302 ls283 [(.ref b1)])
    refine step (fun t k => XS.iconst X288.here hx rfl (hb hby at_302) k) ?_
    show G T288 (mkF m 303 ls283 [(.int 5), (.ref b1)])
    refine step (fun t k => XS.iload X288.here hx rfl (hb hby at_303) (by rw [hls283]; rfl) k) ?_
    show G T288 (mkF m 305 ls283 [(.int 5), (.int 5), (.ref b1)])
    refine step (fun t k => XS.iload X288.here hx rfl (hb hby at_305) (by rw [hls283]; rfl) k) ?_
    show G T288 (mkF m 307 ls283 [(.int tt), (.int 5), (.int 5), (.ref b1)])
    refine step (fun t k => XS.iload X288.here hx rfl (hb hby at_307) (by rw [hls283]; rfl) k) ?_
    show G T288 (mkF m 309 ls283 [(.int d5), (.int tt), (.int 5), (.int 5), (.ref b1)])
    have hK289 := (backOf (R := room_1) (p := p) (e := e) (below := below) (s := s) (args := #[(.int p0), (.long q1), (.int p2), (.int p3)]) (len := 3) (W := 0) (rm_h5 l Z a0 hw [] w_COMPACT_STRINGS w_SIOOBE_FORMATTER b1 (5 : Int32) tt d5 k1 x0 x1 x2 x3 x4 (123 : Int32) T259.heap n0 (own_old_le O259) ST O259 f266) hZ (ww44 hw) (ww3 hw) (by decide) (by decide))
    obtain ⟨_, _, ⟨T289, L289, k289, n289⟩, -, X289, ⟨Lc289, hQ289, l289, y289, z289⟩, st289⟩ := Jvm.LawKit.callS X288 hx (y := y_2) hown (mvT hZ (ww42 hw)) (mvT hZ (ww43 hw)) (mvT hZ (ww3 hw)) (mvT hZ (ww44 hw)) (by decide) hK289 (g := (mkF m 309 ls283 [(.int d5), (.int tt), (.int 5), (.int 5), (.ref b1)])) rfl (by rw [hml, hls283]; rfl) (argsL := [(.ref b1), (.int 5), (.int 5), (.int tt), (.int d5)]) (rest := []) (lenOf pd_5 rfl) rfl (by show 2 * 0 + _ ≤ _; exact Nat.le_of_eq rfl) (hb hby at_309) (fun _ _ => ⟨rfl, e288, (by decide : 3 + 0 ≤ _), (by decide : 16 + 0 ≤ _)⟩)
    dsimp only [Pt.U, Pt.locs, Pt.cells, Pt.slots] at X289 l289 y289 z289 st289 hQ289
    subst l289 y289 z289
    obtain ⟨rfl, N289q, e289⟩ := hQ289
    have N289 := Fr.app N288 N289q
    obtain ⟨lc289, X289, N289⟩ := own_gen X289 N289
    refine step (fun t k => st289 t k) ?_
    show G T289 (mkF m 312 ls283 [(.int (f_h5 w_COMPACT_STRINGS w_SIOOBE_FORMATTER b1 (5 : Int32) tt d5 k1 x0 x1 x2 x3 x4 (123 : Int32)))])
    by_cases hc290 : (f_h5 w_COMPACT_STRINGS w_SIOOBE_FORMATTER b1 (5 : Int32) tt d5 k1 x0 x1 x2 x3 x4 (123 : Int32)) = (0 : Int32)
    · skip
      refine step (fun t k => XS.ifYes X289.here hx rfl (pc0 := 312) (pc' := 321) rfl (hb hby at_312) rfl ((if0 _ _).trans (teq hc290).1) (by decide) (by decide) k) ?_
      show G T289 (mkF m 321 ls283 [])
      refine step (fun t k => XS.iload X289.here hx rfl (hb hby at_321) (by rw [hls283]; rfl) k) ?_
      show G T289 (mkF m 323 ls283 [(.int tt)])
      obtain ⟨ls291, hls291⟩  := own_sl #[.val (.int p0), .val (.long q1), .second, .val (.int p2), .val (.int p3), .val (.ref b1), .val (.int 5), .val (.int tt), .val (.ref b257), .val (.int (own_go [x0, x1, x2, x3, x4, (123 : Int32)] NN (NN - 5) 5 0)), .val (.int d0), .val (.int d1), .val (.int d2), .val (.int d3), .val (.int d4), .val (.int d5), .val (.int tt)]
      refine step (fun t k => XS.istore X289.here hx rfl (hb hby at_323) rfl (l' := ls291) (by rw [hls283, hls291]; rfl) k) ?_
      show G T289 (mkF m 325 ls291 [])
      refine step (fun t k => XS.iload X289.here hx rfl (hb hby at_325) (by rw [hls291]; rfl) k) ?_
      show G T289 (mkF m 327 ls291 [(.int (own_go [x0, x1, x2, x3, x4, (123 : Int32)] NN (NN - 5) 5 0))])
      refine step (fun t k => XS.iload X289.here hx rfl (hb hby at_327) (by rw [hls291]; rfl) k) ?_
      show G T289 (mkF m 329 ls291 [(.int tt), (.int (own_go [x0, x1, x2, x3, x4, (123 : Int32)] NN (NN - 5) 5 0))])
      refine step (fun t k => XS.icmpNo X289.here hx rfl (hb hby at_329) rfl (teq ((own_fin5 x0 x1 x2 x3 x4 (123 : Int32) d5 NN hKN hN6 hv5).trans (by rw [if_neg (own_hn5 (by decide) hNN hN6 hc290)]; exact hNN.symm))).2 k) ?_
      show G T289 (mkF m 332 ls291 [])
      refine step (fun t k => XS.iconst X289.here hx rfl (hb hby at_332) k) ?_
      show G T289 (mkF m 333 ls291 [(.int 1)])
      refine step (fun t k => XS.goto X289.here hx rfl (pc0 := 333) (pc' := 337) rfl (hb hby at_333) (by decide) (by decide) k) ?_
      show G T289 (mkF m 337 ls291 [(.int 1)])
      exact ret (v := some (.int 1)) X289 (fun h => by rw [Bd.returns] at h; cases h) (fun fs hr => retN X289 hx (t := .boolean) Bd.returns (by simp) (hb hby at_337) hr) e289 ⟨rfl, N289⟩ (by decide) (by decide)
    · skip
      refine step (fun t k => XS.ifNo X289.here hx rfl (hb hby at_312) rfl ((if0 _ _).trans (feq hc290).1) k) ?_
      show G T289 (mkF m 315 ls283 [])
      refine step (fun t k => XS.iconst X289.here hx rfl (hb hby at_315) k) ?_
      show G T289 (mkF m 316 ls283 [(.int 5)])
      obtain ⟨ls292, hls292⟩  := own_sl #[.val (.int p0), .val (.long q1), .second, .val (.int p2), .val (.int p3), .val (.ref b1), .val (.int 5), .val (.int tt), .val (.ref b257), .val (.int (own_go [x0, x1, x2, x3, x4, (123 : Int32)] NN (NN - 5) 5 0)), .val (.int d0), .val (.int d1), .val (.int d2), .val (.int d3), .val (.int d4), .val (.int d5), .val (.int 5)]
      refine step (fun t k => XS.istore X289.here hx rfl (hb hby at_316) rfl (l' := ls292) (by rw [hls283, hls292]; rfl) k) ?_
      show G T289 (mkF m 318 ls292 [])
      refine step (fun t k => XS.goto X289.here hx rfl (pc0 := 318) (pc' := 325) rfl (hb hby at_318) (by decide) (by decide) k) ?_
      show G T289 (mkF m 325 ls292 [])
      refine step (fun t k => XS.iload X289.here hx rfl (hb hby at_325) (by rw [hls292]; rfl) k) ?_
      show G T289 (mkF m 327 ls292 [(.int (own_go [x0, x1, x2, x3, x4, (123 : Int32)] NN (NN - 5) 5 0))])
      refine step (fun t k => XS.iload X289.here hx rfl (hb hby at_327) (by rw [hls292]; rfl) k) ?_
      show G T289 (mkF m 329 ls292 [(.int 5), (.int (own_go [x0, x1, x2, x3, x4, (123 : Int32)] NN (NN - 5) 5 0))])
      refine step (fun t k => XS.icmpNo X289.here hx rfl (hb hby at_329) rfl (teq ((own_fin5 x0 x1 x2 x3 x4 (123 : Int32) d5 NN hKN hN6 hv5).trans (by rw [if_pos (own_hy5 (by decide) hNN hN6 hc290)]))).2 k) ?_
      show G T289 (mkF m 332 ls292 [])
      refine step (fun t k => XS.iconst X289.here hx rfl (hb hby at_332) k) ?_
      show G T289 (mkF m 333 ls292 [(.int 1)])
      refine step (fun t k => XS.goto X289.here hx rfl (pc0 := 333) (pc' := 337) rfl (hb hby at_333) (by decide) (by decide) k) ?_
      show G T289 (mkF m 337 ls292 [(.int 1)])
      exact ret (v := some (.int 1)) X289 (fun h => by rw [Bd.returns] at h; cases h) (fun fs hr => retN X289 hx (t := .boolean) Bd.returns (by simp) (hb hby at_337) hr) e289 ⟨rfl, N289⟩ (by decide) (by decide)
set_option maxRecDepth 65536 in
set_option maxHeartbeats 40000000 in
theorem comes_1 {Post : Tables → Env → Array Value → State → Outcome → State → Prop} (hpost : ∀ tb e args s v u, (limb_1_1.after args s (.returned v) u = true ∧ limb_1_2.after args s (.returned v) u = true ∧ True) → FrameEnd s (.returned v) u (Jvm.fieldLocs frame_1_writes args s ++ Jvm.arrayLocs frame_1_arrays args s ++ Jvm.staticLocs frame_1_statics s) 16 128 → Post tb e args s (.returned v) u) :
    ArmFor flags0 classFile x code maxLocals ret World_1 tables_1 room_1 Calls_1 rest_1 Pre_1 Post := by
  intro l hfl _ _ p e ha hc hk s m args below hf hA hF happ hP
  obtain ⟨hcalls, hrest, hpre⟩ := hP
  obtain ⟨-, -, -, hnamed, -, -, -, hat⟩ := (Spec.applies_iff hf).mp happ
  obtain ⟨hg, hn⟩ := and_e (Cond.before_iff.mp (show (Jvm.Cond.and given_1 narrow_1).before args s = true from hpre))
  obtain ⟨g1a, g1b⟩ := and_e hg
  obtain ⟨g2a, g2b⟩ := and_e g1b
  obtain ⟨g3a, g3b⟩ := and_e g2b
  obtain ⟨g4a, g4b⟩ := and_e g3b
  obtain ⟨w0, w1, w2, w3, rfl⟩ : ∃ w0 w1 w2 w3 : Value, args = #[w0, w1, w2, w3] := by
    have hs : args.size = 4 := by simpa [Cond.value, given_1] using g1a
    obtain ⟨L⟩ := args
    match L, hs with
    | [w0, w1, w2, w3], _ => exact ⟨w0, w1, w2, w3, rfl⟩
  have hw := fun d (hd : d ∈ tables_1) => atoms_spec (ws := Jvm.Cond.code x code maxLocals ret :: tables_1) hat d (List.mem_cons_of_mem _ hd)
  have hfit : Fit s := fun {y c} hc i hi => by
    obtain ⟨ha, rfl⟩ := Array.getElem?_eq_some_iff.mp hc
    have q := List.all_eq_true.mp ((Array.all_eq_true_iff_forall_mem.mp hF) _ (Array.getElem_mem ha)) i (List.mem_range.mpr hi)
    simpa [Array.getElem?_eq_getElem hi] using q
  obtain ⟨hsets, hown0⟩ := atoms_of _ (rest_1_c_eq ▸ (show rest_1_c.before _ s = true from hrest))
  obtain ⟨i0, ei0⟩ := is_v g2a
  obtain rfl : w0 = (.int i0) := Option.some.inj ei0
  obtain ⟨i1, ei1⟩ := isL_v g3a
  obtain rfl : w1 = (.long i1) := Option.some.inj ei1
  obtain ⟨i2, ei2⟩ := is_v g4a
  obtain rfl : w2 = (.int i2) := Option.some.inj ei2
  obtain ⟨i3, ei3⟩ := is_v g4b
  obtain rfl : w3 = (.int i3) := Option.some.inj ei3
  obtain ⟨w_COMPACT_STRINGS, ev_COMPACT_STRINGS⟩ := is_v (Cond.before_iff.mp (hsets _ (List.mem_of_getElem? (i := 1) rfl)))
  obtain ⟨w_SIOOBE_FORMATTER, ev_SIOOBE_FORMATTER, rf_SIOOBE_FORMATTER⟩ := isR_v (Cond.before_iff.mp (hsets _ (List.mem_of_getElem? (i := 8) rfl)))
  obtain ⟨n, o, h1, h2, h3, _, L, rfl, ⟨rfl, N⟩, hq⟩ := rm_law l s _ hw tables_1 w_COMPACT_STRINGS w_SIOOBE_FORMATTER i0 i1 i2 i3 s.heap s.heap.size (Nat.le_refl _) ⟨Sta.start ev_COMPACT_STRINGS (Or.inl (hsets _ (List.mem_of_getElem? (i := 0) rfl))), Sta.start ev_SIOOBE_FORMATTER (Or.inl (hsets _ (List.mem_of_getElem? (i := 7) rfl))), rf_SIOOBE_FORMATTER, own_nz ev_COMPACT_STRINGS (Cond.before_iff.mp (hsets _ (List.mem_of_getElem? (i := 2) rfl)))⟩ (Old.start s)  p e ha hc hk s m _ below hf ((Spec.applies_iff_loose hf).mp happ).1 ⟨rfl, State.Warmed39.refl s, rfl⟩ trivial
  refine ⟨n, _, h1, h2, h3, hpost _ _ _ _ _ _ ⟨Cond.after_iff.mpr rfl, Cond.after_iff.mpr (eq_i res_at (Term.int_eval (1)) rfl), trivial⟩ ⟨hq.1, hq.2.1, (hq.2.2.sift fun y hy => Or.inr (N y hy)).mono (by decide) (by decide)⟩⟩
theorem main_1_1 : Claimed_1_1 := comes_1 fun _ _ _ _ _ _ h hF => ⟨h.1, hF⟩
theorem main_1_2 : Claimed_1_2 := comes_1 fun _ _ _ _ _ _ h hF => ⟨h.2.1, hF⟩
end Jvm.Pilot.@@N@@
namespace Jvm.Pilot.@@N@@
open Jvm Jvm.ClassFile Sem Op Lib Jvm.Free Jvm.Stand Jvm.Pilot.@@N@@.Jvm.D
/-! MADE BY PROGRAM (witnessworld.py) out of the Statement's table words and the real class files: 20 classes; the members and pool entries that the words name. The judged class is class 1, her method 4. -/
namespace start1
open Jvm.ClassFile
def u (s : String) : CpInfo := .utf8 (stringToUtf16 s)
/-- a pool by its gaps: so many unusable entries, then the entry; so many at the end -/
def gap : Nat → List CpInfo → List CpInfo
  | 0, r => r
  | n + 1, r => .unusable :: gap n r
def poolList (es : List (Nat × CpInfo)) (last : Nat) : List CpInfo := es.foldr (fun e r => gap e.1 (e.2 :: r)) (gap last [])
def pool (es : List (Nat × CpInfo)) (last : Nat) : Array CpInfo := ⟨poolList es last⟩
def fileOf (pool : Array CpInfo) (this : Nat) (attrs : Array Attribute := #[]) (ms : Array MethodInfo := #[]) (fl : Nat := 33) (sup : Nat := 0) (ifs : Array Nat := #[]) (fds : Array FieldInfo := #[]) : ClassFile where
  minorVersion := 0
  majorVersion := 65
  constantPool := pool
  accessFlags := fl
  thisClass := this
  superClass := sup
  interfaces := ifs
  fields := fds
  methods := ms
  attributes := attrs
def plain (name : String) (sup : Option ClassId) : Class where
  name := name
  kind := .ordinary
  loader := none
  accessFlags := 33
  super := sup
  interfaces := #[]
  cf := none
  fields := #[]
  methods := #[]
  instanceTypes := #[]
  staticTypes := #[]
  resolved := #[]
  callSites := []
  init := .initialized
  statics := none
  mirror := none

def pool0 : Array CpInfo := pool [(5, u "<init>"), (0, u "()V"), (1, .class_ 10), (1, u "java/lang/Object")] 113

def k0c0 : Code := { maxStack := 0, maxLocals := 1, code := object_method_1_code, exceptionTable := #[], attributes := #[] }
def k0m0 : Method := { name := "<init>", desc := "()V", sig := { parameters := [], returnType := none }, accessFlags := 1, code := some k0c0 }
/-- java/lang/Object -/
def k0 : Class := { plain "java/lang/Object" none with
  accessFlags := 33
  interfaces := #[]
  cf := some (fileOf pool0 8 #[] #[{ accessFlags := 1, nameIndex := 5, descriptorIndex := 6, attributes := #[] }] 33 0 #[] #[])
  fields := #[]
  methods := #[k0m0]
  instanceTypes := #[]
  staticTypes := #[]
  resolved := Array.replicate 124 none
  statics := none }

def pool1 : Array CpInfo := pool [(2, .class_ 4), (1, u "java/lang/Object"), (0, u "<init>"), (0, u "()V"), (0, .long 255), (1, .methodref 10 11), (0, .class_ 12), (0, .nameAndType 13 14), (0, u "com/example/refmint/refmint/bibtex/LatexClosingPinLaw"), (0, u "pick"), (0, u "(IJI)C"), (0, .integer 2147483647), (0, .class_ 17), (0, u "java/lang/String"), (0, .methodref 16 19), (0, .nameAndType 5 20), (0, u "([C)V"), (0, .methodref 22 23), (0, .class_ 24), (0, .nameAndType 25 26), (0, u "com/example/refmint/refmint/bibtex/Latex"), (0, u "closing"), (0, u "(Ljava/lang/String;II)I"), (0, .methodref 10 28), (0, .nameAndType 29 30), (0, u "v"), (0, u "([CII)I"), (0, .methodref 10 32), (0, .nameAndType 33 34), (0, u "hit"), (0, u "([CIIII)Z"), (3, u "law"), (0, u "(IJII)Z")] 4

def k1m0 : Method := { name := "<init>", desc := "()V", sig := { parameters := [], returnType := none }, accessFlags := 1, code := none }
def k1c1 : Code := { maxStack := 4, maxLocals := 5, code := method_2_code, exceptionTable := #[], attributes := #[] }
def k1m1 : Method := { name := "pick", desc := "(IJI)C", sig := { parameters := [.int, .long, .int], returnType := some .char }, accessFlags := 10, code := some k1c1 }
def k1c2 : Code := { maxStack := 2, maxLocals := 3, code := method_3_code, exceptionTable := #[], attributes := #[] }
def k1m2 : Method := { name := "v", desc := "([CII)I", sig := { parameters := [(.array .char), .int, .int], returnType := some .int }, accessFlags := 10, code := some k1c2 }
def k1c3 : Code := { maxStack := 2, maxLocals := 5, code := method_4_code, exceptionTable := #[], attributes := #[] }
def k1m3 : Method := { name := "hit", desc := "([CIIII)Z", sig := { parameters := [(.array .char), .int, .int, .int, .int], returnType := some .boolean }, accessFlags := 10, code := some k1c3 }
def k1c4 : Code := { maxStack := 6, maxLocals := 17, code := code, exceptionTable := #[], attributes := #[] }
def k1m4 : Method := { name := "law", desc := "(IJII)Z", sig := { parameters := [.int, .long, .int, .int], returnType := some .boolean }, accessFlags := 9, code := some k1c4 }
/-- com/example/refmint/refmint/bibtex/LatexClosingPinLaw -/
def k1 : Class := { plain "com/example/refmint/refmint/bibtex/LatexClosingPinLaw" (some 0) with
  accessFlags := 49
  interfaces := #[]
  cf := some (fileOf pool1 10 #[] #[{ accessFlags := 1, nameIndex := 5, descriptorIndex := 6, attributes := #[] }, { accessFlags := 10, nameIndex := 13, descriptorIndex := 14, attributes := #[] }, { accessFlags := 10, nameIndex := 29, descriptorIndex := 30, attributes := #[] }, { accessFlags := 10, nameIndex := 33, descriptorIndex := 34, attributes := #[] }, { accessFlags := 9, nameIndex := 38, descriptorIndex := 39, attributes := #[] }] 49 2 #[] #[])
  fields := #[]
  methods := #[k1m0, k1m1, k1m2, k1m3, k1m4]
  instanceTypes := #[]
  staticTypes := #[]
  resolved := Array.replicate 44 none
  statics := none }

def pool2 : Array CpInfo := pool [(1, .class_ 2), (0, u "java/io/Serializable"), (0, .class_ 4), (0, u "java/lang/Object")] 2

/-- java/io/Serializable -/
def k2 : Class := { plain "java/io/Serializable" (some 0) with
  accessFlags := 1537
  interfaces := #[]
  cf := some (fileOf pool2 1 #[] #[] 1537 3 #[] #[])
  fields := #[]
  methods := #[]
  instanceTypes := #[]
  staticTypes := #[]
  resolved := Array.replicate 7 none
  statics := none }

def pool3 : Array CpInfo := pool [(1, .class_ 2), (0, u "java/lang/Comparable"), (0, .class_ 4), (0, u "java/lang/Object")] 7

/-- java/lang/Comparable -/
def k3 : Class := { plain "java/lang/Comparable" (some 0) with
  accessFlags := 1537
  interfaces := #[]
  cf := some (fileOf pool3 1 #[] #[] 1537 3 #[] #[])
  fields := #[]
  methods := #[]
  instanceTypes := #[]
  staticTypes := #[]
  resolved := Array.replicate 12 none
  statics := none }

def pool4 : Array CpInfo := pool [(2, .class_ 4), (1, u "java/lang/CharSequence"), (42, .class_ 48), (0, u "java/lang/CharSequence$1CodePointIterator"), (10, .class_ 60), (0, u "java/lang/CharSequence$1CharIterator"), (5, .class_ 67), (0, u "java/lang/Object")] 63

/-- java/lang/CharSequence -/
def k4 : Class := { plain "java/lang/CharSequence" (some 0) with
  accessFlags := 1537
  interfaces := #[]
  cf := some (fileOf pool4 2 #[.nestMembers #[47, 59]] #[] 1537 66 #[] #[])
  fields := #[]
  methods := #[]
  instanceTypes := #[]
  staticTypes := #[]
  resolved := Array.replicate 131 none
  statics := none }

def pool5 : Array CpInfo := pool [(1, .class_ 2), (0, u "java/lang/constant/Constable"), (0, .class_ 4), (0, u "java/lang/Object")] 6

/-- java/lang/constant/Constable -/
def k5 : Class := { plain "java/lang/constant/Constable" (some 0) with
  accessFlags := 1537
  interfaces := #[]
  cf := some (fileOf pool5 1 #[] #[] 1537 3 #[] #[])
  fields := #[]
  methods := #[]
  instanceTypes := #[]
  staticTypes := #[]
  resolved := Array.replicate 11 none
  statics := none }

def pool6 : Array CpInfo := pool [(1, .class_ 2), (0, u "java/lang/constant/ConstantDesc"), (0, .class_ 4), (0, u "java/lang/Object")] 32

/-- java/lang/constant/ConstantDesc -/
def k6 : Class := { plain "java/lang/constant/ConstantDesc" (some 0) with
  accessFlags := 1537
  interfaces := #[]
  cf := some (fileOf pool6 1 #[] #[] 1537 3 #[] #[])
  fields := #[]
  methods := #[]
  instanceTypes := #[]
  staticTypes := #[]
  resolved := Array.replicate 37 none
  statics := none }

def pool7 : Array CpInfo := pool [(1, .methodref 2 3), (0, .class_ 4), (0, .nameAndType 5 6), (0, u "java/lang/Object"), (0, u "<init>"), (0, u "()V"), (2, .fieldref 10 11), (0, .class_ 12), (0, .nameAndType 13 14), (0, u "java/lang/String"), (0, u "value"), (0, u "[B"), (0, .fieldref 10 16), (0, .nameAndType 17 18), (0, u "coder"), (0, u "B"), (2, u "hash"), (0, u "I"), (2, u "hashIsZero"), (0, u "Z"), (0, .methodref 10 28), (0, .nameAndType 5 29), (0, u "([CIILjava/lang/Void;)V"), (8, .fieldref 10 39), (0, .nameAndType 40 26), (0, u "COMPACT_STRINGS"), (1, .class_ 44), (1, u "java/lang/StringUTF16"), (0, u "compress"), (1, .methodref 42 48), (0, .nameAndType 49 50), (0, u "coderFromArrayLen"), (0, u "([BI)B"), (56, .class_ 109), (1, u "java/lang/StringLatin1"), (32, u "()Z"), (34, .methodref 42 178), (0, .nameAndType 45 179), (0, u "([CII)[B"), (183, u "([BI)C"), (27, u "(II)V"), (35, u "(I)C"), (64, .methodref 10 493), (0, .nameAndType 494 142), (0, u "isLatin1"), (0, .methodref 107 496), (0, .nameAndType 497 363), (0, u "charAt"), (3, u "checkIndex"), (73, .class_ 576), (0, u "java/lang/CharSequence"), (22, u "CASE_INSENSITIVE_ORDER"), (0, u "Ljava/util/Comparator;"), (409, u "([C)V"), (42, .fieldref 1054 1055), (0, .class_ 1056), (0, .nameAndType 1057 1058), (0, u "jdk/internal/util/Preconditions"), (0, u "SIOOBE_FORMATTER"), (0, u "Ljava/util/function/BiFunction;"), (0, .methodref 1054 1060), (0, .nameAndType 501 1061), (0, u "(IILjava/util/function/BiFunction;)I"), (39, u "serialPersistentFields"), (0, u "[Ljava/io/ObjectStreamField;"), (0, .class_ 1104), (0, u "java/lang/String$CaseInsensitiveComparator"), (1, .class_ 1107), (0, u "java/io/Serializable"), (0, .class_ 1109), (0, u "java/lang/Comparable"), (0, .class_ 1111), (0, u "java/lang/constant/Constable"), (0, .class_ 1113), (0, u "java/lang/constant/ConstantDesc"), (2, u "serialVersionUID"), (0, u "J"), (3, u "REPL"), (0, u "C"), (2, u "LATIN1"), (1, u "UTF16")] 323

def k7m0 : Method := { name := "<init>", desc := "()V", sig := { parameters := [], returnType := none }, accessFlags := 1, code := none }
def k7c1 : Code := { maxStack := 5, maxLocals := 2, code := jdk_42_method_3_code, exceptionTable := #[], attributes := #[] }
def k7m1 : Method := { name := "<init>", desc := "([C)V", sig := { parameters := [(.array .char)], returnType := none }, accessFlags := 1, code := some k7c1 }
def k7c2 : Code := { maxStack := 2, maxLocals := 2, code := jdk_42_method_56_code, exceptionTable := #[], attributes := #[] }
def k7m2 : Method := { name := "charAt", desc := "(I)C", sig := { parameters := [.int], returnType := some .char }, accessFlags := 1, code := some k7c2 }
def k7c3 : Code := { maxStack := 4, maxLocals := 6, code := jdk_42_method_149_code, exceptionTable := #[], attributes := #[] }
def k7m3 : Method := { name := "<init>", desc := "([CIILjava/lang/Void;)V", sig := { parameters := [(.array .char), .int, .int, (.object "java/lang/Void")], returnType := none }, accessFlags := 2, code := some k7c3 }
def k7c4 : Code := { maxStack := 1, maxLocals := 1, code := jdk_42_method_154_code, exceptionTable := #[], attributes := #[] }
def k7m4 : Method := { name := "isLatin1", desc := "()Z", sig := { parameters := [], returnType := some .boolean }, accessFlags := 0, code := some k7c4 }
def k7c5 : Code := { maxStack := 3, maxLocals := 2, code := jdk_42_method_155_code, exceptionTable := #[], attributes := #[] }
def k7m5 : Method := { name := "checkIndex", desc := "(II)V", sig := { parameters := [.int, .int], returnType := none }, accessFlags := 8, code := some k7c5 }
/-- java/lang/String -/
def k7 : Class := { plain "java/lang/String" (some 0) with
  accessFlags := 49
  interfaces := #[2, 3, 4, 5, 6]
  cf := some (fileOf pool7 10 #[.nestMembers #[1103]] #[{ accessFlags := 1, nameIndex := 5, descriptorIndex := 6, attributes := #[] }, { accessFlags := 1, nameIndex := 5, descriptorIndex := 1010, attributes := #[] }, { accessFlags := 1, nameIndex := 497, descriptorIndex := 427, attributes := #[] }, { accessFlags := 2, nameIndex := 5, descriptorIndex := 29, attributes := #[] }, { accessFlags := 0, nameIndex := 494, descriptorIndex := 142, attributes := #[] }, { accessFlags := 8, nameIndex := 501, descriptorIndex := 391, attributes := #[] }] 49 2 #[1106, 1108, 575, 1110, 1112] #[{ accessFlags := 18, nameIndex := 13, descriptorIndex := 14, attributes := #[] }, { accessFlags := 18, nameIndex := 17, descriptorIndex := 18, attributes := #[] }, { accessFlags := 2, nameIndex := 21, descriptorIndex := 22, attributes := #[] }, { accessFlags := 2, nameIndex := 25, descriptorIndex := 26, attributes := #[] }, { accessFlags := 26, nameIndex := 1116, descriptorIndex := 1117, attributes := #[] }, { accessFlags := 24, nameIndex := 40, descriptorIndex := 26, attributes := #[] }, { accessFlags := 26, nameIndex := 1101, descriptorIndex := 1102, attributes := #[] }, { accessFlags := 26, nameIndex := 1121, descriptorIndex := 1122, attributes := #[] }, { accessFlags := 25, nameIndex := 599, descriptorIndex := 600, attributes := #[] }, { accessFlags := 24, nameIndex := 1125, descriptorIndex := 18, attributes := #[] }, { accessFlags := 24, nameIndex := 1127, descriptorIndex := 18, attributes := #[] }])
  fields := #[{ name := "value", type := (.array .byte), accessFlags := 18, slot := 0, constantValue := 0 }, { name := "coder", type := .byte, accessFlags := 18, slot := 1, constantValue := 0 }, { name := "hash", type := .int, accessFlags := 2, slot := 2, constantValue := 0 }, { name := "hashIsZero", type := .boolean, accessFlags := 2, slot := 3, constantValue := 0 }, { name := "serialVersionUID", type := .long, accessFlags := 26, slot := 0, constantValue := 0 }, { name := "COMPACT_STRINGS", type := .boolean, accessFlags := 24, slot := 1, constantValue := 0 }, { name := "serialPersistentFields", type := (.array (.object "java/io/ObjectStreamField")), accessFlags := 26, slot := 2, constantValue := 0 }, { name := "REPL", type := .char, accessFlags := 26, slot := 3, constantValue := 0 }, { name := "CASE_INSENSITIVE_ORDER", type := (.object "java/util/Comparator"), accessFlags := 25, slot := 4, constantValue := 0 }, { name := "LATIN1", type := .byte, accessFlags := 24, slot := 5, constantValue := 0 }, { name := "UTF16", type := .byte, accessFlags := 24, slot := 6, constantValue := 0 }]
  methods := #[k7m0, k7m1, k7m2, k7m3, k7m4, k7m5]
  instanceTypes := #[(.array .byte), .byte, .int, .boolean]
  staticTypes := #[.long, .boolean, (.array (.object "java/io/ObjectStreamField")), .char, (.object "java/util/Comparator"), .byte, .byte]
  resolved := Array.replicate 1451 none
  statics := some 0 }

def pool8 : Array CpInfo := pool [(6, .class_ 8), (1, u "java/lang/Object"), (0, u "<init>"), (0, u "()V"), (1, .class_ 14), (1, u "java/lang/StringUTF16"), (31, u "$assertionsDisabled"), (0, u "Z"), (13, u "HI_BYTE_SHIFT"), (0, u "I"), (2, u "LO_BYTE_SHIFT"), (49, .methodref 12 116), (0, .nameAndType 117 118), (0, u "compress"), (0, u "([CI[BII)I"), (3, u "([CII)[B"), (138, u "coderFromArrayLen"), (0, u "([BI)B"), (106, .class_ 371), (1, u "java/lang/StringUTF16$LinesSpliterator"), (58, u "MAX_LENGTH"), (196, .class_ 628), (0, u "java/lang/StringUTF16$CodePointsSpliterator"), (0, .class_ 630), (0, u "java/lang/StringUTF16$CharsSpliterator")] 4

def k8m0 : Method := { name := "<init>", desc := "()V", sig := { parameters := [], returnType := none }, accessFlags := 0, code := none }
def k8c1 : Code := { maxStack := 2, maxLocals := 2, code := jdk_52_method_15_code, exceptionTable := #[], attributes := #[] }
def k8m1 : Method := { name := "coderFromArrayLen", desc := "([BI)B", sig := { parameters := [(.array .byte), .int], returnType := some .byte }, accessFlags := 8, code := some k8c1 }
def k8c2 : Code := { maxStack := 5, maxLocals := 6, code := jdk_52_method_16_code, exceptionTable := #[], attributes := #[] }
def k8m2 : Method := { name := "compress", desc := "([CII)[B", sig := { parameters := [(.array .char), .int, .int], returnType := some (.array .byte) }, accessFlags := 9, code := some k8c2 }
def k8c3 : Code := { maxStack := 3, maxLocals := 7, code := jdk_52_method_21_code, exceptionTable := #[], attributes := #[] }
def k8m3 : Method := { name := "compress", desc := "([CI[BII)I", sig := { parameters := [(.array .char), .int, (.array .byte), .int, .int], returnType := some .int }, accessFlags := 9, code := some k8c3 }
/-- java/lang/StringUTF16 -/
def k8 : Class := { plain "java/lang/StringUTF16" (some 0) with
  accessFlags := 48
  interfaces := #[]
  cf := some (fileOf pool8 12 #[.nestMembers #[627, 629, 369]] #[{ accessFlags := 0, nameIndex := 9, descriptorIndex := 10, attributes := #[] }, { accessFlags := 8, nameIndex := 261, descriptorIndex := 262, attributes := #[] }, { accessFlags := 9, nameIndex := 117, descriptorIndex := 122, attributes := #[] }, { accessFlags := 9, nameIndex := 117, descriptorIndex := 118, attributes := #[] }] 48 6 #[] #[{ accessFlags := 26, nameIndex := 61, descriptorIndex := 62, attributes := #[] }, { accessFlags := 26, nameIndex := 65, descriptorIndex := 62, attributes := #[] }, { accessFlags := 24, nameIndex := 430, descriptorIndex := 62, attributes := #[] }, { accessFlags := 4120, nameIndex := 46, descriptorIndex := 47, attributes := #[] }])
  fields := #[{ name := "HI_BYTE_SHIFT", type := .int, accessFlags := 26, slot := 0, constantValue := 0 }, { name := "LO_BYTE_SHIFT", type := .int, accessFlags := 26, slot := 1, constantValue := 0 }, { name := "MAX_LENGTH", type := .int, accessFlags := 24, slot := 2, constantValue := 0 }, { name := "$assertionsDisabled", type := .boolean, accessFlags := 4120, slot := 3, constantValue := 0 }]
  methods := #[k8m0, k8m1, k8m2, k8m3]
  instanceTypes := #[]
  staticTypes := #[.int, .int, .int, .boolean]
  resolved := Array.replicate 635 none
  statics := none }

def pool9 : Array CpInfo := pool [(2, .class_ 4), (1, u "java/lang/Object"), (6, .class_ 13), (1, u "com/example/refmint/refmint/bibtex/Latex"), (0, u "marks"), (0, u "Ljava/lang/StringBuilder;"), (5, u "groups"), (0, u "Ljava/util/Deque;"), (2, u "latex"), (0, u "Ljava/lang/String;"), (2, u "closings"), (3, u "[I"), (1, .class_ 37), (1, u "java/lang/String"), (7, u "text"), (29, .class_ 76), (0, u "com/example/refmint/refmint/bibtex/Latex$Group"), (12, .methodref 35 90), (0, .nameAndType 91 92), (0, u "charAt"), (0, u "(I)C"), (31, u "ACCENTS"), (0, u "Ljava/util/Map;"), (33, u "LETTERS"), (156, u "ESCAPED"), (6, u "closing"), (0, u "(Ljava/lang/String;II)I")] 22

def k9c0 : Code := { maxStack := 2, maxLocals := 6, code := prog_1_method_14_code, exceptionTable := #[], attributes := #[] }
def k9m0 : Method := { name := "closing", desc := "(Ljava/lang/String;II)I", sig := { parameters := [(.object "java/lang/String"), .int, .int], returnType := some .int }, accessFlags := 8, code := some k9c0 }
/-- com/example/refmint/refmint/bibtex/Latex -/
def k9 : Class := { plain "com/example/refmint/refmint/bibtex/Latex" (some 0) with
  accessFlags := 48
  interfaces := #[]
  cf := some (fileOf pool9 11 #[.nestMembers #[75]] #[{ accessFlags := 8, nameIndex := 323, descriptorIndex := 324, attributes := #[] }] 48 2 #[] #[{ accessFlags := 26, nameIndex := 124, descriptorIndex := 125, attributes := #[] }, { accessFlags := 26, nameIndex := 159, descriptorIndex := 125, attributes := #[] }, { accessFlags := 26, nameIndex := 316, descriptorIndex := 26, attributes := #[] }, { accessFlags := 18, nameIndex := 25, descriptorIndex := 26, attributes := #[] }, { accessFlags := 18, nameIndex := 29, descriptorIndex := 33, attributes := #[] }, { accessFlags := 18, nameIndex := 45, descriptorIndex := 15, attributes := #[] }, { accessFlags := 18, nameIndex := 14, descriptorIndex := 15, attributes := #[] }, { accessFlags := 18, nameIndex := 21, descriptorIndex := 22, attributes := #[] }])
  fields := #[{ name := "ACCENTS", type := (.object "java/util/Map"), accessFlags := 26, slot := 0, constantValue := 0 }, { name := "LETTERS", type := (.object "java/util/Map"), accessFlags := 26, slot := 1, constantValue := 0 }, { name := "ESCAPED", type := (.object "java/lang/String"), accessFlags := 26, slot := 2, constantValue := 0 }, { name := "latex", type := (.object "java/lang/String"), accessFlags := 18, slot := 0, constantValue := 0 }, { name := "closings", type := (.array .int), accessFlags := 18, slot := 1, constantValue := 0 }, { name := "text", type := (.object "java/lang/StringBuilder"), accessFlags := 18, slot := 2, constantValue := 0 }, { name := "marks", type := (.object "java/lang/StringBuilder"), accessFlags := 18, slot := 3, constantValue := 0 }, { name := "groups", type := (.object "java/util/Deque"), accessFlags := 18, slot := 4, constantValue := 0 }]
  methods := #[k9m0]
  instanceTypes := #[(.object "java/lang/String"), (.array .int), (.object "java/lang/StringBuilder"), (.object "java/lang/StringBuilder"), (.object "java/util/Deque")]
  staticTypes := #[(.object "java/util/Map"), (.object "java/util/Map"), (.object "java/lang/String")]
  resolved := Array.replicate 347 none
  statics := none }

def pool10 : Array CpInfo := pool [(1, .class_ 2), (0, u "java/lang/String"), (1, .class_ 6), (1, u "java/lang/Object"), (0, u "<init>"), (0, u "()V"), (0, .methodref 1 10), (0, .nameAndType 11 12), (0, u "checkIndex"), (0, u "(II)V"), (1, .class_ 16), (1, u "java/lang/StringLatin1"), (36, u "([BI)C"), (67, u "$assertionsDisabled"), (0, u "Z"), (98, .class_ 223), (1, u "java/lang/StringLatin1$LinesSpliterator"), (28, u "charAt"), (137, .class_ 391), (0, u "java/lang/StringLatin1$CharsSpliterator")] 3

def k10m0 : Method := { name := "<init>", desc := "()V", sig := { parameters := [], returnType := none }, accessFlags := 0, code := none }
def k10c1 : Code := { maxStack := 2, maxLocals := 2, code := jdk_43_method_2_code, exceptionTable := #[], attributes := #[] }
def k10m1 : Method := { name := "charAt", desc := "([BI)C", sig := { parameters := [(.array .byte), .int], returnType := some .char }, accessFlags := 9, code := some k10c1 }
/-- java/lang/StringLatin1 -/
def k10 : Class := { plain "java/lang/StringLatin1" (some 0) with
  accessFlags := 48
  interfaces := #[]
  cf := some (fileOf pool10 14 #[.nestMembers #[390, 221]] #[{ accessFlags := 0, nameIndex := 7, descriptorIndex := 8, attributes := #[] }, { accessFlags := 9, nameIndex := 252, descriptorIndex := 53, attributes := #[] }] 48 4 #[] #[{ accessFlags := 4120, nameIndex := 121, descriptorIndex := 122, attributes := #[] }])
  fields := #[{ name := "$assertionsDisabled", type := .boolean, accessFlags := 4120, slot := 0, constantValue := 0 }]
  methods := #[k10m0, k10m1]
  instanceTypes := #[]
  staticTypes := #[.boolean]
  resolved := Array.replicate 395 none
  statics := none }

def pool11 : Array CpInfo := pool [(2, .class_ 4), (1, u "java/lang/Object"), (0, u "<init>"), (0, u "()V"), (17, .class_ 26), (1, u "jdk/internal/util/Preconditions"), (6, u "checkIndex"), (21, .class_ 56), (0, u "jdk/internal/util/Preconditions$4"), (57, .class_ 115), (0, u "jdk/internal/util/Preconditions$1"), (7, u "SIOOBE_FORMATTER"), (0, u "Ljava/util/function/BiFunction;"), (0, .class_ 126), (0, u "jdk/internal/util/Preconditions$2"), (3, u "AIOOBE_FORMATTER"), (0, .class_ 132), (0, u "jdk/internal/util/Preconditions$3"), (3, u "IOOBE_FORMATTER"), (41, u "(IILjava/util/function/BiFunction;)I")] 15

def k11m0 : Method := { name := "<init>", desc := "()V", sig := { parameters := [], returnType := none }, accessFlags := 1, code := none }
def k11c1 : Code := { maxStack := 3, maxLocals := 3, code := jdk_41_method_11_code, exceptionTable := #[], attributes := #[] }
def k11m1 : Method := { name := "checkIndex", desc := "(IILjava/util/function/BiFunction;)I", sig := { parameters := [.int, .int, (.object "java/util/function/BiFunction")], returnType := some .int }, accessFlags := 9, code := some k11c1 }
/-- jdk/internal/util/Preconditions -/
def k11 : Class := { plain "jdk/internal/util/Preconditions" (some 0) with
  accessFlags := 33
  interfaces := #[]
  cf := some (fileOf pool11 24 #[.nestMembers #[55, 131, 125, 114]] #[{ accessFlags := 1, nameIndex := 5, descriptorIndex := 6, attributes := #[] }, { accessFlags := 9, nameIndex := 33, descriptorIndex := 178, attributes := #[] }] 33 2 #[] #[{ accessFlags := 25, nameIndex := 123, descriptorIndex := 124, attributes := #[] }, { accessFlags := 25, nameIndex := 130, descriptorIndex := 124, attributes := #[] }, { accessFlags := 25, nameIndex := 136, descriptorIndex := 124, attributes := #[] }])
  fields := #[{ name := "SIOOBE_FORMATTER", type := (.object "java/util/function/BiFunction"), accessFlags := 25, slot := 0, constantValue := 0 }, { name := "AIOOBE_FORMATTER", type := (.object "java/util/function/BiFunction"), accessFlags := 25, slot := 1, constantValue := 0 }, { name := "IOOBE_FORMATTER", type := (.object "java/util/function/BiFunction"), accessFlags := 25, slot := 2, constantValue := 0 }]
  methods := #[k11m0, k11m1]
  instanceTypes := #[]
  staticTypes := #[(.object "java/util/function/BiFunction"), (.object "java/util/function/BiFunction"), (.object "java/util/function/BiFunction")]
  resolved := Array.replicate 194 none
  statics := some 1 }

def pool12 : Array CpInfo := pool [(9, u "<init>"), (6, .class_ 18), (1, u "java/lang/Object"), (0, u "()V"), (1, .class_ 23), (1, u "jdk/internal/util/ArraysSupport"), (0, u "LOG2_ARRAY_LONG_INDEX_SCALE"), (0, u "I"), (2, u "U"), (0, u "Ljdk/internal/misc/Unsafe;"), (8, u "BIG_ENDIAN"), (0, u "Z"), (8, u "LOG2_BYTE_BIT_SIZE"), (4, u "LOG2_ARRAY_INT_INDEX_SCALE"), (54, u "JLA"), (0, u "Ljdk/internal/access/JavaLangAccess;"), (11, u "LOG2_ARRAY_BOOLEAN_INDEX_SCALE"), (9, u "LOG2_ARRAY_BYTE_INDEX_SCALE"), (5, u "LOG2_ARRAY_CHAR_INDEX_SCALE"), (5, u "LOG2_ARRAY_SHORT_INDEX_SCALE"), (18, u "LOG2_ARRAY_FLOAT_INDEX_SCALE"), (24, u "LOG2_ARRAY_DOUBLE_INDEX_SCALE"), (89, u "T_BOOLEAN"), (2, u "T_CHAR"), (1, u "T_FLOAT"), (1, u "T_DOUBLE"), (1, u "T_BYTE"), (1, u "T_SHORT"), (1, u "T_INT"), (1, u "T_LONG"), (1, u "SOFT_MAX_ARRAY_LENGTH")] 83

def k12m0 : Method := { name := "<init>", desc := "()V", sig := { parameters := [], returnType := none }, accessFlags := 2, code := none }
/-- jdk/internal/util/ArraysSupport -/
def k12 : Class := { plain "jdk/internal/util/ArraysSupport" (some 0) with
  accessFlags := 33
  interfaces := #[]
  cf := some (fileOf pool12 21 #[] #[{ accessFlags := 2, nameIndex := 9, descriptorIndex := 19, attributes := #[] }] 33 16 #[] #[{ accessFlags := 24, nameIndex := 28, descriptorIndex := 29, attributes := #[] }, { accessFlags := 26, nameIndex := 38, descriptorIndex := 39, attributes := #[] }, { accessFlags := 25, nameIndex := 121, descriptorIndex := 25, attributes := #[] }, { accessFlags := 25, nameIndex := 131, descriptorIndex := 25, attributes := #[] }, { accessFlags := 25, nameIndex := 137, descriptorIndex := 25, attributes := #[] }, { accessFlags := 25, nameIndex := 143, descriptorIndex := 25, attributes := #[] }, { accessFlags := 25, nameIndex := 53, descriptorIndex := 25, attributes := #[] }, { accessFlags := 25, nameIndex := 24, descriptorIndex := 25, attributes := #[] }, { accessFlags := 25, nameIndex := 162, descriptorIndex := 25, attributes := #[] }, { accessFlags := 25, nameIndex := 187, descriptorIndex := 25, attributes := #[] }, { accessFlags := 26, nameIndex := 48, descriptorIndex := 25, attributes := #[] }, { accessFlags := 25, nameIndex := 277, descriptorIndex := 25, attributes := #[] }, { accessFlags := 25, nameIndex := 280, descriptorIndex := 25, attributes := #[] }, { accessFlags := 25, nameIndex := 282, descriptorIndex := 25, attributes := #[] }, { accessFlags := 25, nameIndex := 284, descriptorIndex := 25, attributes := #[] }, { accessFlags := 25, nameIndex := 286, descriptorIndex := 25, attributes := #[] }, { accessFlags := 25, nameIndex := 288, descriptorIndex := 25, attributes := #[] }, { accessFlags := 25, nameIndex := 290, descriptorIndex := 25, attributes := #[] }, { accessFlags := 25, nameIndex := 292, descriptorIndex := 25, attributes := #[] }, { accessFlags := 26, nameIndex := 108, descriptorIndex := 109, attributes := #[] }, { accessFlags := 25, nameIndex := 294, descriptorIndex := 25, attributes := #[] }])
  fields := #[{ name := "U", type := (.object "jdk/internal/misc/Unsafe"), accessFlags := 24, slot := 0, constantValue := 0 }, { name := "BIG_ENDIAN", type := .boolean, accessFlags := 26, slot := 1, constantValue := 0 }, { name := "LOG2_ARRAY_BOOLEAN_INDEX_SCALE", type := .int, accessFlags := 25, slot := 2, constantValue := 0 }, { name := "LOG2_ARRAY_BYTE_INDEX_SCALE", type := .int, accessFlags := 25, slot := 3, constantValue := 0 }, { name := "LOG2_ARRAY_CHAR_INDEX_SCALE", type := .int, accessFlags := 25, slot := 4, constantValue := 0 }, { name := "LOG2_ARRAY_SHORT_INDEX_SCALE", type := .int, accessFlags := 25, slot := 5, constantValue := 0 }, { name := "LOG2_ARRAY_INT_INDEX_SCALE", type := .int, accessFlags := 25, slot := 6, constantValue := 0 }, { name := "LOG2_ARRAY_LONG_INDEX_SCALE", type := .int, accessFlags := 25, slot := 7, constantValue := 0 }, { name := "LOG2_ARRAY_FLOAT_INDEX_SCALE", type := .int, accessFlags := 25, slot := 8, constantValue := 0 }, { name := "LOG2_ARRAY_DOUBLE_INDEX_SCALE", type := .int, accessFlags := 25, slot := 9, constantValue := 0 }, { name := "LOG2_BYTE_BIT_SIZE", type := .int, accessFlags := 26, slot := 10, constantValue := 0 }, { name := "T_BOOLEAN", type := .int, accessFlags := 25, slot := 11, constantValue := 0 }, { name := "T_CHAR", type := .int, accessFlags := 25, slot := 12, constantValue := 0 }, { name := "T_FLOAT", type := .int, accessFlags := 25, slot := 13, constantValue := 0 }, { name := "T_DOUBLE", type := .int, accessFlags := 25, slot := 14, constantValue := 0 }, { name := "T_BYTE", type := .int, accessFlags := 25, slot := 15, constantValue := 0 }, { name := "T_SHORT", type := .int, accessFlags := 25, slot := 16, constantValue := 0 }, { name := "T_INT", type := .int, accessFlags := 25, slot := 17, constantValue := 0 }, { name := "T_LONG", type := .int, accessFlags := 25, slot := 18, constantValue := 0 }, { name := "JLA", type := (.object "jdk/internal/access/JavaLangAccess"), accessFlags := 26, slot := 19, constantValue := 0 }, { name := "SOFT_MAX_ARRAY_LENGTH", type := .int, accessFlags := 25, slot := 20, constantValue := 0 }]
  methods := #[k12m0]
  instanceTypes := #[]
  staticTypes := #[(.object "jdk/internal/misc/Unsafe"), .boolean, .int, .int, .int, .int, .int, .int, .int, .int, .int, .int, .int, .int, .int, .int, .int, .int, .int, (.object "jdk/internal/access/JavaLangAccess"), .int]
  resolved := Array.replicate 378 none
  statics := none }

def pool13 : Array CpInfo := pool [(1, u "java/lang/Cloneable"), (0, .class_ 1), (0, u "java/lang/Object"), (0, .class_ 3)] 3

/-- java/lang/Cloneable -/
def k13 : Class := { plain "java/lang/Cloneable" (some 0) with
  accessFlags := 1537
  interfaces := #[]
  cf := some (fileOf pool13 2 #[] #[] 1537 4 #[] #[])
  fields := #[]
  methods := #[]
  instanceTypes := #[]
  staticTypes := #[]
  resolved := Array.replicate 8 none
  statics := none }

/-- the primitive byte -/
def k14 : Class := { plain "byte" none with kind := .primitive 'B', accessFlags := 0x411 }
/-- [B -/
def k15 : Class := { plain "[B" (some 0) with kind := .array 14 .byte, interfaces := #[13, 2], accessFlags := 1041 }

/-- the primitive char -/
def k16 : Class := { plain "char" none with kind := .primitive 'C', accessFlags := 0x411 }
/-- [C -/
def k17 : Class := { plain "[C" (some 0) with kind := .array 16 .char, interfaces := #[13, 2], accessFlags := 1041 }

/-- the primitive int -/
def k18 : Class := { plain "int" none with kind := .primitive 'I', accessFlags := 0x411 }
/-- [I -/
def k19 : Class := { plain "[I" (some 0) with kind := .array 18 .int, interfaces := #[13, 2], accessFlags := 1041 }

def heap : Heap := #[{ cls := 7, slots := #[.long 0, .int 1, .null, .int 0, .null, .int 0, .int 0], vm := .statics 7 },
  { cls := 11, slots := #[.null, .null, .null], vm := .statics 11 }]
def classes : Array Class := #[k0, k1, k2, k3, k4, k5, k6, k7, k8, k9, k10, k11, k12, k13, k14, k15, k16, k17, k18, k19]
def interned : List (Array UInt16 × Addr) := []
def slotsUsed : Nat := 10
def theMethod : MethodId := ⟨1, 4⟩
def args0 : Array Value := #[.int 1, .long 5, .int 2, .int 3]
def aboutOver (below : List Frame) : State where
  vm := { classes := classes, interned := interned.toArray }
  heap := heap
  slotsUsed := slotsUsed
  threads := #[{ frames := .invoking theMethod args0 :: below }]
def below0 : List Frame := [.native { method := ⟨0, 0⟩, args := #[] }]
def about1 : State := aboutOver below0
def p0 : Program := .bare "" "" ""
def e0 : Env := launch0.env 0 0 0
theorem w_frames : about1.frames = Frame.invoking theMethod args0 :: below0 := rfl
set_option maxRecDepth 65536 in
theorem w_args : argsFit about1.vm theMethod args0 = true := by decide +kernel
set_option maxRecDepth 65536 in
theorem w_heap : heapFits about1 = true := by decide +kernel
set_option maxRecDepth 65536 in
theorem w_runnable : about1.curStatus? = some .runnable := by decide +kernel
set_option maxRecDepth 65536 in
theorem w_alone : about1.alone = true := by decide +kernel
set_option maxRecDepth 65536 in
theorem w_named : about1.methodNamed? x = some theMethod := by decide +kernel
set_option maxRecDepth 65536 in
theorem w_hears : about1.hears theMethod below0 = true := by decide +kernel
set_option maxRecDepth 65536 in
theorem w_ripe : about1.ripe theMethod args0 below0 = true := by decide +kernel
theorem w_running : about1.status = .running := rfl
set_option maxRecDepth 65536 in
theorem w_room : about1.hasRoom e0.platform room_1 = true :=
  launch0.hasRoom_least _ room_1 (by decide +kernel) (by decide +kernel) (by decide +kernel) (by decide +kernel) (by decide +kernel) (by decide +kernel)
theorem allAtoms_all (ts : List Jvm.Cond) (a : Array Jvm.Value) (st : Jvm.State) : (allAtoms ts).before a st = ts.all (fun c => c.before a st) := by
  induction ts with
  | nil => rfl
  | cons c t ih =>
    show (Jvm.Cond.and c (allAtoms t)).before a st = _
    rw [Jvm.Cond.before_and, ih, List.all_cons]
def words1 : List Jvm.Cond := Jvm.Cond.code x code maxLocals ret :: tables_1
/-- a 'code' word, met by the world's own term for the bytes: nothing is compared byte by byte -/
theorem code_word {y : MethodName} {bytes : ByteArray} {mx : Nat} {rt : Option FieldType} {a : Array Value} {s : State} {m : MethodId} {meth : Method} {c : Code} (h1 : s.methodNamed? y = some m) (h2 : s.vm.method? m = some meth) (h3 : meth.code = some c) (h4 : c.code = bytes)
    (h5 : (c.maxLocals == mx && c.exceptionTable.isEmpty && decide (c.maxStack ≤ mostOperands) && decide (meth.sig.returnType = rt) && !meth.locks && decide (parseMethodDescriptor y.desc = some meth.sig)) = true) : (Jvm.Cond.code y bytes mx rt).before a s = true := by
  simp only [Bool.and_eq_true, beq_iff_eq, Bool.not_eq_true', decide_eq_true_eq] at h5
  obtain ⟨⟨⟨⟨⟨g1, g2⟩, g3⟩, g4⟩, g5⟩, g6⟩ := h5
  simp [Cond.before, Cond.holds, Cond.value, h1, h2, h3, h4, g1, g2, g3, g4, g5, g6]
def isCode : Jvm.Cond → Bool
  | .code _ _ _ _ => true
  | _ => false
theorem all_split {L : List Jvm.Cond} {P : Jvm.Cond → Bool} (h1 : L.all (fun c => isCode c || P c) = true) (h2 : ∀ c ∈ L.filter isCode, P c = true) : L.all P = true := by
  refine List.all_eq_true.mpr fun c hc => ?_
  have h := List.all_eq_true.mp h1 c hc
  rcases Bool.eq_false_or_eq_true (isCode c) with hi | hi
  · exact h2 c (List.mem_filter.mpr ⟨hc, hi⟩)
  · simpa [hi] using h
set_option maxRecDepth 65536 in
theorem w_c0 : (Jvm.Cond.code x code maxLocals ret).before args0 about1 = true := code_word (m := ⟨1, 4⟩) (meth := k1m4) (c := k1c4) (by decide +kernel) rfl rfl rfl (by decide +kernel)
set_option maxRecDepth 65536 in
theorem w_c1 : (Jvm.Cond.code ({ cls := "com/example/refmint/refmint/bibtex/LatexClosingPinLaw", name := "pick", desc := "(IJI)C" } : Jvm.MethodName) method_2_code (5 : Nat) (Option.some Jvm.ClassFile.FieldType.char)).before args0 about1 = true := code_word (m := ⟨1, 1⟩) (meth := k1m1) (c := k1c1) (by decide +kernel) rfl rfl rfl (by decide +kernel)
set_option maxRecDepth 65536 in
theorem w_c2 : (Jvm.Cond.code ({ cls := "java/lang/String", name := "<init>", desc := "([C)V" } : Jvm.MethodName) jdk_42_method_3_code (2 : Nat) (Option.none : Option Jvm.ClassFile.FieldType)).before args0 about1 = true := code_word (m := ⟨7, 1⟩) (meth := k7m1) (c := k7c1) (by decide +kernel) rfl rfl rfl (by decide +kernel)
set_option maxRecDepth 65536 in
theorem w_c3 : (Jvm.Cond.code ({ cls := "java/lang/String", name := "<init>", desc := "([CIILjava/lang/Void;)V" } : Jvm.MethodName) jdk_42_method_149_code (6 : Nat) (Option.none : Option Jvm.ClassFile.FieldType)).before args0 about1 = true := code_word (m := ⟨7, 3⟩) (meth := k7m3) (c := k7c3) (by decide +kernel) rfl rfl rfl (by decide +kernel)
set_option maxRecDepth 65536 in
theorem w_c4 : (Jvm.Cond.code ({ cls := "java/lang/Object", name := "<init>", desc := "()V" } : Jvm.MethodName) object_method_1_code (1 : Nat) (Option.none : Option Jvm.ClassFile.FieldType)).before args0 about1 = true := code_word (m := ⟨0, 0⟩) (meth := k0m0) (c := k0c0) (by decide +kernel) rfl rfl rfl (by decide +kernel)
set_option maxRecDepth 65536 in
theorem w_c5 : (Jvm.Cond.code ({ cls := "java/lang/StringUTF16", name := "compress", desc := "([CII)[B" } : Jvm.MethodName) jdk_52_method_16_code (6 : Nat) (Option.some (Jvm.ClassFile.FieldType.array Jvm.ClassFile.FieldType.byte))).before args0 about1 = true := code_word (m := ⟨8, 2⟩) (meth := k8m2) (c := k8c2) (by decide +kernel) rfl rfl rfl (by decide +kernel)
set_option maxRecDepth 65536 in
theorem w_c6 : (Jvm.Cond.code ({ cls := "java/lang/StringUTF16", name := "compress", desc := "([CI[BII)I" } : Jvm.MethodName) jdk_52_method_21_code (7 : Nat) (Option.some Jvm.ClassFile.FieldType.int)).before args0 about1 = true := code_word (m := ⟨8, 3⟩) (meth := k8m3) (c := k8c3) (by decide +kernel) rfl rfl rfl (by decide +kernel)
set_option maxRecDepth 65536 in
theorem w_c7 : (Jvm.Cond.code ({ cls := "java/lang/StringUTF16", name := "coderFromArrayLen", desc := "([BI)B" } : Jvm.MethodName) jdk_52_method_15_code (2 : Nat) (Option.some Jvm.ClassFile.FieldType.byte)).before args0 about1 = true := code_word (m := ⟨8, 1⟩) (meth := k8m1) (c := k8c1) (by decide +kernel) rfl rfl rfl (by decide +kernel)
set_option maxRecDepth 65536 in
theorem w_c8 : (Jvm.Cond.code ({ cls := "com/example/refmint/refmint/bibtex/Latex", name := "closing", desc := "(Ljava/lang/String;II)I" } : Jvm.MethodName) prog_1_method_14_code (6 : Nat) (Option.some Jvm.ClassFile.FieldType.int)).before args0 about1 = true := code_word (m := ⟨9, 0⟩) (meth := k9m0) (c := k9c0) (by decide +kernel) rfl rfl rfl (by decide +kernel)
set_option maxRecDepth 65536 in
theorem w_c9 : (Jvm.Cond.code ({ cls := "com/example/refmint/refmint/bibtex/LatexClosingPinLaw", name := "v", desc := "([CII)I" } : Jvm.MethodName) method_3_code (3 : Nat) (Option.some Jvm.ClassFile.FieldType.int)).before args0 about1 = true := code_word (m := ⟨1, 2⟩) (meth := k1m2) (c := k1c2) (by decide +kernel) rfl rfl rfl (by decide +kernel)
set_option maxRecDepth 65536 in
theorem w_c10 : (Jvm.Cond.code ({ cls := "com/example/refmint/refmint/bibtex/LatexClosingPinLaw", name := "hit", desc := "([CIIII)Z" } : Jvm.MethodName) method_4_code (5 : Nat) (Option.some Jvm.ClassFile.FieldType.boolean)).before args0 about1 = true := code_word (m := ⟨1, 3⟩) (meth := k1m3) (c := k1c3) (by decide +kernel) rfl rfl rfl (by decide +kernel)
set_option maxRecDepth 65536 in
theorem w_c11 : (Jvm.Cond.code ({ cls := "java/lang/String", name := "charAt", desc := "(I)C" } : Jvm.MethodName) jdk_42_method_56_code (2 : Nat) (Option.some Jvm.ClassFile.FieldType.char)).before args0 about1 = true := code_word (m := ⟨7, 2⟩) (meth := k7m2) (c := k7c2) (by decide +kernel) rfl rfl rfl (by decide +kernel)
set_option maxRecDepth 65536 in
theorem w_c12 : (Jvm.Cond.code ({ cls := "java/lang/String", name := "isLatin1", desc := "()Z" } : Jvm.MethodName) jdk_42_method_154_code (1 : Nat) (Option.some Jvm.ClassFile.FieldType.boolean)).before args0 about1 = true := code_word (m := ⟨7, 4⟩) (meth := k7m4) (c := k7c4) (by decide +kernel) rfl rfl rfl (by decide +kernel)
set_option maxRecDepth 65536 in
theorem w_c13 : (Jvm.Cond.code ({ cls := "java/lang/StringLatin1", name := "charAt", desc := "([BI)C" } : Jvm.MethodName) jdk_43_method_2_code (2 : Nat) (Option.some Jvm.ClassFile.FieldType.char)).before args0 about1 = true := code_word (m := ⟨10, 1⟩) (meth := k10m1) (c := k10c1) (by decide +kernel) rfl rfl rfl (by decide +kernel)
set_option maxRecDepth 65536 in
theorem w_c14 : (Jvm.Cond.code ({ cls := "java/lang/String", name := "checkIndex", desc := "(II)V" } : Jvm.MethodName) jdk_42_method_155_code (2 : Nat) (Option.none : Option Jvm.ClassFile.FieldType)).before args0 about1 = true := code_word (m := ⟨7, 5⟩) (meth := k7m5) (c := k7c5) (by decide +kernel) rfl rfl rfl (by decide +kernel)
set_option maxRecDepth 65536 in
theorem w_c15 : (Jvm.Cond.code ({ cls := "jdk/internal/util/Preconditions", name := "checkIndex", desc := "(IILjava/util/function/BiFunction;)I" } : Jvm.MethodName) jdk_41_method_11_code (3 : Nat) (Option.some Jvm.ClassFile.FieldType.int)).before args0 about1 = true := code_word (m := ⟨11, 1⟩) (meth := k11m1) (c := k11c1) (by decide +kernel) rfl rfl rfl (by decide +kernel)
def codes1 : List Jvm.Cond := [Jvm.Cond.code x code maxLocals ret, Jvm.Cond.code ({ cls := "com/example/refmint/refmint/bibtex/LatexClosingPinLaw", name := "pick", desc := "(IJI)C" } : Jvm.MethodName) method_2_code (5 : Nat) (Option.some Jvm.ClassFile.FieldType.char), Jvm.Cond.code ({ cls := "java/lang/String", name := "<init>", desc := "([C)V" } : Jvm.MethodName) jdk_42_method_3_code (2 : Nat) (Option.none : Option Jvm.ClassFile.FieldType), Jvm.Cond.code ({ cls := "java/lang/String", name := "<init>", desc := "([CIILjava/lang/Void;)V" } : Jvm.MethodName) jdk_42_method_149_code (6 : Nat) (Option.none : Option Jvm.ClassFile.FieldType), Jvm.Cond.code ({ cls := "java/lang/Object", name := "<init>", desc := "()V" } : Jvm.MethodName) object_method_1_code (1 : Nat) (Option.none : Option Jvm.ClassFile.FieldType), Jvm.Cond.code ({ cls := "java/lang/StringUTF16", name := "compress", desc := "([CII)[B" } : Jvm.MethodName) jdk_52_method_16_code (6 : Nat) (Option.some (Jvm.ClassFile.FieldType.array Jvm.ClassFile.FieldType.byte)), Jvm.Cond.code ({ cls := "java/lang/StringUTF16", name := "compress", desc := "([CI[BII)I" } : Jvm.MethodName) jdk_52_method_21_code (7 : Nat) (Option.some Jvm.ClassFile.FieldType.int), Jvm.Cond.code ({ cls := "java/lang/StringUTF16", name := "coderFromArrayLen", desc := "([BI)B" } : Jvm.MethodName) jdk_52_method_15_code (2 : Nat) (Option.some Jvm.ClassFile.FieldType.byte), Jvm.Cond.code ({ cls := "com/example/refmint/refmint/bibtex/Latex", name := "closing", desc := "(Ljava/lang/String;II)I" } : Jvm.MethodName) prog_1_method_14_code (6 : Nat) (Option.some Jvm.ClassFile.FieldType.int), Jvm.Cond.code ({ cls := "com/example/refmint/refmint/bibtex/LatexClosingPinLaw", name := "v", desc := "([CII)I" } : Jvm.MethodName) method_3_code (3 : Nat) (Option.some Jvm.ClassFile.FieldType.int), Jvm.Cond.code ({ cls := "com/example/refmint/refmint/bibtex/LatexClosingPinLaw", name := "hit", desc := "([CIIII)Z" } : Jvm.MethodName) method_4_code (5 : Nat) (Option.some Jvm.ClassFile.FieldType.boolean), Jvm.Cond.code ({ cls := "java/lang/String", name := "charAt", desc := "(I)C" } : Jvm.MethodName) jdk_42_method_56_code (2 : Nat) (Option.some Jvm.ClassFile.FieldType.char), Jvm.Cond.code ({ cls := "java/lang/String", name := "isLatin1", desc := "()Z" } : Jvm.MethodName) jdk_42_method_154_code (1 : Nat) (Option.some Jvm.ClassFile.FieldType.boolean), Jvm.Cond.code ({ cls := "java/lang/StringLatin1", name := "charAt", desc := "([BI)C" } : Jvm.MethodName) jdk_43_method_2_code (2 : Nat) (Option.some Jvm.ClassFile.FieldType.char), Jvm.Cond.code ({ cls := "java/lang/String", name := "checkIndex", desc := "(II)V" } : Jvm.MethodName) jdk_42_method_155_code (2 : Nat) (Option.none : Option Jvm.ClassFile.FieldType), Jvm.Cond.code ({ cls := "jdk/internal/util/Preconditions", name := "checkIndex", desc := "(IILjava/util/function/BiFunction;)I" } : Jvm.MethodName) jdk_41_method_11_code (3 : Nat) (Option.some Jvm.ClassFile.FieldType.int)]
set_option maxRecDepth 65536 in
theorem codes_eq : words1.filter isCode = codes1 := rfl
theorem w_codes : ∀ c ∈ words1.filter isCode, c.before args0 about1 = true := by
  rw [codes_eq]
  intro c hc
  simp only [codes1, List.mem_cons, List.not_mem_nil, or_false] at hc
  rcases hc with rfl | rfl | rfl | rfl | rfl | rfl | rfl | rfl | rfl | rfl | rfl | rfl | rfl | rfl | rfl | rfl
  · exact w_c0
  · exact w_c1
  · exact w_c2
  · exact w_c3
  · exact w_c4
  · exact w_c5
  · exact w_c6
  · exact w_c7
  · exact w_c8
  · exact w_c9
  · exact w_c10
  · exact w_c11
  · exact w_c12
  · exact w_c13
  · exact w_c14
  · exact w_c15
set_option maxRecDepth 65536 in
theorem w_t1 : (words1.take 24).all (fun c => isCode c || c.before args0 about1) = true := by decide +kernel
set_option maxRecDepth 65536 in
theorem w_t2 : ((words1.drop 24).take 24).all (fun c => isCode c || c.before args0 about1) = true := by decide +kernel
set_option maxRecDepth 65536 in
theorem w_t3 : ((words1.drop 24).drop 24).all (fun c => isCode c || c.before args0 about1) = true := by decide +kernel
theorem w_tables : (allAtoms (Jvm.Cond.code x code maxLocals ret :: tables_1)).before args0 about1 = true := by
  rw [allAtoms_all]
  show words1.all (fun c => c.before args0 about1) = true
  refine all_split ?_ w_codes
  rw [← List.take_append_drop 24 words1, List.all_append, w_t1, ← List.take_append_drop 24 (words1.drop 24), List.all_append, w_t2, w_t3]
  rfl
set_option maxRecDepth 65536 in
theorem w_rest : rest_1_c.before args0 about1 = true := by decide +kernel
set_option maxRecDepth 65536 in
theorem w_case : (Jvm.Cond.and given_1 narrow_1).before args0 about1 = true := by decide +kernel
theorem w_applies : (headSpec (Jvm.Cond.code x code maxLocals ret :: tables_1) room_1).applies x e0.platform about1 = true :=
  (Spec.applies_iff w_frames).mpr ⟨w_running, w_runnable, w_alone, w_named, w_hears, w_ripe, w_room, w_tables⟩
theorem atStart : AtStart classFile x code maxLocals ret World_1 tables_1 room_1 Calls_1 rest_1 Pre_1 launch0 p0 e0 about1 theMethod args0 below0 :=
  ⟨lists_1, trivial, launch0.admits_env _ _ _, launch0.least_env, fairChoices_fair.cas, fairChoices_fair.clock, w_frames, w_args, w_heap, w_applies, trivial, w_rest, w_case⟩
end start1
theorem witness_1 : WitnessClaimed_1 := ⟨start1.p0, start1.e0, start1.about1, start1.theMethod, start1.args0, start1.below0, start1.atStart⟩
end Jvm.Pilot.@@N@@
