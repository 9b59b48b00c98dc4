import JvmDerived
import JvmDerived.Pilot.@@N@@Statement
import JvmDerived.Pilot.@@N@@Code
set_option linter.unusedVariables false
set_option linter.unusedSimpArgs false
namespace Jvm.RoadKit
open Sem ClassFile Op Lib Jvm.Stand Jvm.Free Jvm.LawKit
section New
variable {p : Program} {l : Launch} {e : Env} {R : Room} {s : State} {m : MethodId} {args : Array Value} {below : List Frame} {meth : Method} {c : Code} {T : State} {locs : List Loc} {cells slots : Nat}
theorem retI (X : Stand p l e R s m args below meth c T locs cells slots) (hx : p.tables.exec = Jvm.exec) {pc : Nat} {Ls : Array Slot} {z : Int32} {rest : List Value} (hret : meth.sig.returnType = some .int) (hd : decode c.code pc = .ok (.ireturn, 1)) {fs : List Frame}
    (hl : ∀ (f : JFrame) (acts : List Action), f.method = m → f.locked = none → f.entered = [] → (doReturn e (T.setTop f) acts (some (.int z))).1 = T.setFrames fs) : Steps p.tables e below (T.setTop (mkF m pc Ls (.int z :: rest))) (T.setFrames fs) :=
  retOut X hx hret rfl (Or.inl ⟨rfl, Or.inl rfl, z, rfl⟩) hd hl
theorem retL (X : Stand p l e R s m args below meth c T locs cells slots) (hx : p.tables.exec = Jvm.exec) {pc : Nat} {Ls : Array Slot} {z : Int64} {rest : List Value} (hret : meth.sig.returnType = some .long) (hd : decode c.code pc = .ok (.lreturn, 1)) {fs : List Frame}
    (hl : ∀ (f : JFrame) (acts : List Action), f.method = m → f.locked = none → f.entered = [] → (doReturn e (T.setTop f) acts (some (.long z))).1 = T.setFrames fs) : Steps p.tables e below (T.setTop (mkF m pc Ls (.long z :: rest))) (T.setFrames fs) :=
  retOut X hx hret rfl (Or.inr (Or.inl ⟨rfl, rfl, z, rfl⟩)) hd hl
theorem own_retD (X : Stand p l e R s m args below meth c T locs cells slots) (hx : p.tables.exec = Jvm.exec) {pc : Nat} {Ls : Array Slot} {z : UInt64} {rest : List Value} (hret : meth.sig.returnType = some .double) (hd : decode c.code pc = .ok (.dreturn, 1)) {fs : List Frame}
    (hl : ∀ (f : JFrame) (acts : List Action), f.method = m → f.locked = none → f.entered = [] → (doReturn e (T.setTop f) acts (some (.double z))).1 = T.setFrames fs) : Steps p.tables e below (T.setTop (mkF m pc Ls (.double z :: rest))) (T.setFrames fs) :=
  retOut X hx hret rfl (Or.inr (Or.inr (Or.inl ⟨rfl, rfl, z, rfl⟩))) hd hl
theorem own_nar {t : FieldType} {w : Value} (ht : t.isReference = true) (hw : w.isRef = true) : narrow t w = w := by
  cases t <;> first | (cases ht; done) | (cases w <;> first | rfl | (cases hw; done))
theorem retA (X : Stand p l e R s m args below meth c T locs cells slots) (hx : p.tables.exec = Jvm.exec) {pc : Nat} {Ls : Array Slot} {w : Value} {t : FieldType} {rest : List Value} (hret : meth.sig.returnType = some t) (ht : t.isReference = true) (hw : w.isRef = true) (hd : decode c.code pc = .ok (.areturn, 1)) {fs : List Frame}
    (hl : ∀ (f : JFrame) (acts : List Action), f.method = m → f.locked = none → f.entered = [] → (doReturn e (T.setTop f) acts (some w)).1 = T.setFrames fs) : Steps p.tables e below (T.setTop (mkF m pc Ls (w :: rest))) (T.setFrames fs) :=
  retOut X hx hret (own_nar ht hw) (Or.inr (Or.inr (Or.inr (Or.inr ⟨rfl, ht, hw⟩)))) hd hl
/-- the rest of a walk, as a predicate on where it stands -/
theorem own_open (K N : Nat) (Q : Option Value → Heap → List Loc → Prop) (hlocks : meth.locks = false) :
    ∃ G : State → JFrame → Prop,
      (∀ {T T' : State} {g g' : JFrame}, (∀ t, Steps p.tables e below (T'.setTop g') t → Steps p.tables e below (T.setTop g) t) → G T' g' → G T g) ∧
      (∀ {T : State} {g : JFrame} {locs : List Loc} {cells slots : Nat} {v : Option Value} {h : Heap}, Stand p l e R s m args below meth c T locs cells slots → (meth.sig.returnType = none → v = none) →
        (∀ fs, (∀ (f : JFrame) (acts : List Action), f.method = m → f.locked = none → f.entered = [] → (doReturn e (T.setTop f) acts v).1 = T.setFrames fs) → Steps p.tables e below (T.setTop g) (T.setFrames fs)) → T.heap = h → Q v h locs → cells ≤ K → slots ≤ N → G T g) ∧
      (∀ {T : State} {g : JFrame}, G T g → ∃ t o, Steps p.tables e below (T.setTop g) t ∧ t.status = .running ∧ Ended t below o ∧ ∃ v L, o = .returned v ∧ Q v t.heap L ∧ FrameEnd s o t L K N) := by
  refine ⟨fun T g => ∃ t o, Steps p.tables e below (T.setTop g) t ∧ t.status = .running ∧ Ended t below o ∧ ∃ v L, o = .returned v ∧ Q v t.heap L ∧ FrameEnd s o t L K N, ?_, ?_, fun h => h⟩
  · intro T T' g g' hs hG
    obtain ⟨t, o, h1, h2⟩ := hG
    exact ⟨t, o, hs t h1, h2⟩
  · intro T g locs cells slots v h X hv hst hT hQ hk hn
    obtain ⟨fs, hr, hrun, hended, hW, hsame⟩ := X.leave hv hlocks
    exact ⟨_, _, hst fs hr, hrun, hended, v, locs, rfl, by show Q v T.heap locs; rw [hT]; exact hQ, ⟨_, rfl⟩, hW, hsame.mono hk hn⟩
theorem own_openW (K N : Nat) (Q : Option Value → Heap → List Loc → Prop) (hlocks : meth.locks = false) :
    ∃ G : State → JFrame → Prop,
      (∀ {T T' : State} {g g' : JFrame}, (∀ t, Steps p.tables e below (T'.setTop g') t → Steps p.tables e below (T.setTop g) t) → G T' g' → G T g) ∧
      (∀ {T : State} {g : JFrame} {locs : List Loc} {cells slots : Nat} {v : Option Value} {h : Heap} {vm0 : Vm} {k0 : Nat}, Stand p l e R (s.setVm vm0) m args below meth c T locs cells slots → s.Since vm0 k0 → k0 ≤ h.size → (meth.sig.returnType = none → v = none) →
        (∀ fs, (∀ (f : JFrame) (acts : List Action), f.method = m → f.locked = none → f.entered = [] → (doReturn e (T.setTop f) acts v).1 = T.setFrames fs) → Steps p.tables e below (T.setTop g) (T.setFrames fs)) → T.heap = h → Q v h locs → cells ≤ K → slots ≤ N → G T g) ∧
      (∀ {T : State} {g : JFrame}, G T g → ∃ t o, Steps p.tables e below (T.setTop g) t ∧ t.status = .running ∧ Ended t below o ∧ ∃ v L, o = .returned v ∧ Q v t.heap L ∧ ReturnedEndW s o t L K N) := by
  refine ⟨fun T g => ∃ t o, Steps p.tables e below (T.setTop g) t ∧ t.status = .running ∧ Ended t below o ∧ ∃ v L, o = .returned v ∧ Q v t.heap L ∧ ReturnedEndW s o t L K N, ?_, ?_, fun h => h⟩
  · intro T T' g g' hs hG
    obtain ⟨t, o, h1, h2⟩ := hG
    exact ⟨t, o, hs t h1, h2⟩
  · intro T g locs cells slots v h vm0 k0 X hS hk0 hv hst hT hQ hk hn
    obtain ⟨fs, hr, hrun, hended, hW⟩ := X.leaveW hS (by rw [hT]; exact hk0) hv hlocks
    exact ⟨_, _, hst fs hr, hrun, hended, v, locs, rfl, by show Q v T.heap locs; rw [hT]; exact hQ, hW.1, hW.2.1, hW.2.2.1, hW.2.2.2.mono hk hn⟩
theorem own_at {j : Int32} {i : Nat} {vs : List Value} {d v : Value} (hj : j.toNatClampNeg = i) (h : vs.getD i d = v) : vs.getD j.toNatClampNeg d = v := hj ▸ h
theorem own_gen {n0 : Nat} (X : Stand p l e R s m args below meth c T locs cells slots) (N : Fr n0 locs) : ∃ lc, Stand p l e R s m args below meth c T lc cells slots ∧ Fr n0 lc := ⟨_, X, N⟩
theorem own_sl (a : Array Slot) : ∃ z, z = a := ⟨_, rfl⟩
theorem own_xlt {x y : Int32} : x < y ↔ x.toInt < y.toInt := Int32.lt_iff_toInt_lt
theorem own_xeq {x y : Int32} : x = y ↔ x.toInt = y.toInt := Int32.toInt_inj.symm
theorem own_xltL {x y : Int64} : x < y ↔ x.toInt < y.toInt := Int64.lt_iff_toInt_lt
theorem own_xeqL {x y : Int64} : x = y ↔ x.toInt = y.toInt := Int64.toInt_inj.symm
theorem own_old_le {Z : State} {n0 : Nat} {h : Heap} (O : Old Z n0 h) : n0 ≤ h.size := O.1 ▸ O.2.1
theorem own_oldne {Z : State} {n0 : Nat} {h : Heap} {a b : Addr} (O : Old Z n0 h) (q : a < Z.heap.size) (r : n0 ≤ b) : a ≠ b := O.ne q r
theorem own_fldI {Z : State} {args : Array Value} {t : Term} {C f d : String} {a : Addr} {k : Int32} (ht : t.eval args Z none [] Z = some (.ref a)) (h : (Cond.eq (.field t C f d) (.int k)).value args Z none Z [] = some true) : Fld Z Z.heap a C f d (.int k) := by
  refine Fld.start ?_
  rw [← fld_at (C := C) (n := f) (dd := d) ht]
  obtain ⟨x, y, h1, h2, h3, h4⟩ := cmp_v (Or.inl h)
  have h5 : y = .int k := Option.some.inj (h2.symm.trans (Term.int_eval k))
  subst h5
  obtain ⟨z, rfl⟩ := h4
  have := gotT (P := z = k) (by simp [Cond.value, h1, h2]) h
  rw [h1, this]
theorem own_fldD {Z : State} {args : Array Value} {t : Term} {C f d : String} {a : Addr} {k : Int64} {b : UInt64} (hb : k.toUInt64 = b) (ht : t.eval args Z none [] Z = some (.ref a)) (h : (Cond.eq (.field t C f d) (.op1 .bitsD (.long k))).value args Z none Z [] = some true) : Fld Z Z.heap a C f d (.double b) := by
  refine Fld.start ?_
  rw [← fld_at (C := C) (n := f) (dd := d) ht]
  obtain ⟨x, y, h1, h2, h3, h4⟩ := cmp_v (Or.inl h)
  have h5 : y = .double k.toUInt64 := Option.some.inj (h2.symm.trans rfl)
  subst h5
  obtain ⟨z, rfl⟩ := h4
  have := gotT (P := z = k.toUInt64) (by simp [Cond.value, h1, h2]) h
  rw [h1, this, hb]
theorem own_dnn {a b : UInt64} (ha : Jvm.Free.Fl.NoNaN64 a) (hb : FP.Core.DFin b) (hz : ¬ FP.Core.DZero b) : Jvm.Free.Fl.NoNaN64 (FP.ddiv a b) := by
  refine Jvm.Free.Fl.val64_no.mpr fun q => ?_
  have q2 := (FP.Core.quotient_nan FP.Core.b64 _ _).mp ((FP.Core.val64_ddiv a b).symm.trans q)
  rcases q2 with h | h | ⟨s, t, h1, h2⟩ | ⟨s, t, q, r, h1, h2⟩
  · exact Jvm.Free.Fl.val64_no.mp ha h
  · exact hb.ne_nan h
  · exact hb.ne_inf t h2
  · exact hz ⟨t, r, h2⟩
theorem own_i2dn (x : Int32) : Jvm.Free.Fl.NoNaN64 (FP.i2d x) := Jvm.Free.Fl.noNaN64_no.mpr (FP.Core.i2d_fin x).notNaN
theorem own_i2dz {x : Int32} (h : x ≠ 0) : ¬ FP.Core.DZero (FP.i2d x) := fun q => FP.Core.i2d_ne_zero h ((FP.Core.zero_bits2 _).mp q)
theorem own_and255 (x : Int32) : ¬ (x &&& (255 : Int32)) < 0 ∧ ¬ (255 : Int32) < (x &&& (255 : Int32)) := by
  have c1 := c_mask x (255 : Int32) 8 (by decide) (by decide)
  have q0 : (0 : Int32).toInt = 0 := by decide
  have q1 : (255 : Int32).toInt = 255 := by decide
  rw [own_xlt, own_xlt]
  omega
theorem own_l255 (x : Int64) : ¬ (x &&& (255 : Int64)).toInt32 < 0 ∧ ¬ (255 : Int32) < (x &&& (255 : Int64)).toInt32 := by
  have c1 := c_maskL x (255 : Int64) 8 (by decide) (by decide)
  have c2 := c_l2i (x &&& (255 : Int64))
  have r := rng32 (x &&& (255 : Int64)).toInt32
  have q0 : (0 : Int32).toInt = 0 := by decide
  have q1 : (255 : Int32).toInt = 255 := by decide
  rw [own_xlt, own_xlt]
  omega
theorem own_i2c {x : Int32} (h : ¬ x < 0 ∧ ¬ (255 : Int32) < x) : x.toUInt32.toUInt16.toUInt32.toInt32 = x := by
  have c1 := c_i2c x
  have q0 : (0 : Int32).toInt = 0 := by decide
  have q1 : (255 : Int32).toInt = 255 := by decide
  rw [own_xlt, own_xlt] at h
  rw [own_xeq]
  omega
theorem own_narc {x : Int32} (h : ¬ x < 0 ∧ ¬ (255 : Int32) < x) : nar .char x = x := own_i2c h
theorem own_nz {Z : State} {args : Array Value} {t : Term} {z : Int32} (ht : t.eval args Z none [] Z = some (.int z)) (h : (Cond.not (Cond.eq t (.int 0))).value args Z none Z [] = some true) : ¬ z = (0 : Int32) :=
  gotF (P := z = (0 : Int32)) (by simp [Cond.value, ht, Term.int_eval]) (not_v h)
theorem own_evI {Z : State} {args : Array Value} {u : Term} {k : Int32} (h : (Cond.eq u (.int k)).value args Z none Z [] = some true) : u.eval args Z none [] Z = some (.int k) := by
  obtain ⟨x, y, h1, h2, h3, h4⟩ := cmp_v (Or.inl h)
  have h5 : y = .int k := Option.some.inj (h2.symm.trans (Term.int_eval k))
  subst h5
  obtain ⟨z, rfl⟩ := h4
  have := gotT (P := z = k) (by simp [Cond.value, h1, h2]) h
  rw [h1, this]
theorem own_slotI {Z : State} {args : Array Value} {t : Term} {a : Addr} {i k : Int32} {cl : Cell} (ht : t.eval args Z none [] Z = some (.ref a)) (hc : Z.heap[a]? = some cl) (h : (Cond.eq (.elem t (.int i)) (.int k)).value args Z none Z [] = some true) : cl.slots[i.toNatClampNeg]? = some (.int k) :=
  (elem_in (own_evI h) ht (Term.int_eval i) hc).2
theorem own_lenI {Z : State} {args : Array Value} {t : Term} {a : Addr} {n : Int32} {cl : Cell} {ty : FieldType} (ht : t.eval args Z none [] Z = some (.ref a)) (A : Arr Z Z.heap a cl ty) (h : (Cond.eq (.length t) (.int n)).value args Z none Z [] = some true) : cl.slots.size < 2 ^ 31 ∧ cl.slots.size.toInt32 = n := by
  have hh := A.fin (Vm.Alike.refl _)
  have q := own_evI h
  simp only [Term.eval, ht, hh, Option.bind_eq_bind, Option.bind_some] at q
  split at q
  · rename_i hlt
    exact ⟨hlt, Value.int.inj (Option.some.inj q)⟩
  · cases q
theorem own_fldN {Z : State} {args : Array Value} {t : Term} {C f d : String} {a : Addr} (ht : t.eval args Z none [] Z = some (.ref a)) (h : (Cond.eq (.field t C f d) .null).value args Z none Z [] = some true) : Fld Z Z.heap a C f d .null := by
  refine Fld.start ?_
  rw [← fld_at (C := C) (n := f) (dd := d) ht]
  exact null_v h
theorem own_selpriv {Z s : State} {a0 args : Array Value} {y : MethodName} {n : Nat} (hZ : Z.Warmed39 s.vm) (wp : (Cond.privateMethod y).before a0 Z = true) (wi : (Cond.instanceMethod y).before a0 Z = true) (wk : (Cond.instantiable y.cls n).before a0 Z = true) (hy : y.cls ≠ "java/lang/invoke/MethodHandle" ∧ y.cls ≠ "java/lang/invoke/VarHandle") : (Cond.selects y.cls y y).before args s = true := by
  obtain ⟨c, k, h1, h2, -, h3, -⟩ := Cond.instantiable_spec (mv (s := s) (args := args) hZ wk)
  exact selects_self_of_private h1 h2 (Bool.or_eq_false_iff.mp h3).1 (Cond.privateMethod_at (mvP hZ wp (args := args))) (mv hZ wi) hy
theorem own_ne_arv {Z : State} {h : Heap} {a b : Addr} {C : String} {a0 : Array Value} {i : Nat} {k : ClassId} {ty : FieldType} {n : Int32} {vs : List Value} {dv : Value} (F : Exa Z h a C) (wi : (Cond.instantiable C i).before a0 Z = true) (V : Arv Z h b k ty n vs dv) : a ≠ b := by
  obtain ⟨cl, A, -⟩ := V
  exact ne_arr F wi A
theorem own_arr_keep {Z : State} {h h' : Heap} {a : Addr} {cl : Cell} {ty : FieldType} {ws : List Addr} (F : Arr Z h a cl ty) (K : Keep h h' ws) (q : a ∉ ws) : Arr Z h' a cl ty := ⟨K.2.1 a cl F.1 q, F.2⟩
section Arrays
variable {Z : State} {h : Heap} {a : Addr} {k : ClassId} {n : Int32} {vs : List Value} {dv : Value} {g : JFrame} {rest : List Value} {j : Int32} {v : Value}
theorem own_len {ty : FieldType} (X : Stand p l e R s m args below meth c T locs cells slots) (hx : p.tables.exec = Jvm.exec) (hZ : Z.Warmed39 s.vm) (eT : T.heap = h) (V : Arv Z h a k ty n vs dv) (hg : g.method = m) (hs : g.stack = .ref a :: rest) (hd : decode c.code g.pc = .ok (.arraylength, 1)) (target : State)
    (hr : Steps p.tables e below (T.setTop { g with pc := g.pc + 1, stack := .int n :: rest }) target) : Steps p.tables e below (T.setTop g) target := by
  obtain ⟨cl, A, -, S, N, -, -⟩ := V
  refine X.arraylength hx (by rw [eT]; exact A.1) (State.isArrayOf_alike hZ.alike A.2.1) hg hs hd target ?_
  rw [len_of S N]; exact hr
theorem own_ldI (X : Stand p l e R s m args below meth c T locs cells slots) (hx : p.tables.exec = Jvm.exec) (hZ : Z.Warmed39 s.vm) (eT : T.heap = h) (V : Arv Z h a k .int n vs dv) (hj : ¬ j < 0 ∧ j < n) (hv : vs.getD j.toNatClampNeg dv = v) (hg : g.method = m) (hs : g.stack = .int j :: .ref a :: rest) (hd : decode c.code g.pc = .ok (.iaload, 1)) (target : State)
    (hr : Steps p.tables e below (T.setTop { g with pc := g.pc + 1, stack := v :: rest }) target) : Steps p.tables e below (T.setTop g) target := by
  obtain ⟨cl, A, -, S, N, H, -⟩ := V
  have hin := inb_of S hj
  exact X.iaload hx (by rw [eT]; exact A.1) (State.isArrayOf_alike hZ.alike A.2.1) A.2.2 hin (H.at hin hv) hg hs hd target hr
theorem own_ldJ (X : Stand p l e R s m args below meth c T locs cells slots) (hx : p.tables.exec = Jvm.exec) (hZ : Z.Warmed39 s.vm) (eT : T.heap = h) (V : Arv Z h a k .long n vs dv) (hj : ¬ j < 0 ∧ j < n) (hv : vs.getD j.toNatClampNeg dv = v) (hg : g.method = m) (hs : g.stack = .int j :: .ref a :: rest) (hd : decode c.code g.pc = .ok (.laload, 1)) (target : State)
    (hr : Steps p.tables e below (T.setTop { g with pc := g.pc + 1, stack := v :: rest }) target) : Steps p.tables e below (T.setTop g) target := by
  obtain ⟨cl, A, -, S, N, H, -⟩ := V
  have hin := inb_of S hj
  exact X.laload hx (by rw [eT]; exact A.1) (State.isArrayOf_alike hZ.alike A.2.1) A.2.2 hin (H.at hin hv) hg hs hd target hr
theorem own_ldC (X : Stand p l e R s m args below meth c T locs cells slots) (hx : p.tables.exec = Jvm.exec) (hZ : Z.Warmed39 s.vm) (eT : T.heap = h) (V : Arv Z h a k .char n vs dv) (hj : ¬ j < 0 ∧ j < n) (hv : vs.getD j.toNatClampNeg dv = v) (hg : g.method = m) (hs : g.stack = .int j :: .ref a :: rest) (hd : decode c.code g.pc = .ok (.caload, 1)) (target : State)
    (hr : Steps p.tables e below (T.setTop { g with pc := g.pc + 1, stack := v :: rest }) target) : Steps p.tables e below (T.setTop g) target := by
  obtain ⟨cl, A, -, S, N, H, -⟩ := V
  have hin := inb_of S hj
  exact X.caload hx (by rw [eT]; exact A.1) (State.isArrayOf_alike hZ.alike A.2.1) A.2.2 hin (H.at hin hv) hg hs hd target hr
theorem own_ldB (X : Stand p l e R s m args below meth c T locs cells slots) (hx : p.tables.exec = Jvm.exec) (hZ : Z.Warmed39 s.vm) (eT : T.heap = h) (V : Arv Z h a k .byte n vs dv) (hj : ¬ j < 0 ∧ j < n) (hv : vs.getD j.toNatClampNeg dv = v) (hg : g.method = m) (hs : g.stack = .int j :: .ref a :: rest) (hd : decode c.code g.pc = .ok (.baload, 1)) (target : State)
    (hr : Steps p.tables e below (T.setTop { g with pc := g.pc + 1, stack := v :: rest }) target) : Steps p.tables e below (T.setTop g) target := by
  obtain ⟨cl, A, -, S, N, H, -⟩ := V
  have hin := inb_of S hj
  exact X.baloadBytes hx (by rw [eT]; exact A.1) (State.isArrayOf_alike hZ.alike A.2.1) A.2.2 hin (H.at hin hv) hg hs hd target hr
theorem own_ldR {ty : FieldType} (X : Stand p l e R s m args below meth c T locs cells slots) (hx : p.tables.exec = Jvm.exec) (hZ : Z.Warmed39 s.vm) (eT : T.heap = h) (V : Arv Z h a k ty n vs dv) (hj : ¬ j < 0 ∧ j < n) (hv : vs.getD j.toNatClampNeg dv = v) (hty : ty.isReference = true) (hg : g.method = m) (hs : g.stack = .int j :: .ref a :: rest) (hd : decode c.code g.pc = .ok (.aaload, 1)) (target : State)
    (hr : Steps p.tables e below (T.setTop { g with pc := g.pc + 1, stack := v :: rest }) target) : Steps p.tables e below (T.setTop g) target := by
  obtain ⟨cl, A, -, S, N, H, -⟩ := V
  have hin := inb_of S hj
  exact X.aaload hx (by rw [eT]; exact A.1) (State.isArrayOf_alike hZ.alike A.2.1) hty A.2.2 hin (H.at hin hv) hg hs hd target hr
theorem own_stI {x : Int32} (X : Stand p l e R s m args below meth c T locs cells slots) (hx : p.tables.exec = Jvm.exec) (hZ : Z.Warmed39 s.vm) (eT : T.heap = h) (V : Arv Z h a k .int n vs dv) (hj : ¬ j < 0 ∧ j < n) {i : Nat} (hji : j.toNatClampNeg = i) (hi : i < vs.length) (hg : g.method = m) (hs : g.stack = .int x :: .int j :: .ref a :: rest) (hd : decode c.code g.pc = .ok (.iastore, 1)) :
    ∃ T' h', Stand p l e R s m args below meth c T' (locs ++ [⟨a, j.toNatClampNeg⟩]) cells slots ∧ T'.heap = h' ∧ Wr h h' a j.toNatClampNeg (.int x) ∧ Arv Z h' a k .int n (vs.set i (.int x)) dv ∧ ∀ target, Steps p.tables e below (T'.setTop { g with pc := g.pc + 1, stack := rest }) target → Steps p.tables e below (T.setTop g) target := by
  obtain ⟨cl, A, q, S, N, H, Gf⟩ := V
  obtain ⟨T', h', X', e', W', st⟩ := stI X hx hZ eT A (inb_of S hj) hg hs hd
  exact ⟨T', h', X', e', W', Arv.set A q S N H Gf rfl W' i hji hi, st⟩
theorem own_stJ {x : Int64} (X : Stand p l e R s m args below meth c T locs cells slots) (hx : p.tables.exec = Jvm.exec) (hZ : Z.Warmed39 s.vm) (eT : T.heap = h) (V : Arv Z h a k .long n vs dv) (hj : ¬ j < 0 ∧ j < n) {i : Nat} (hji : j.toNatClampNeg = i) (hi : i < vs.length) (hg : g.method = m) (hs : g.stack = .long x :: .int j :: .ref a :: rest) (hd : decode c.code g.pc = .ok (.lastore, 1)) :
    ∃ T' h', Stand p l e R s m args below meth c T' (locs ++ [⟨a, j.toNatClampNeg⟩]) cells slots ∧ T'.heap = h' ∧ Wr h h' a j.toNatClampNeg (.long x) ∧ Arv Z h' a k .long n (vs.set i (.long x)) dv ∧ ∀ target, Steps p.tables e below (T'.setTop { g with pc := g.pc + 1, stack := rest }) target → Steps p.tables e below (T.setTop g) target := by
  obtain ⟨cl, A, q, S, N, H, Gf⟩ := V
  obtain ⟨T', h', X', e', W', st⟩ := stJ X hx hZ eT A (inb_of S hj) hg hs hd
  exact ⟨T', h', X', e', W', Arv.set A q S N H Gf rfl W' i hji hi, st⟩
theorem own_stC {x : Int32} (X : Stand p l e R s m args below meth c T locs cells slots) (hx : p.tables.exec = Jvm.exec) (hZ : Z.Warmed39 s.vm) (eT : T.heap = h) (V : Arv Z h a k .char n vs dv) (hj : ¬ j < 0 ∧ j < n) {i : Nat} (hji : j.toNatClampNeg = i) (hi : i < vs.length) (hg : g.method = m) (hs : g.stack = .int x :: .int j :: .ref a :: rest) (hd : decode c.code g.pc = .ok (.castore, 1)) :
    ∃ T' h', Stand p l e R s m args below meth c T' (locs ++ [⟨a, j.toNatClampNeg⟩]) cells slots ∧ T'.heap = h' ∧ Wr h h' a j.toNatClampNeg (.int (nar .char x)) ∧ Arv Z h' a k .char n (vs.set i (.int (nar .char x))) dv ∧ ∀ target, Steps p.tables e below (T'.setTop { g with pc := g.pc + 1, stack := rest }) target → Steps p.tables e below (T.setTop g) target := by
  obtain ⟨cl, A, q, S, N, H, Gf⟩ := V
  obtain ⟨T', h', X', e', W', st⟩ := stC X hx hZ eT A (inb_of S hj) hg hs hd
  exact ⟨T', h', X', e', W', Arv.set A q S N H Gf (fits_nar_char _) W' i hji hi, st⟩
theorem own_stB {x : Int32} (X : Stand p l e R s m args below meth c T locs cells slots) (hx : p.tables.exec = Jvm.exec) (hZ : Z.Warmed39 s.vm) (eT : T.heap = h) (V : Arv Z h a k .byte n vs dv) (hj : ¬ j < 0 ∧ j < n) {i : Nat} (hji : j.toNatClampNeg = i) (hi : i < vs.length) (hg : g.method = m) (hs : g.stack = .int x :: .int j :: .ref a :: rest) (hd : decode c.code g.pc = .ok (.bastore, 1)) :
    ∃ T' h', Stand p l e R s m args below meth c T' (locs ++ [⟨a, j.toNatClampNeg⟩]) cells slots ∧ T'.heap = h' ∧ Wr h h' a j.toNatClampNeg (.int (nar .byte x)) ∧ Arv Z h' a k .byte n (vs.set i (.int (nar .byte x))) dv ∧ ∀ target, Steps p.tables e below (T'.setTop { g with pc := g.pc + 1, stack := rest }) target → Steps p.tables e below (T.setTop g) target := by
  obtain ⟨cl, A, q, S, N, H, Gf⟩ := V
  obtain ⟨T', h', X', e', W', st⟩ := stB X hx hZ eT A (inb_of S hj) hg hs hd
  exact ⟨T', h', X', e', W', Arv.set A q S N H Gf (fits_nar_byte _) W' i hji hi, st⟩
theorem own_stR {K : String} (X : Stand p l e R s m args below meth c T locs cells slots) (hx : p.tables.exec = Jvm.exec) (hZ : Z.Warmed39 s.vm) (eT : T.heap = h) (V : Arv Z h a k (.object K) n vs dv) (hj : ¬ j < 0 ∧ j < n) {i : Nat} (hji : j.toNatClampNeg = i) (hi : i < vs.length) (hS : ∀ {cl : Cell}, Arr Z h a cl (.object K) → cl.cls = k → Sto Z h a v) (hg : g.method = m) (hs : g.stack = v :: .int j :: .ref a :: rest) (hd : decode c.code g.pc = .ok (.aastore, 1)) (hf : fits (.object K) v = true := by rfl) :
    ∃ T' h', Stand p l e R s m args below meth c T' (locs ++ [⟨a, j.toNatClampNeg⟩]) cells slots ∧ T'.heap = h' ∧ Wr h h' a j.toNatClampNeg v ∧ Arv Z h' a k (.object K) n (vs.set i v) dv ∧ ∀ target, Steps p.tables e below (T'.setTop { g with pc := g.pc + 1, stack := rest }) target → Steps p.tables e below (T.setTop g) target := by
  obtain ⟨cl, A, q, S, N, H, Gf⟩ := V
  obtain ⟨T', h', X', e', W', st⟩ := stR X hx hZ eT A (inb_of S hj) rfl (hS A q) hg hs hd
  exact ⟨T', h', X', e', W', Arv.set A q S N H Gf hf W' i hji hi, st⟩
end Arrays
end New
end Jvm.RoadKit
namespace Jvm.Pilot.@@N@@
open Jvm Jvm.ClassFile Sem Op Lib Jvm.Free Jvm.Stand Jvm.LawKit Jvm.RoadKit Bundle Jvm.Pilot.@@N@@.Jvm.D
abbrev cn_0 : String := "com/example/tempogate/tempogate/gate/AdmissionTimes"
abbrev cn_1 : String := "com/example/tempogate/tempogate/rules/Window"
abbrev cn_2 : String := "com/example/tempogate/tempogate/rules/Window$Type"
abbrev cn_3 : String := "com/example/tempogate/tempogate/gate/AdmissionTimesAddPinLaw"
abbrev cn_4 : String := "Lcom/example/tempogate/tempogate/rules/Window$Type;"
abbrev cn_5 : String := "()Lcom/example/tempogate/tempogate/rules/Window$Type;"
abbrev cn_6 : String := "(Lcom/example/tempogate/tempogate/rules/Window;J)I"
abbrev cn_7 : String := "java/lang/Enum"
abbrev cn_8 : String := "(Ljava/lang/Object;Ljava/lang/String;)Ljava/lang/Object;"
abbrev cn_9 : String := "(Lcom/example/tempogate/tempogate/rules/Window$Type;JJ)V"
abbrev cn_10 : String := "com/example/tempogate/tempogate/gate/AdmissionTimes$1"
abbrev cn_11 : String := "(J)Lcom/example/tempogate/tempogate/rules/Window;"
abbrev cn_12 : String := "java/lang/Math"
abbrev cn_13 : String := "java/lang/Record"
abbrev cn_14 : String := "java/lang/Object"
abbrev cn_15 : String := "java/util/Objects"
def own_St (Z : State) (w_0 : Addr) (w_1 : Addr) (w_2 : Addr) : Prop := (Sta Z Z.heap cn_2 "SLIDING" cn_4 (.ref w_0)) ∧ (Exa Z Z.heap w_0 cn_2) ∧ (Sta Z Z.heap cn_2 "CALENDAR" cn_4 (.ref w_1)) ∧ (Exa Z Z.heap w_1 cn_2) ∧ (Fld Z Z.heap w_0 cn_7 "ordinal" "I" (.int 0)) ∧ (Fld Z Z.heap w_1 cn_7 "ordinal" "I" (.int 1)) ∧ (Sta Z Z.heap cn_10 "$SwitchMap$com$example$tempogate$tempogate$rules$Window$Type" "[I" (.ref w_2)) ∧ (∃ k, Arv Z Z.heap w_2 k .int (3 : Int32) [(.int 1), (.int 2), (.int 3)] (.int (0 : Int32)))
theorem own_St.k0 {Z : State} {w_0 : Addr} {w_1 : Addr} {w_2 : Addr} (ST : own_St Z w_0 w_1 w_2) : Sta Z Z.heap cn_2 "SLIDING" cn_4 (.ref w_0) := ST.1
theorem own_St.k1 {Z : State} {w_0 : Addr} {w_1 : Addr} {w_2 : Addr} (ST : own_St Z w_0 w_1 w_2) : Exa Z Z.heap w_0 cn_2 := ST.2.1
theorem own_St.k2 {Z : State} {w_0 : Addr} {w_1 : Addr} {w_2 : Addr} (ST : own_St Z w_0 w_1 w_2) : Sta Z Z.heap cn_2 "CALENDAR" cn_4 (.ref w_1) := ST.2.2.1
theorem own_St.k3 {Z : State} {w_0 : Addr} {w_1 : Addr} {w_2 : Addr} (ST : own_St Z w_0 w_1 w_2) : Exa Z Z.heap w_1 cn_2 := ST.2.2.2.1
theorem own_St.k4 {Z : State} {w_0 : Addr} {w_1 : Addr} {w_2 : Addr} (ST : own_St Z w_0 w_1 w_2) : Fld Z Z.heap w_0 cn_7 "ordinal" "I" (.int 0) := ST.2.2.2.2.1
theorem own_St.k5 {Z : State} {w_0 : Addr} {w_1 : Addr} {w_2 : Addr} (ST : own_St Z w_0 w_1 w_2) : Fld Z Z.heap w_1 cn_7 "ordinal" "I" (.int 1) := ST.2.2.2.2.2.1
theorem own_St.k6 {Z : State} {w_0 : Addr} {w_1 : Addr} {w_2 : Addr} (ST : own_St Z w_0 w_1 w_2) : Sta Z Z.heap cn_10 "$SwitchMap$com$example$tempogate$tempogate$rules$Window$Type" "[I" (.ref w_2) := ST.2.2.2.2.2.2.1
theorem own_St.k7 {Z : State} {w_0 : Addr} {w_1 : Addr} {w_2 : Addr} (ST : own_St Z w_0 w_1 w_2) : ∃ k, Arv Z Z.heap w_2 k .int (3 : Int32) [(.int 1), (.int 2), (.int 3)] (.int (0 : Int32)) := ST.2.2.2.2.2.2.2
def own_at4 (x0 : Int64) (x1 : Int64) (x2 : Int64) (x3 : Int64) (i : Int32) : Int64 := (if i = (0 : Int32) then x0 else (if i = (1 : Int32) then x1 else (if i = (2 : Int32) then x2 else x3)))
theorem own_in4 {i : Int32} (h : ¬ i < 0 ∧ i < (4 : Int32)) : i = (0 : Int32) ∨ i = (1 : Int32) ∨ i = (2 : Int32) ∨ i = (3 : Int32) := by
  have q0 : (0 : Int32).toInt = 0 := by decide
  have q1 : (1 : Int32).toInt = 1 := by decide
  have q2 : (2 : Int32).toInt = 2 := by decide
  have q3 : (3 : Int32).toInt = 3 := by decide
  have q4 : (4 : Int32).toInt = 4 := by decide
  rw [own_xlt, own_xlt, q0, q4] at h
  simp only [own_xeq, q0, q1, q2, q3]
  omega
theorem own_get4 {x0 : Int64} {x1 : Int64} {x2 : Int64} {x3 : Int64} {i : Int32} (h : ¬ i < 0 ∧ i < (4 : Int32)) : ([(.long x0), (.long x1), (.long x2), (.long x3)] : List Value).getD i.toNatClampNeg (.long 0) = .long (own_at4 x0 x1 x2 x3 i) := by
  rcases own_in4 h with rfl | rfl | rfl | rfl <;> rfl
def own_at8 (x0 : Int64) (x1 : Int64) (x2 : Int64) (x3 : Int64) (x4 : Int64) (x5 : Int64) (x6 : Int64) (x7 : Int64) (i : Int32) : Int64 := (if i = (0 : Int32) then x0 else (if i = (1 : Int32) then x1 else (if i = (2 : Int32) then x2 else (if i = (3 : Int32) then x3 else (if i = (4 : Int32) then x4 else (if i = (5 : Int32) then x5 else (if i = (6 : Int32) then x6 else x7)))))))
theorem own_in8 {i : Int32} (h : ¬ i < 0 ∧ i < (8 : Int32)) : i = (0 : Int32) ∨ i = (1 : Int32) ∨ i = (2 : Int32) ∨ i = (3 : Int32) ∨ i = (4 : Int32) ∨ i = (5 : Int32) ∨ i = (6 : Int32) ∨ i = (7 : Int32) := by
  have q0 : (0 : Int32).toInt = 0 := by decide
  have q1 : (1 : Int32).toInt = 1 := by decide
  have q2 : (2 : Int32).toInt = 2 := by decide
  have q3 : (3 : Int32).toInt = 3 := by decide
  have q4 : (4 : Int32).toInt = 4 := by decide
  have q5 : (5 : Int32).toInt = 5 := by decide
  have q6 : (6 : Int32).toInt = 6 := by decide
  have q7 : (7 : Int32).toInt = 7 := by decide
  have q8 : (8 : Int32).toInt = 8 := by decide
  rw [own_xlt, own_xlt, q0, q8] at h
  simp only [own_xeq, q0, q1, q2, q3, q4, q5, q6, q7]
  omega
theorem own_get8 {x0 : Int64} {x1 : Int64} {x2 : Int64} {x3 : Int64} {x4 : Int64} {x5 : Int64} {x6 : Int64} {x7 : Int64} {i : Int32} (h : ¬ i < 0 ∧ i < (8 : Int32)) : ([(.long x0), (.long x1), (.long x2), (.long x3), (.long x4), (.long x5), (.long x6), (.long x7)] : List Value).getD i.toNatClampNeg (.long 0) = .long (own_at8 x0 x1 x2 x3 x4 x5 x6 x7 i) := by
  rcases own_in8 h with rfl | rfl | rfl | rfl | rfl | rfl | rfl | rfl <;> rfl
theorem own_wS {Z : State} {a0 : Array Value} (hw : ∀ d ∈ tables_1, d.before a0 Z = true) : ∀ a ∈ Bundle.stringAtoms, a.before a0 Z = true := by
  intro a ha
  simp only [Bundle.stringAtoms, List.mem_cons, List.not_mem_nil, or_false] at ha
  rcases ha with rfl | rfl | rfl | rfl | rfl | rfl | rfl
  all_goals first | exact hw _ (List.mem_of_getElem? (i := 30) rfl) | exact hw _ (List.mem_of_getElem? (i := 31) rfl) | exact hw _ (List.mem_of_getElem? (i := 32) rfl) | exact hw _ (List.mem_of_getElem? (i := 33) rfl) | exact hw _ (List.mem_of_getElem? (i := 34) rfl) | exact hw _ (List.mem_of_getElem? (i := 35) rfl) | exact hw _ (List.mem_of_getElem? (i := 36) rfl)
theorem ww17 {Z : State} {a0 : Array Value} (hw : ∀ d ∈ tables_1, d.before a0 Z = true) : Jvm.Cond.before (Jvm.Cond.laysStatic cn_2 "SLIDING" cn_4) a0 Z = true := hw _ (List.mem_of_getElem? (i := 17) rfl)
theorem ww16 {Z : State} {a0 : Array Value} (hw : ∀ d ∈ tables_1, d.before a0 Z = true) : Jvm.Cond.before (Jvm.Cond.initialized cn_2) a0 Z = true := hw _ (List.mem_of_getElem? (i := 16) rfl)
theorem ww42 {Z : State} {a0 : Array Value} (hw : ∀ d ∈ tables_1, d.before a0 Z = true) : Jvm.Cond.before (Jvm.Cond.laysStatic cn_2 "CALENDAR" cn_4) a0 Z = true := hw _ (List.mem_of_getElem? (i := 42) rfl)
theorem ww77 {Z : State} {a0 : Array Value} (hw : ∀ d ∈ tables_1, d.before a0 Z = true) : Jvm.Cond.before (Jvm.Cond.laysStatic cn_10 "$SwitchMap$com$example$tempogate$tempogate$rules$Window$Type" "[I") a0 Z = true := hw _ (List.mem_of_getElem? (i := 77) rfl)
theorem ww76 {Z : State} {a0 : Array Value} (hw : ∀ d ∈ tables_1, d.before a0 Z = true) : Jvm.Cond.before (Jvm.Cond.initialized cn_10) a0 Z = true := hw _ (List.mem_of_getElem? (i := 76) rfl)
theorem d0_0 : decode jdk_30_method_1_code 0 = .ok (.aload_n 0, 1) := by decide +kernel
theorem d0_1 : decode jdk_30_method_1_code 1 = .ok (.invokespecial 1, 3) := by decide +kernel
theorem ww26 {Z : State} {a0 : Array Value} (hw : ∀ d ∈ tables_1, d.before a0 Z = true) : Jvm.Cond.before (Jvm.Cond.methodLink cn_13 (1 : Nat) ({ cls := cn_14, name := "<init>", desc := "()V" } : Jvm.MethodName)) a0 Z = true := hw _ (List.mem_of_getElem? (i := 26) rfl)
theorem ww27 {Z : State} {a0 : Array Value} (hw : ∀ d ∈ tables_1, d.before a0 Z = true) : Jvm.Cond.before (Jvm.Cond.instanceMethod ({ cls := cn_14, name := "<init>", desc := "()V" } : Jvm.MethodName)) a0 Z = true := hw _ (List.mem_of_getElem? (i := 27) rfl)
theorem ww28 {Z : State} {a0 : Array Value} (hw : ∀ d ∈ tables_1, d.before a0 Z = true) : Jvm.Cond.before (Jvm.Cond.code ({ cls := cn_14, name := "<init>", desc := "()V" } : Jvm.MethodName) object_method_1_code (1 : Nat) (Option.none : Option Jvm.ClassFile.FieldType)) a0 Z = true := hw _ (List.mem_of_getElem? (i := 28) rfl)
theorem d0_4 : decode jdk_30_method_1_code 4 = .ok (.return_, 1) := by decide +kernel
abbrev rr_rec : Room := { frames := 1, cells := 0, slots := 0, locals := 12 }
abbrev y_0 : MethodName := ⟨cn_13, "<init>", "()V"⟩
theorem pn_0 : plainName cn_13 = true := by first | (simp [plainName, overriddenIn]; done) | decide +kernel
theorem ef_rec (m : MethodId) (o0 : Addr) : entryFrame m #[(.ref o0)] 1 = mkF m 0 #[.val (.ref o0)] [] := by first | (simp [entryFrame, mkF, argsToLocals, Value.category]; done) | rfl
def Q_rec (Z : State) (w_0 : Addr) (w_1 : Addr) (w_2 : Addr) (o0 : Addr) (h0 : Heap) (n0 : Nat) (v : Option Value) (h : Heap) (L : List Loc) : Prop := v = none ∧ Fr n0 L ∧ h = h0
set_option maxRecDepth 65536 in
set_option maxHeartbeats 40000000 in
theorem rm_rec (l : Launch) (Z : State) (a0 : Array Value) (hw : ∀ d ∈ tables_1, d.before a0 Z = true) (ws : List Jvm.Cond) (w_0 : Addr) (w_1 : Addr) (w_2 : Addr) (o0 : Addr) (h0 : Heap) (n0 : Nat) (Z0 : n0 ≤ h0.size) (ST : own_St Z w_0 w_1 w_2) (O0 : Old Z n0 h0) :
    MetFree l y_0 (head1 (Jvm.Cond.code y_0 jdk_30_method_1_code 1 none :: ws) rr_rec) (fun a U => a = #[(.ref o0)] ∧ Z.Warmed39 U.vm ∧ U.heap = h0) (fun _ _ _ _ _ => True) (fun _ U o U' => ∃ v L, o = .returned v ∧ Q_rec Z w_0 w_1 w_2 o0 h0 n0 v U'.heap L ∧ FrameEnd U o U' L rr_rec.cells rr_rec.slots) := by
  refine MetFree.of_bodySF (plainFor_of_name pn_0) hisR ?_
  intro p e s m args below meth c s₁ Bd hml0 hP hK
  obtain ⟨rfl, hZ, hh⟩ := hP
  have hx := Bd.exec
  have hby := Bd.bytes
  have hml : c.maxLocals = 1 := hml0
  have hown : s.vm.findClass cn_13 = some m.cls := findClass_of_methodNamed Bd.named
  have hnm := (name_of_methodNamed Bd.named Bd.method).1
  have X0 : Stand p l e rr_rec s m #[(.ref o0)] below meth c s₁ [] 0 0 := Stand.of_body Bd
  have e0 : s₁.heap = h0 := by rw [← hh, Bd.state]; rfl
  have N0 := Fr.nil n0
  obtain ⟨G, step, ret, fin⟩ := own_open (p := p) (l := l) (e := e) (R := rr_rec) (s := s) (m := m) (args := #[(.ref o0)]) (below := below) (meth := meth) (c := c) (rr_rec.cells) (rr_rec.slots) (Q_rec Z w_0 w_1 w_2 o0 h0 n0) Bd.notSynchronized
  refine fin (g := entryFrame m #[(.ref o0)] 1) ?_
  rw [ef_rec m o0]
  show G s₁ (mkF m 0 #[.val (.ref o0)] [])
  refine step (fun t k => XS.aloadN X0.here hx rfl (hb hby d0_0) rfl rfl k) ?_
  show G s₁ (mkF m 1 #[.val (.ref o0)] [(.ref o0)])
  obtain ⟨T1, X1, e1, st1⟩ := initO X0 hx hZ hown (ww26 hw) (ww27 hw) (ww28 hw) e0 (g := (mkF m 1 #[.val (.ref o0)] [(.ref o0)])) rfl (by rw [hml]; rfl) rfl (hb hby d0_1) (by decide) (W := 0) (by show 2 * 0 + _ ≤ _; exact Nat.le_of_eq rfl) (by decide)
  refine step st1 ?_
  show G T1 (mkF m 4 #[.val (.ref o0)] [])
  exact ret (v := none) X1 (fun _ => rfl) (fun fs hr => X1.returnOut hx Bd.returns (hb hby d0_4) hr) e1 ⟨rfl, N0, rfl⟩ (by decide) (by decide)
theorem d1_0 : decode jdk_31_method_11_code 0 = .ok (.aload_n 0, 1) := by decide +kernel
theorem d1_1 : decode jdk_31_method_11_code 1 = .ok (.ifnonnull 12, 3) := by decide +kernel
theorem d1_13 : decode jdk_31_method_11_code 13 = .ok (.aload_n 0, 1) := by decide +kernel
theorem d1_14 : decode jdk_31_method_11_code 14 = .ok (.areturn, 1) := by decide +kernel
abbrev rr_req : Room := { frames := 0, cells := 0, slots := 0, locals := 0 }
abbrev y_1 : MethodName := ⟨cn_15, "requireNonNull", cn_8⟩
theorem pn_1 : plainName cn_15 = true := by first | (simp [plainName, overriddenIn]; done) | decide +kernel
theorem ef_req (m : MethodId) (o0 : Addr) (o1 : Addr) : entryFrame m #[(.ref o0), (.ref o1)] 2 = mkF m 0 #[.val (.ref o0), .val (.ref o1)] [] := by first | (simp [entryFrame, mkF, argsToLocals, Value.category]; done) | rfl
def f_req (w_0 : Addr) (w_1 : Addr) (w_2 : Addr) (o0 : Addr) (o1 : Addr) : Addr := o0
def Q_req (Z : State) (w_0 : Addr) (w_1 : Addr) (w_2 : Addr) (o0 : Addr) (o1 : Addr) (h0 : Heap) (n0 : Nat) (v : Option Value) (h : Heap) (L : List Loc) : Prop := v = some (.ref (f_req w_0 w_1 w_2 o0 o1)) ∧ Fr n0 L ∧ h = h0
set_option maxRecDepth 65536 in
set_option maxHeartbeats 40000000 in
theorem rm_req (l : Launch) (Z : State) (a0 : Array Value) (hw : ∀ d ∈ tables_1, d.before a0 Z = true) (ws : List Jvm.Cond) (w_0 : Addr) (w_1 : Addr) (w_2 : Addr) (o0 : Addr) (o1 : Addr) (h0 : Heap) (n0 : Nat) (Z0 : n0 ≤ h0.size) (ST : own_St Z w_0 w_1 w_2) (O0 : Old Z n0 h0) :
    MetFree l y_1 (head1 (Jvm.Cond.code y_1 jdk_31_method_11_code 2 (some (.object cn_14)) :: ws) rr_req) (fun a U => a = #[(.ref o0), (.ref o1)] ∧ Z.Warmed39 U.vm ∧ U.heap = h0) (fun _ _ _ _ _ => True) (fun _ U o U' => ∃ v L, o = .returned v ∧ Q_req Z w_0 w_1 w_2 o0 o1 h0 n0 v U'.heap L ∧ FrameEnd U o U' L rr_req.cells rr_req.slots) := by
  refine MetFree.of_bodySF (plainFor_of_name pn_1) hisR ?_
  intro p e s m args below meth c s₁ Bd hml0 hP hK
  obtain ⟨rfl, hZ, hh⟩ := hP
  have hx := Bd.exec
  have hby := Bd.bytes
  have hml : c.maxLocals = 2 := hml0
  have hown : s.vm.findClass cn_15 = some m.cls := findClass_of_methodNamed Bd.named
  have hnm := (name_of_methodNamed Bd.named Bd.method).1
  have X0 : Stand p l e rr_req s m #[(.ref o0), (.ref o1)] below meth c s₁ [] 0 0 := Stand.of_body Bd
  have e0 : s₁.heap = h0 := by rw [← hh, Bd.state]; rfl
  have N0 := Fr.nil n0
  obtain ⟨G, step, ret, fin⟩ := own_open (p := p) (l := l) (e := e) (R := rr_req) (s := s) (m := m) (args := #[(.ref o0), (.ref o1)]) (below := below) (meth := meth) (c := c) (rr_req.cells) (rr_req.slots) (Q_req Z w_0 w_1 w_2 o0 o1 h0 n0) Bd.notSynchronized
  refine fin (g := entryFrame m #[(.ref o0), (.ref o1)] 2) ?_
  rw [ef_req m o0 o1]
  show G s₁ (mkF m 0 #[.val (.ref o0), .val (.ref o1)] [])
  refine step (fun t k => XS.aloadN X0.here hx rfl (hb hby d1_0) rfl rfl k) ?_
  show G s₁ (mkF m 1 #[.val (.ref o0), .val (.ref o1)] [(.ref o0)])
  refine step (fun t k => XS.ifnonnullYes X0.here hx rfl (pc0 := 1) (pc' := 13) rfl (hb hby d1_1) rfl (by decide) (by decide) k) ?_
  show G s₁ (mkF m 13 #[.val (.ref o0), .val (.ref o1)] [])
  refine step (fun t k => XS.aloadN X0.here hx rfl (hb hby d1_13) rfl rfl k) ?_
  show G s₁ (mkF m 14 #[.val (.ref o0), .val (.ref o1)] [(.ref o0)])
  exact ret (v := some (.ref o0)) X0 (fun h => by rw [Bd.returns] at h; cases h) (fun fs hr => retA X0 hx Bd.returns rfl rfl (hb hby d1_14) hr) e0 ⟨rfl, N0, rfl⟩ (by decide) (by decide)
theorem d2_0 : decode prog_21_method_1_code 0 = .ok (.aload_n 0, 1) := by decide +kernel
theorem d2_1 : decode prog_21_method_1_code 1 = .ok (.invokespecial 1, 3) := by decide +kernel
theorem ww21 {Z : State} {a0 : Array Value} (hw : ∀ d ∈ tables_1, d.before a0 Z = true) : Jvm.Cond.before (Jvm.Cond.methodLink cn_1 (1 : Nat) ({ cls := cn_13, name := "<init>", desc := "()V" } : Jvm.MethodName)) a0 Z = true := hw _ (List.mem_of_getElem? (i := 21) rfl)
theorem ww25 {Z : State} {a0 : Array Value} (hw : ∀ d ∈ tables_1, d.before a0 Z = true) : Jvm.Cond.before (Jvm.Cond.code ({ cls := cn_13, name := "<init>", desc := "()V" } : Jvm.MethodName) jdk_30_method_1_code (1 : Nat) (Option.none : Option Jvm.ClassFile.FieldType)) a0 Z = true := hw _ (List.mem_of_getElem? (i := 25) rfl)
theorem ww24 {Z : State} {a0 : Array Value} (hw : ∀ d ∈ tables_1, d.before a0 Z = true) : Jvm.Cond.before (Jvm.Cond.initialized cn_13) a0 Z = true := hw _ (List.mem_of_getElem? (i := 24) rfl)
theorem pd_0 : parseMethodDescriptor "()V" = some ⟨[], none⟩ := by decide +kernel
theorem ww22 {Z : State} {a0 : Array Value} (hw : ∀ d ∈ tables_1, d.before a0 Z = true) : Jvm.Cond.before (Jvm.Cond.instanceMethod ({ cls := cn_13, name := "<init>", desc := "()V" } : Jvm.MethodName)) a0 Z = true := hw _ (List.mem_of_getElem? (i := 22) rfl)
theorem d2_4 : decode prog_21_method_1_code 4 = .ok (.aload_n 1, 1) := by decide +kernel
theorem d2_5 : decode prog_21_method_1_code 5 = .ok (.ldc 7, 2) := by decide +kernel
theorem ww29 {Z : State} {a0 : Array Value} (hw : ∀ d ∈ tables_1, d.before a0 Z = true) : Jvm.Cond.before (Jvm.Cond.stringLink cn_1 (7 : Nat) "type") a0 Z = true := hw _ (List.mem_of_getElem? (i := 29) rfl)
theorem d2_7 : decode prog_21_method_1_code 7 = .ok (.invokestatic 9, 3) := by decide +kernel
theorem ww37 {Z : State} {a0 : Array Value} (hw : ∀ d ∈ tables_1, d.before a0 Z = true) : Jvm.Cond.before (Jvm.Cond.methodLink cn_1 (9 : Nat) ({ cls := cn_15, name := "requireNonNull", desc := cn_8 } : Jvm.MethodName)) a0 Z = true := hw _ (List.mem_of_getElem? (i := 37) rfl)
theorem ww40 {Z : State} {a0 : Array Value} (hw : ∀ d ∈ tables_1, d.before a0 Z = true) : Jvm.Cond.before (Jvm.Cond.code ({ cls := cn_15, name := "requireNonNull", desc := cn_8 } : Jvm.MethodName) jdk_31_method_11_code (2 : Nat) (Option.some (Jvm.ClassFile.FieldType.object cn_14))) a0 Z = true := hw _ (List.mem_of_getElem? (i := 40) rfl)
theorem ww39 {Z : State} {a0 : Array Value} (hw : ∀ d ∈ tables_1, d.before a0 Z = true) : Jvm.Cond.before (Jvm.Cond.initialized cn_15) a0 Z = true := hw _ (List.mem_of_getElem? (i := 39) rfl)
theorem pd_1 : parseMethodDescriptor cn_8 = some ⟨[(.object cn_14), (.object "java/lang/String")], some (.object cn_14)⟩ := by decide +kernel
theorem ww38 {Z : State} {a0 : Array Value} (hw : ∀ d ∈ tables_1, d.before a0 Z = true) : Jvm.Cond.before (Jvm.Cond.static ({ cls := cn_15, name := "requireNonNull", desc := cn_8 } : Jvm.MethodName)) a0 Z = true := hw _ (List.mem_of_getElem? (i := 38) rfl)
theorem d2_10 : decode prog_21_method_1_code 10 = .ok (.pop, 1) := by decide +kernel
theorem d2_11 : decode prog_21_method_1_code 11 = .ok (.lload_n 2, 1) := by decide +kernel
theorem d2_12 : decode prog_21_method_1_code 12 = .ok (.lconst 0, 1) := by decide +kernel
theorem d2_13 : decode prog_21_method_1_code 13 = .ok (.lcmp, 1) := by decide +kernel
theorem d2_14 : decode prog_21_method_1_code 14 = .ok (.ifCond .gt 17, 3) := by decide +kernel
theorem d2_31 : decode prog_21_method_1_code 31 = .ok (.aload_n 1, 1) := by decide +kernel
theorem d2_32 : decode prog_21_method_1_code 32 = .ok (.getstatic 24, 3) := by decide +kernel
theorem ww41 {Z : State} {a0 : Array Value} (hw : ∀ d ∈ tables_1, d.before a0 Z = true) : Jvm.Cond.before (Jvm.Cond.fieldLink cn_1 (24 : Nat) cn_2 "CALENDAR" cn_4) a0 Z = true := hw _ (List.mem_of_getElem? (i := 41) rfl)
theorem d2_35 : decode prog_21_method_1_code 35 = .ok (.if_acmp .ne 27, 3) := by decide +kernel
theorem d2_62 : decode prog_21_method_1_code 62 = .ok (.aload_n 1, 1) := by decide +kernel
theorem d2_63 : decode prog_21_method_1_code 63 = .ok (.getstatic 24, 3) := by decide +kernel
theorem d2_66 : decode prog_21_method_1_code 66 = .ok (.if_acmp .eq 27, 3) := by decide +kernel
theorem d2_69 : decode prog_21_method_1_code 69 = .ok (.lload 4, 2) := by decide +kernel
theorem d2_71 : decode prog_21_method_1_code 71 = .ok (.lconst 0, 1) := by decide +kernel
theorem d2_72 : decode prog_21_method_1_code 72 = .ok (.lcmp, 1) := by decide +kernel
theorem d2_73 : decode prog_21_method_1_code 73 = .ok (.ifCond .eq 20, 3) := by decide +kernel
theorem d2_93 : decode prog_21_method_1_code 93 = .ok (.aload_n 0, 1) := by decide +kernel
theorem d2_94 : decode prog_21_method_1_code 94 = .ok (.aload_n 1, 1) := by decide +kernel
theorem d2_95 : decode prog_21_method_1_code 95 = .ok (.putfield 42, 3) := by decide +kernel
theorem ww43 {Z : State} {a0 : Array Value} (hw : ∀ d ∈ tables_1, d.before a0 Z = true) : Jvm.Cond.before (Jvm.Cond.fieldLink cn_1 (42 : Nat) cn_1 "type" cn_4) a0 Z = true := hw _ (List.mem_of_getElem? (i := 43) rfl)
theorem ww44 {Z : State} {a0 : Array Value} (hw : ∀ d ∈ tables_1, d.before a0 Z = true) : Jvm.Cond.before (Jvm.Cond.laysFinal cn_1 cn_1 "type" cn_4) a0 Z = true := hw _ (List.mem_of_getElem? (i := 44) rfl)
theorem ww14 {Z : State} {a0 : Array Value} (hw : ∀ d ∈ tables_1, d.before a0 Z = true) : Jvm.Cond.before (Jvm.Cond.instantiable cn_1 (3 : Nat)) a0 Z = true := hw _ (List.mem_of_getElem? (i := 14) rfl)
theorem d2_98 : decode prog_21_method_1_code 98 = .ok (.aload_n 0, 1) := by decide +kernel
theorem d2_99 : decode prog_21_method_1_code 99 = .ok (.lload_n 2, 1) := by decide +kernel
theorem d2_100 : decode prog_21_method_1_code 100 = .ok (.putfield 44, 3) := by decide +kernel
theorem ww45 {Z : State} {a0 : Array Value} (hw : ∀ d ∈ tables_1, d.before a0 Z = true) : Jvm.Cond.before (Jvm.Cond.fieldLink cn_1 (44 : Nat) cn_1 "millis" "J") a0 Z = true := hw _ (List.mem_of_getElem? (i := 45) rfl)
theorem ww46 {Z : State} {a0 : Array Value} (hw : ∀ d ∈ tables_1, d.before a0 Z = true) : Jvm.Cond.before (Jvm.Cond.laysFinal cn_1 cn_1 "millis" "J") a0 Z = true := hw _ (List.mem_of_getElem? (i := 46) rfl)
theorem d2_103 : decode prog_21_method_1_code 103 = .ok (.aload_n 0, 1) := by decide +kernel
theorem d2_104 : decode prog_21_method_1_code 104 = .ok (.lload 4, 2) := by decide +kernel
theorem d2_106 : decode prog_21_method_1_code 106 = .ok (.putfield 48, 3) := by decide +kernel
theorem ww47 {Z : State} {a0 : Array Value} (hw : ∀ d ∈ tables_1, d.before a0 Z = true) : Jvm.Cond.before (Jvm.Cond.fieldLink cn_1 (48 : Nat) cn_1 "offsetMillis" "J") a0 Z = true := hw _ (List.mem_of_getElem? (i := 47) rfl)
theorem ww48 {Z : State} {a0 : Array Value} (hw : ∀ d ∈ tables_1, d.before a0 Z = true) : Jvm.Cond.before (Jvm.Cond.laysFinal cn_1 cn_1 "offsetMillis" "J") a0 Z = true := hw _ (List.mem_of_getElem? (i := 48) rfl)
theorem d2_109 : decode prog_21_method_1_code 109 = .ok (.return_, 1) := by decide +kernel
abbrev rr_wi : Room := { frames := 2, cells := 2, slots := 20, locals := 24 }
abbrev y_2 : MethodName := ⟨cn_1, "<init>", cn_9⟩
theorem pn_2 : plainName cn_1 = true := by first | (simp [plainName, overriddenIn]; done) | decide +kernel
theorem ef_wi (m : MethodId) (o0 : Addr) (w_0 : Addr) (q2 : Int64) : entryFrame m #[(.ref o0), (.ref w_0), (.long q2), (.long 0)] 6 = mkF m 0 #[.val (.ref o0), .val (.ref w_0), .val (.long q2), .second, .val (.long 0), .second] [] := by first | (simp [entryFrame, mkF, argsToLocals, Value.category]; done) | rfl
def Q_wi (Z : State) (w_0 : Addr) (w_1 : Addr) (w_2 : Addr) (o0 : Addr) (q2 : Int64) (h0 : Heap) (n0 : Nat) (v : Option Value) (h : Heap) (L : List Loc) : Prop := v = none ∧ Fr n0 L ∧ Keep h0 h [o0] ∧ Exa Z h o0 cn_1 ∧ Fld Z h o0 cn_1 "type" cn_4 (.ref w_0) ∧ Fld Z h o0 cn_1 "millis" "J" (.long q2)
set_option maxRecDepth 65536 in
set_option maxHeartbeats 40000000 in
theorem rm_wi (l : Launch) (Z : State) (a0 : Array Value) (hw : ∀ d ∈ tables_1, d.before a0 Z = true) (ws : List Jvm.Cond) (w_0 : Addr) (w_1 : Addr) (w_2 : Addr) (o0 : Addr) (q2 : Int64) (h0 : Heap) (n0 : Nat) (Z0 : n0 ≤ h0.size) (ST : own_St Z w_0 w_1 w_2) (O0 : Old Z n0 h0) (Ex : Exa Z h0 o0 cn_1) (geo : n0 ≤ o0) (Ft : Fld Z h0 o0 cn_1 "type" cn_4 .null) (Fm : Fld Z h0 o0 cn_1 "millis" "J" (.long 0)) (Fo : Fld Z h0 o0 cn_1 "offsetMillis" "J" (.long 0)) (hpos : (0 : Int64) < q2) :
    MetFree l y_2 (head1 (Jvm.Cond.code y_2 prog_21_method_1_code 6 none :: ws) rr_wi) (fun a U => a = #[(.ref o0), (.ref w_0), (.long q2), (.long 0)] ∧ Z.Warmed39 U.vm ∧ U.heap = h0) (fun _ _ _ _ _ => True) (fun _ U o U' => ∃ v L, o = .returned v ∧ Q_wi Z w_0 w_1 w_2 o0 q2 h0 n0 v U'.heap L ∧ ReturnedEndW U o U' L rr_wi.cells rr_wi.slots) := by
  refine MetFree.of_bodySF (plainFor_of_name pn_2) hisR ?_
  intro p e s m args below meth c s₁ Bd hml0 hP hK
  obtain ⟨rfl, hZ, hh⟩ := hP
  have hx := Bd.exec
  have hby := Bd.bytes
  have hml : c.maxLocals = 6 := hml0
  have hown : s.vm.findClass cn_1 = some m.cls := findClass_of_methodNamed Bd.named
  have hnm := (name_of_methodNamed Bd.named Bd.method).1
  have X0 : Stand p l e rr_wi (s.setVm s.vm) m #[(.ref o0), (.ref w_0), (.long q2), (.long 0)] below meth c s₁ [] 0 0 := Stand.of_body Bd
  have e0 : s₁.heap = h0 := by rw [← hh, Bd.state]; rfl
  have N0 := Fr.nil n0
  replace hZ : Z.Warmed39 (s.setVm s.vm).vm := hZ
  replace hown : (s.setVm s.vm).vm.findClass cn_1 = some m.cls := hown
  have hS : s.Since s.vm h0.size := (State.WarmedH.refl s).since _
  have hk0 : h0.size ≤ h0.size := Nat.le_refl _
  have K0 : Keep h0 h0 [o0] := Keep.refl _ _
  obtain ⟨G, step, ret, fin⟩ := own_openW (p := p) (l := l) (e := e) (R := rr_wi) (s := s) (m := m) (args := #[(.ref o0), (.ref w_0), (.long q2), (.long 0)]) (below := below) (meth := meth) (c := c) (rr_wi.cells) (rr_wi.slots) (Q_wi Z w_0 w_1 w_2 o0 q2 h0 n0) Bd.notSynchronized
  refine fin (g := entryFrame m #[(.ref o0), (.ref w_0), (.long q2), (.long 0)] 6) ?_
  rw [ef_wi m o0 w_0 q2]
  show G s₁ (mkF m 0 #[.val (.ref o0), .val (.ref w_0), .val (.long q2), .second, .val (.long 0), .second] [])
  refine step (fun t k => XS.aloadN X0.here hx rfl (hb hby d2_0) rfl rfl k) ?_
  show G s₁ (mkF m 1 #[.val (.ref o0), .val (.ref w_0), .val (.long q2), .second, .val (.long 0), .second] [(.ref o0)])
  have hK1 := (backOf (R := rr_wi) (p := p) (e := e) (below := below) (args := #[(.ref o0), (.ref w_0), (.long q2), (.long 0)]) (len := 3) (W := 0) (rm_rec l Z a0 hw [] w_0 w_1 w_2 o0 h0 n0 (own_old_le O0) ST O0) hZ (ww25 hw) (ww24 hw) (by decide) (by decide))
  obtain ⟨_, _, ⟨T1, L1, k1, n1⟩, -, X1, ⟨Lc1, hQ1, l1, y1, z1⟩, st1⟩ := X0.specialBack hx (y := y_0) rfl hown (mvT hZ (ww21 hw)) (mvT hZ (ww22 hw)) (mvT hZ (ww25 hw)) (by decide) hK1 (g := (mkF m 1 #[.val (.ref o0), .val (.ref w_0), .val (.long q2), .second, .val (.long 0), .second] [(.ref o0)])) rfl (by rw [hml]; rfl) (Steps.refl _) (a := o0) (argsL := []) (rest := []) (lenOf pd_0 rfl) rfl (by show 2 * 0 + _ ≤ _; exact Nat.le_of_eq rfl) (hb hby d2_1) (fun _ _ => ⟨rfl, e0, (by decide : 0 + 0 ≤ _), (by decide : 0 + 0 ≤ _)⟩)
  dsimp only [Pt.U, Pt.locs, Pt.cells, Pt.slots] at X1 l1 y1 z1 st1 hQ1
  subst l1 y1 z1
  obtain ⟨rfl, N1q, e1⟩ := hQ1
  have N1 := Fr.app N0 N1q
  obtain ⟨lc1, X1, N1⟩ := own_gen X1 N1
  refine step (fun t k => st1.trans k) ?_
  show G T1 (mkF m 4 #[.val (.ref o0), .val (.ref w_0), .val (.long q2), .second, .val (.long 0), .second] [])
  refine step (fun t k => XS.aloadN X1.here hx rfl (hb hby d2_4) rfl rfl k) ?_
  show G T1 (mkF m 5 #[.val (.ref o0), .val (.ref w_0), .val (.long q2), .second, .val (.long 0), .second] [(.ref w_0)])
  obtain ⟨b2, T2, h2, k2, X2, e2, E2, hS, hk2, hZ, hown, st2⟩ := ldcS (s := s) X1 hx hZ hown (ww29 hw) (own_wS hw) e1 hS hk0 (g := (mkF m 5 #[.val (.ref o0), .val (.ref w_0), .val (.long q2), .second, .val (.long 0), .second] [(.ref w_0)])) rfl (hb hby d2_5) (n := 16) (by decide +kernel) (by decide) (by decide) (by decide)
  have O2 := O0.ext E2
  have K2 : Keep h0 h2 [o0] := K0.ext E2
  refine step st2 ?_
  show G T2 (mkF m 7 #[.val (.ref o0), .val (.ref w_0), .val (.long q2), .second, .val (.long 0), .second] [(.ref b2), (.ref w_0)])
  have hK3 := (backOf (R := rr_wi) (p := p) (e := e) (below := below) (args := #[(.ref o0), (.ref w_0), (.long q2), (.long 0)]) (len := 3) (W := 0) (rm_req l Z a0 hw [] w_0 w_1 w_2 w_0 b2 h2 n0 (own_old_le O2) ST O2) hZ (ww40 hw) (ww39 hw) (by decide) (by decide))
  obtain ⟨_, _, ⟨T3, L3, k3, n3⟩, -, X3, ⟨Lc3, hQ3, l3, y3, z3⟩, st3⟩ := Jvm.LawKit.callS X2 hx (y := y_1) hown (mvT hZ (ww37 hw)) (mvT hZ (ww38 hw)) (mvT hZ (ww39 hw)) (mvT hZ (ww40 hw)) (by decide) hK3 (g := (mkF m 7 #[.val (.ref o0), .val (.ref w_0), .val (.long q2), .second, .val (.long 0), .second] [(.ref b2), (.ref w_0)])) rfl (by rw [hml]; rfl) (argsL := [(.ref w_0), (.ref b2)]) (rest := []) (lenOf pd_1 rfl) rfl (by show 2 * 0 + _ ≤ _; exact Nat.le_of_eq rfl) (hb hby d2_7) (fun _ _ => ⟨rfl, e2, (by decide : 2 + 0 ≤ _), (by decide : 20 + 0 ≤ _)⟩)
  dsimp only [Pt.U, Pt.locs, Pt.cells, Pt.slots] at X3 l3 y3 z3 st3 hQ3
  subst l3 y3 z3
  obtain ⟨rfl, N3q, e3⟩ := hQ3
  have N3 := Fr.app N1 N3q
  obtain ⟨lc3, X3, N3⟩ := own_gen X3 N3
  refine step (fun t k => st3 t k) ?_
  show G T3 (mkF m 10 #[.val (.ref o0), .val (.ref w_0), .val (.long q2), .second, .val (.long 0), .second] [(.ref (f_req w_0 w_1 w_2 w_0 b2))])
  have r4 : (f_req w_0 w_1 w_2 w_0 b2) = w_0 := rfl
  rw [r4]
  show G T3 (mkF m 10 #[.val (.ref o0), .val (.ref w_0), .val (.long q2), .second, .val (.long 0), .second] [(.ref w_0)])
  refine step (fun t k => XS.pop X3.here hx rfl (hb hby d2_10) rfl rfl k) ?_
  show G T3 (mkF m 11 #[.val (.ref o0), .val (.ref w_0), .val (.long q2), .second, .val (.long 0), .second] [])
  refine step (fun t k => XS.lloadN X3.here hx rfl (hb hby d2_11) rfl k) ?_
  show G T3 (mkF m 12 #[.val (.ref o0), .val (.ref w_0), .val (.long q2), .second, .val (.long 0), .second] [(.long q2)])
  refine step (fun t k => XS.lconst X3.here hx rfl (hb hby d2_12) k) ?_
  show G T3 (mkF m 13 #[.val (.ref o0), .val (.ref w_0), .val (.long q2), .second, .val (.long 0), .second] [(.long 0), (.long q2)])
  refine step (fun t k => XS.lcmp X3.here hx rfl (hb hby d2_13) rfl k) ?_
  show G T3 (mkF m 14 #[.val (.ref o0), .val (.ref w_0), .val (.long q2), .second, .val (.long 0), .second] [(.int (lcmpW q2 (0 : Int64)))])
  refine step (fun t k => XS.ifYes X3.here hx rfl (pc0 := 14) (pc' := 31) rfl (hb hby d2_14) rfl ((if0 _ _).trans (tlt ((lw_gt _ _).mpr hpos)).2.2.1) (by decide) (by decide) k) ?_
  show G T3 (mkF m 31 #[.val (.ref o0), .val (.ref w_0), .val (.long q2), .second, .val (.long 0), .second] [])
  refine step (fun t k => XS.aloadN X3.here hx rfl (hb hby d2_31) rfl rfl k) ?_
  show G T3 (mkF m 32 #[.val (.ref o0), .val (.ref w_0), .val (.long q2), .second, .val (.long 0), .second] [(.ref w_0)])
  obtain ⟨T5, X5, e5, st5⟩ := getS2 X3 hx hZ hown (host := "") (Or.inl (ww41 hw)) Via.refl e3 (Sta.ext O2.2 ST.k2) (g := (mkF m 32 #[.val (.ref o0), .val (.ref w_0), .val (.long q2), .second, .val (.long 0), .second] [(.ref w_0)])) rfl (hb hby d2_32)
  refine step st5 ?_
  show G T5 (mkF m 35 #[.val (.ref o0), .val (.ref w_0), .val (.long q2), .second, .val (.long 0), .second] [(.ref w_1), (.ref w_0)])
  refine step (fun t k => Jvm.RoadKit.acmp X5 hx rfl rfl rfl (pc0 := 35) (pc' := 62) (same := false) rfl (hb hby d2_35) rfl (decide_eq_false fun q => (Fld.ne ST.k4 ST.k5 (fun q => absurd (Value.int.inj q) (by decide))) (Value.ref.inj q)) (by decide) (by decide) k) ?_
  show G T5 (mkF m 62 #[.val (.ref o0), .val (.ref w_0), .val (.long q2), .second, .val (.long 0), .second] [])
  refine step (fun t k => XS.aloadN X5.here hx rfl (hb hby d2_62) rfl rfl k) ?_
  show G T5 (mkF m 63 #[.val (.ref o0), .val (.ref w_0), .val (.long q2), .second, .val (.long 0), .second] [(.ref w_0)])
  obtain ⟨T6, X6, e6, st6⟩ := getS2 X5 hx hZ hown (host := "") (Or.inl (ww41 hw)) Via.refl e5 (Sta.ext O2.2 ST.k2) (g := (mkF m 63 #[.val (.ref o0), .val (.ref w_0), .val (.long q2), .second, .val (.long 0), .second] [(.ref w_0)])) rfl (hb hby d2_63)
  refine step st6 ?_
  show G T6 (mkF m 66 #[.val (.ref o0), .val (.ref w_0), .val (.long q2), .second, .val (.long 0), .second] [(.ref w_1), (.ref w_0)])
  refine step (fun t k => Jvm.RoadKit.acmp X6 hx rfl rfl rfl (pc0 := 66) (pc' := 69) (same := false) rfl (hb hby d2_66) rfl (decide_eq_false fun q => (Fld.ne ST.k4 ST.k5 (fun q => absurd (Value.int.inj q) (by decide))) (Value.ref.inj q)) (by decide) (by decide) k) ?_
  show G T6 (mkF m 69 #[.val (.ref o0), .val (.ref w_0), .val (.long q2), .second, .val (.long 0), .second] [])
  refine step (fun t k => XS.lload X6.here hx rfl (hb hby d2_69) rfl k) ?_
  show G T6 (mkF m 71 #[.val (.ref o0), .val (.ref w_0), .val (.long q2), .second, .val (.long 0), .second] [(.long 0)])
  refine step (fun t k => XS.lconst X6.here hx rfl (hb hby d2_71) k) ?_
  show G T6 (mkF m 72 #[.val (.ref o0), .val (.ref w_0), .val (.long q2), .second, .val (.long 0), .second] [(.long 0), (.long 0)])
  refine step (fun t k => XS.lcmp X6.here hx rfl (hb hby d2_72) rfl k) ?_
  show G T6 (mkF m 73 #[.val (.ref o0), .val (.ref w_0), .val (.long q2), .second, .val (.long 0), .second] [(.int (lcmpW (0 : Int64) (0 : Int64)))])
  refine step (fun t k => XS.ifYes X6.here hx rfl (pc0 := 73) (pc' := 93) rfl (hb hby d2_73) rfl ((if0 _ _).trans (teq ((lw_eq _ _).mpr (by decide : (0 : Int64) = (0 : Int64)))).1) (by decide) (by decide) k) ?_
  show G T6 (mkF m 93 #[.val (.ref o0), .val (.ref w_0), .val (.long q2), .second, .val (.long 0), .second] [])
  refine step (fun t k => XS.aloadN X6.here hx rfl (hb hby d2_93) rfl rfl k) ?_
  show G T6 (mkF m 94 #[.val (.ref o0), .val (.ref w_0), .val (.long q2), .second, .val (.long 0), .second] [(.ref o0)])
  refine step (fun t k => XS.aloadN X6.here hx rfl (hb hby d2_94) rfl rfl k) ?_
  show G T6 (mkF m 95 #[.val (.ref o0), .val (.ref w_0), .val (.long q2), .second, .val (.long 0), .second] [(.ref w_0), (.ref o0)])
  have f8 := (Fld.ext E2 Ft)
  have f9 := (Exa.ext E2 Ex)
  obtain ⟨T7, h7, X7, e7, W7, st7⟩ := putF X6 hx hZ hown (host := "") (Or.inl (ww43 hw)) Via.refl e6 f8 f9 (Or.inr ⟨(ww44 hw), rfl, hnm⟩) (ww14 hw) (ty := (.object cn_2)) (by decide) rfl rfl (g := (mkF m 95 #[.val (.ref o0), .val (.ref w_0), .val (.long q2), .second, .val (.long 0), .second] [(.ref w_0), (.ref o0)])) rfl rfl (hb hby d2_95)
  have F7 : Fld Z h7 o0 cn_1 "type" cn_4 (.ref w_0) := Fld.same W7 f8
  have N7 := Fr.snoc X7 N3 geo
  obtain ⟨lc7, X7, N7⟩ := own_gen X7 N7
  have O7 := O2.wr W7 geo
  have hk7 := Nat.le_trans hk2 (Nat.le_of_eq W7.size.symm)
  have K7 : Keep h0 h7 [o0] := K2.wr W7 (Or.inl (List.mem_of_getElem? (i := 0) rfl))
  refine step st7 ?_
  show G T7 (mkF m 98 #[.val (.ref o0), .val (.ref w_0), .val (.long q2), .second, .val (.long 0), .second] [])
  refine step (fun t k => XS.aloadN X7.here hx rfl (hb hby d2_98) rfl rfl k) ?_
  show G T7 (mkF m 99 #[.val (.ref o0), .val (.ref w_0), .val (.long q2), .second, .val (.long 0), .second] [(.ref o0)])
  refine step (fun t k => XS.lloadN X7.here hx rfl (hb hby d2_99) rfl k) ?_
  show G T7 (mkF m 100 #[.val (.ref o0), .val (.ref w_0), .val (.long q2), .second, .val (.long 0), .second] [(.long q2), (.ref o0)])
  have f11 := (Fld.other W7 (Fld.ext E2 Fm) (Or.inr (slot_ne (Or.inr (ww46 hw)) (Or.inr (ww44 hw)) (by decide) (t := .long) (t' := (.object cn_2)) (by decide) (by decide))))
  have f12 := (Exa.wr W7 f9)
  obtain ⟨T10, h10, X10, e10, W10, st10⟩ := putF X7 hx hZ hown (host := "") (Or.inl (ww45 hw)) Via.refl e7 f11 f12 (Or.inr ⟨(ww46 hw), rfl, hnm⟩) (ww14 hw) (ty := .long) (by decide) rfl rfl (g := (mkF m 100 #[.val (.ref o0), .val (.ref w_0), .val (.long q2), .second, .val (.long 0), .second] [(.long q2), (.ref o0)])) rfl rfl (hb hby d2_100)
  have F10 : Fld Z h10 o0 cn_1 "millis" "J" (.long q2) := Fld.same W10 f11
  have N10 := Fr.snoc X10 N7 geo
  obtain ⟨lc10, X10, N10⟩ := own_gen X10 N10
  have O10 := O7.wr W10 geo
  have hk10 := Nat.le_trans hk7 (Nat.le_of_eq W10.size.symm)
  have K10 : Keep h0 h10 [o0] := K7.wr W10 (Or.inl (List.mem_of_getElem? (i := 0) rfl))
  refine step st10 ?_
  show G T10 (mkF m 103 #[.val (.ref o0), .val (.ref w_0), .val (.long q2), .second, .val (.long 0), .second] [])
  refine step (fun t k => XS.aloadN X10.here hx rfl (hb hby d2_103) rfl rfl k) ?_
  show G T10 (mkF m 104 #[.val (.ref o0), .val (.ref w_0), .val (.long q2), .second, .val (.long 0), .second] [(.ref o0)])
  refine step (fun t k => XS.lload X10.here hx rfl (hb hby d2_104) rfl k) ?_
  show G T10 (mkF m 106 #[.val (.ref o0), .val (.ref w_0), .val (.long q2), .second, .val (.long 0), .second] [(.long 0), (.ref o0)])
  have f14 := (Fld.other W10 (Fld.other W7 (Fld.ext E2 Fo) (Or.inr (slot_ne (Or.inr (ww48 hw)) (Or.inr (ww44 hw)) (by decide) (t := .long) (t' := (.object cn_2)) (by decide) (by decide)))) (Or.inr (slot_ne (Or.inr (ww48 hw)) (Or.inr (ww46 hw)) (by decide) (t := .long) (t' := .long) (by decide) (by decide))))
  have f15 := (Exa.wr W10 f12)
  obtain ⟨T13, h13, X13, e13, W13, st13⟩ := putF X10 hx hZ hown (host := "") (Or.inl (ww47 hw)) Via.refl e10 f14 f15 (Or.inr ⟨(ww48 hw), rfl, hnm⟩) (ww14 hw) (ty := .long) (by decide) rfl rfl (g := (mkF m 106 #[.val (.ref o0), .val (.ref w_0), .val (.long q2), .second, .val (.long 0), .second] [(.long 0), (.ref o0)])) rfl rfl (hb hby d2_106)
  have F13 : Fld Z h13 o0 cn_1 "offsetMillis" "J" (.long 0) := Fld.same W13 f14
  have N13 := Fr.snoc X13 N10 geo
  obtain ⟨lc13, X13, N13⟩ := own_gen X13 N13
  have O13 := O10.wr W13 geo
  have hk13 := Nat.le_trans hk10 (Nat.le_of_eq W13.size.symm)
  have K13 : Keep h0 h13 [o0] := K10.wr W13 (Or.inl (List.mem_of_getElem? (i := 0) rfl))
  refine step st13 ?_
  show G T13 (mkF m 109 #[.val (.ref o0), .val (.ref w_0), .val (.long q2), .second, .val (.long 0), .second] [])
  have f16 := (Exa.wr W13 f15)
  have f17 := (Fld.other W13 (Fld.other W10 F7 (Or.inr (slot_ne (Or.inr (ww44 hw)) (Or.inr (ww46 hw)) (by decide) (t := (.object cn_2)) (t' := .long) (by decide) (by decide)))) (Or.inr (slot_ne (Or.inr (ww44 hw)) (Or.inr (ww48 hw)) (by decide) (t := (.object cn_2)) (t' := .long) (by decide) (by decide))))
  have f18 := (Fld.other W13 F10 (Or.inr (slot_ne (Or.inr (ww46 hw)) (Or.inr (ww48 hw)) (by decide) (t := .long) (t' := .long) (by decide) (by decide))))
  exact ret (v := none) X13 hS hk13 (fun _ => rfl) (fun fs hr => X13.returnOut hx Bd.returns (hb hby d2_109) hr) e13 ⟨rfl, N13, K13, f16, f17, f18⟩ (by decide) (by decide)
theorem d3_0 : decode prog_21_method_2_code 0 = .ok (.new 30, 3) := by decide +kernel
theorem ww13 {Z : State} {a0 : Array Value} (hw : ∀ d ∈ tables_1, d.before a0 Z = true) : Jvm.Cond.before (Jvm.Cond.classLink cn_1 (30 : Nat) cn_1) a0 Z = true := hw _ (List.mem_of_getElem? (i := 13) rfl)
theorem ww11 {Z : State} {a0 : Array Value} (hw : ∀ d ∈ tables_1, d.before a0 Z = true) : Jvm.Cond.before (Jvm.Cond.initialized cn_1) a0 Z = true := hw _ (List.mem_of_getElem? (i := 11) rfl)
theorem d3_3 : decode prog_21_method_2_code 3 = .ok (.dup, 1) := by decide +kernel
theorem d3_4 : decode prog_21_method_2_code 4 = .ok (.getstatic 51, 3) := by decide +kernel
theorem ww15 {Z : State} {a0 : Array Value} (hw : ∀ d ∈ tables_1, d.before a0 Z = true) : Jvm.Cond.before (Jvm.Cond.fieldLink cn_1 (51 : Nat) cn_2 "SLIDING" cn_4) a0 Z = true := hw _ (List.mem_of_getElem? (i := 15) rfl)
theorem d3_7 : decode prog_21_method_2_code 7 = .ok (.lload_n 0, 1) := by decide +kernel
theorem d3_8 : decode prog_21_method_2_code 8 = .ok (.lconst 0, 1) := by decide +kernel
theorem d3_9 : decode prog_21_method_2_code 9 = .ok (.invokespecial 54, 3) := by decide +kernel
theorem ww18 {Z : State} {a0 : Array Value} (hw : ∀ d ∈ tables_1, d.before a0 Z = true) : Jvm.Cond.before (Jvm.Cond.methodLink cn_1 (54 : Nat) ({ cls := cn_1, name := "<init>", desc := cn_9 } : Jvm.MethodName)) a0 Z = true := hw _ (List.mem_of_getElem? (i := 18) rfl)
theorem ww20 {Z : State} {a0 : Array Value} (hw : ∀ d ∈ tables_1, d.before a0 Z = true) : Jvm.Cond.before (Jvm.Cond.code ({ cls := cn_1, name := "<init>", desc := cn_9 } : Jvm.MethodName) prog_21_method_1_code (6 : Nat) (Option.none : Option Jvm.ClassFile.FieldType)) a0 Z = true := hw _ (List.mem_of_getElem? (i := 20) rfl)
theorem pd_2 : parseMethodDescriptor cn_9 = some ⟨[(.object cn_2), .long, .long], none⟩ := by decide +kernel
theorem ww19 {Z : State} {a0 : Array Value} (hw : ∀ d ∈ tables_1, d.before a0 Z = true) : Jvm.Cond.before (Jvm.Cond.instanceMethod ({ cls := cn_1, name := "<init>", desc := cn_9 } : Jvm.MethodName)) a0 Z = true := hw _ (List.mem_of_getElem? (i := 19) rfl)
theorem d3_12 : decode prog_21_method_2_code 12 = .ok (.areturn, 1) := by decide +kernel
abbrev rr_sl : Room := { frames := 3, cells := 3, slots := 23, locals := 42 }
abbrev y_3 : MethodName := ⟨cn_1, "sliding", cn_11⟩
theorem ef_sl (m : MethodId) (q0 : Int64) : entryFrame m #[(.long q0)] 2 = mkF m 0 #[.val (.long q0), .second] [] := by first | (simp [entryFrame, mkF, argsToLocals, Value.category]; done) | rfl
def Q_sl (Z : State) (w_0 : Addr) (w_1 : Addr) (w_2 : Addr) (q0 : Int64) (h0 : Heap) (n0 : Nat) (v : Option Value) (h : Heap) (L : List Loc) : Prop := ∃ b : Addr, v = some (.ref b) ∧ Fr n0 L ∧ Keep h0 h [] ∧ h0.size ≤ b ∧ Exa Z h b cn_1 ∧ Fld Z h b cn_1 "type" cn_4 (.ref w_0) ∧ Fld Z h b cn_1 "millis" "J" (.long q0)
set_option maxRecDepth 65536 in
set_option maxHeartbeats 40000000 in
theorem rm_sl (l : Launch) (Z : State) (a0 : Array Value) (hw : ∀ d ∈ tables_1, d.before a0 Z = true) (ws : List Jvm.Cond) (w_0 : Addr) (w_1 : Addr) (w_2 : Addr) (q0 : Int64) (h0 : Heap) (n0 : Nat) (Z0 : n0 ≤ h0.size) (ST : own_St Z w_0 w_1 w_2) (O0 : Old Z n0 h0) (hpos : (0 : Int64) < q0) :
    MetFree l y_3 (head1 (Jvm.Cond.code y_3 prog_21_method_2_code 2 (some (.object cn_1)) :: ws) rr_sl) (fun a U => a = #[(.long q0)] ∧ Z.Warmed39 U.vm ∧ U.heap = h0) (fun _ _ _ _ _ => True) (fun _ U o U' => ∃ v L, o = .returned v ∧ Q_sl Z w_0 w_1 w_2 q0 h0 n0 v U'.heap L ∧ ReturnedEndW U o U' L rr_sl.cells rr_sl.slots) := by
  refine MetFree.of_bodySF (plainFor_of_name pn_2) hisR ?_
  intro p e s m args below meth c s₁ Bd hml0 hP hK
  obtain ⟨rfl, hZ, hh⟩ := hP
  have hx := Bd.exec
  have hby := Bd.bytes
  have hml : c.maxLocals = 2 := hml0
  have hown : s.vm.findClass cn_1 = some m.cls := findClass_of_methodNamed Bd.named
  have hnm := (name_of_methodNamed Bd.named Bd.method).1
  have X0 : Stand p l e rr_sl (s.setVm s.vm) m #[(.long q0)] below meth c s₁ [] 0 0 := Stand.of_body Bd
  have e0 : s₁.heap = h0 := by rw [← hh, Bd.state]; rfl
  have N0 := Fr.nil n0
  replace hZ : Z.Warmed39 (s.setVm s.vm).vm := hZ
  replace hown : (s.setVm s.vm).vm.findClass cn_1 = some m.cls := hown
  have hS : s.Since s.vm h0.size := (State.WarmedH.refl s).since _
  have hk0 : h0.size ≤ h0.size := Nat.le_refl _
  have K0 : Keep h0 h0 [] := Keep.refl _ _
  obtain ⟨G, step, ret, fin⟩ := own_openW (p := p) (l := l) (e := e) (R := rr_sl) (s := s) (m := m) (args := #[(.long q0)]) (below := below) (meth := meth) (c := c) (rr_sl.cells) (rr_sl.slots) (Q_sl Z w_0 w_1 w_2 q0 h0 n0) Bd.notSynchronized
  refine fin (g := entryFrame m #[(.long q0)] 2) ?_
  rw [ef_sl m q0]
  show G s₁ (mkF m 0 #[.val (.long q0), .second] [])
  obtain ⟨T1, h1, X1, e1, E1, A1, D1, -, st1⟩ := newO X0 hx hZ hown (ww13 hw) (ww14 hw) (ww11 hw) e0 (g := (mkF m 0 #[.val (.long q0), .second] [])) rfl (hb hby d3_0) (by decide) (by decide)
  obtain ⟨b1, g1⟩ : ∃ z, z = h0.size := ⟨_, rfl⟩
  rw [← g1] at A1 D1 st1
  have ge_b1 : n0 ≤ b1 := Nat.le_trans (own_old_le O0) (Nat.le_of_eq g1.symm)
  have sz_b1 : h0.size ≤ b1 := Nat.le_trans K0.1 (Nat.le_of_eq g1.symm)
  have O1 := O0.ext E1
  have hk1 := Nat.le_trans hk0 E1.1
  have K1 : Keep h0 h1 [] := K0.ext E1
  have F1_type : Fld Z h1 b1 cn_1 "type" cn_4 .null := D1 (Or.inr (ww44 hw)) (ty := (.object cn_2)) (by decide)
  have F1_millis : Fld Z h1 b1 cn_1 "millis" "J" (.long 0) := D1 (Or.inr (ww46 hw)) (ty := .long) (by decide)
  have F1_offsetMillis : Fld Z h1 b1 cn_1 "offsetMillis" "J" (.long 0) := D1 (Or.inr (ww48 hw)) (ty := .long) (by decide)
  refine step st1 ?_
  show G T1 (mkF m 3 #[.val (.long q0), .second] [(.ref b1)])
  refine step (fun t k => XS.dup X1.here hx rfl (hb hby d3_3) rfl rfl k) ?_
  show G T1 (mkF m 4 #[.val (.long q0), .second] [(.ref b1), (.ref b1)])
  obtain ⟨T2, X2, e2, st2⟩ := getS2 X1 hx hZ hown (host := "") (Or.inl (ww15 hw)) Via.refl e1 (Sta.ext O1.2 ST.k0) (g := (mkF m 4 #[.val (.long q0), .second] [(.ref b1), (.ref b1)])) rfl (hb hby d3_4)
  refine step st2 ?_
  show G T2 (mkF m 7 #[.val (.long q0), .second] [(.ref w_0), (.ref b1), (.ref b1)])
  refine step (fun t k => XS.lloadN X2.here hx rfl (hb hby d3_7) rfl k) ?_
  show G T2 (mkF m 8 #[.val (.long q0), .second] [(.long q0), (.ref w_0), (.ref b1), (.ref b1)])
  refine step (fun t k => XS.lconst X2.here hx rfl (hb hby d3_8) k) ?_
  show G T2 (mkF m 9 #[.val (.long q0), .second] [(.long 0), (.long q0), (.ref w_0), (.ref b1), (.ref b1)])
  have hK3 := (backOfS (R := rr_sl) (p := p) (e := e) (below := below) (args := #[(.long q0)]) (len := 3) (W := 1) (rm_wi l Z a0 hw [] w_0 w_1 w_2 b1 q0 h1 n0 (own_old_le O1) ST O1 A1 ge_b1 F1_type F1_millis F1_offsetMillis (hpos : (0 : Int64) < q0)) hZ (ww20 hw) (ww11 hw) (by decide) (by decide))
  obtain ⟨_, _, ⟨T3, L3, k3, n3⟩, -, X3, hS3, hg3, ⟨Lc3, hQ3, l3, y3, z3⟩, st3⟩ := X2.specialBackS hx (y := y_2) rfl hown (mvT hZ (ww18 hw)) (mvT hZ (ww19 hw)) (mvT hZ (ww20 hw)) (by decide) hK3 (g := (mkF m 9 #[.val (.long q0), .second] [(.long 0), (.long q0), (.ref w_0), (.ref b1), (.ref b1)])) rfl (by rw [hml]; rfl) (Steps.refl _) (a := b1) (argsL := [(.ref w_0), (.long q0), (.long 0)]) (rest := [(.ref b1)]) (lenOf pd_2 rfl) rfl (by show 2 * 0 + _ ≤ _; exact Nat.le_of_eq rfl) (hb hby d3_9) (fun _ _ => ⟨rfl, e2, (by decide : 1 + 2 ≤ _), (by decide : 3 + 20 ≤ _)⟩)
  dsimp only [Pt.U, Pt.locs, Pt.cells, Pt.slots] at X3 l3 y3 z3 st3 hQ3 hS3 hg3
  subst l3 y3 z3
  obtain ⟨X3, hS, hZ, hown⟩ := rebS (s := s) hS (by rw [e2]; exact hk1) X3 hS3 hg3 hZ hown
  obtain ⟨rfl, N3q, K3q, Y3_0, Y3_1, Y3_2⟩ := hQ3
  have N3 := Fr.app N0 N3q
  obtain ⟨lc3, X3, N3⟩ := own_gen X3 N3
  have O3 := O1.keep K3q (allS ge_b1 all0)
  have K3 : Keep h0 T3.heap [] := K1.trans K3q (allS (Or.inr sz_b1) all0)
  have hk3 : _ ≤ T3.heap.size := Nat.le_refl _
  refine step (fun t k => st3.trans k) ?_
  show G T3 (mkF m 12 #[.val (.long q0), .second] [(.ref b1)])
  exact ret (v := some (.ref b1)) X3 hS hk3 (fun h => by rw [Bd.returns] at h; cases h) (fun fs hr => retA X3 hx Bd.returns rfl rfl (hb hby d3_12) hr) rfl ⟨b1, rfl, N3, K3, sz_b1, Y3_0, Y3_1, Y3_2⟩ (by decide) (by decide)
theorem d4_0 : decode prog_2_method_1_code 0 = .ok (.aload_n 0, 1) := by decide +kernel
theorem d4_1 : decode prog_2_method_1_code 1 = .ok (.invokespecial 1, 3) := by decide +kernel
theorem ww55 {Z : State} {a0 : Array Value} (hw : ∀ d ∈ tables_1, d.before a0 Z = true) : Jvm.Cond.before (Jvm.Cond.methodLink cn_0 (1 : Nat) ({ cls := cn_14, name := "<init>", desc := "()V" } : Jvm.MethodName)) a0 Z = true := hw _ (List.mem_of_getElem? (i := 55) rfl)
theorem d4_4 : decode prog_2_method_1_code 4 = .ok (.aload_n 0, 1) := by decide +kernel
theorem d4_5 : decode prog_2_method_1_code 5 = .ok (.iconst 4, 1) := by decide +kernel
theorem d4_6 : decode prog_2_method_1_code 6 = .ok (.newarray .long, 2) := by decide +kernel
theorem ww56 {Z : State} {a0 : Array Value} (hw : ∀ d ∈ tables_1, d.before a0 Z = true) : Jvm.Cond.before (Jvm.Cond.arrayClass Jvm.ClassFile.FieldType.long) a0 Z = true := hw _ (List.mem_of_getElem? (i := 56) rfl)
theorem d4_8 : decode prog_2_method_1_code 8 = .ok (.putfield 7, 3) := by decide +kernel
theorem ww57 {Z : State} {a0 : Array Value} (hw : ∀ d ∈ tables_1, d.before a0 Z = true) : Jvm.Cond.before (Jvm.Cond.fieldLink cn_0 (7 : Nat) cn_0 "times" "[J") a0 Z = true := hw _ (List.mem_of_getElem? (i := 57) rfl)
theorem ww58 {Z : State} {a0 : Array Value} (hw : ∀ d ∈ tables_1, d.before a0 Z = true) : Jvm.Cond.before (Jvm.Cond.lays cn_0 cn_0 "times" "[J") a0 Z = true := hw _ (List.mem_of_getElem? (i := 58) rfl)
theorem ww50 {Z : State} {a0 : Array Value} (hw : ∀ d ∈ tables_1, d.before a0 Z = true) : Jvm.Cond.before (Jvm.Cond.instantiable cn_0 (3 : Nat)) a0 Z = true := hw _ (List.mem_of_getElem? (i := 50) rfl)
theorem d4_11 : decode prog_2_method_1_code 11 = .ok (.return_, 1) := by decide +kernel
theorem ww67 {Z : State} {a0 : Array Value} (hw : ∀ d ∈ tables_1, d.before a0 Z = true) : Jvm.Cond.before (Jvm.Cond.lays cn_0 cn_0 "head" "I") a0 Z = true := hw _ (List.mem_of_getElem? (i := 67) rfl)
theorem ww65 {Z : State} {a0 : Array Value} (hw : ∀ d ∈ tables_1, d.before a0 Z = true) : Jvm.Cond.before (Jvm.Cond.lays cn_0 cn_0 "size" "I") a0 Z = true := hw _ (List.mem_of_getElem? (i := 65) rfl)
abbrev rr_at : Room := { frames := 1, cells := 1, slots := 4, locals := 12 }
abbrev y_4 : MethodName := ⟨cn_0, "<init>", "()V"⟩
theorem pn_3 : plainName cn_0 = true := by first | (simp [plainName, overriddenIn]; done) | decide +kernel
theorem ef_at (m : MethodId) (o0 : Addr) : entryFrame m #[(.ref o0)] 1 = mkF m 0 #[.val (.ref o0)] [] := by first | (simp [entryFrame, mkF, argsToLocals, Value.category]; done) | rfl
def Q_at (Z : State) (w_0 : Addr) (w_1 : Addr) (w_2 : Addr) (o0 : Addr) (h0 : Heap) (n0 : Nat) (v : Option Value) (h : Heap) (L : List Loc) : Prop := ∃ b : Addr, ∃ kb : ClassId, v = none ∧ Fr n0 L ∧ Keep h0 h [o0] ∧ h0.size ≤ b ∧ Exa Z h o0 cn_0 ∧ Fld Z h o0 cn_0 "times" "[J" (.ref b) ∧ Fld Z h o0 cn_0 "head" "I" (.int 0) ∧ Fld Z h o0 cn_0 "size" "I" (.int 0) ∧ Arv Z h b kb .long (4 : Int32) [(.long 0), (.long 0), (.long 0), (.long 0)] (.long 0)
set_option maxRecDepth 65536 in
set_option maxHeartbeats 40000000 in
theorem rm_at (l : Launch) (Z : State) (a0 : Array Value) (hw : ∀ d ∈ tables_1, d.before a0 Z = true) (ws : List Jvm.Cond) (w_0 : Addr) (w_1 : Addr) (w_2 : Addr) (o0 : Addr) (h0 : Heap) (n0 : Nat) (Z0 : n0 ≤ h0.size) (ST : own_St Z w_0 w_1 w_2) (O0 : Old Z n0 h0) (Ex : Exa Z h0 o0 cn_0) (geo : n0 ≤ o0) (Ft : Fld Z h0 o0 cn_0 "times" "[J" .null) (Fh : Fld Z h0 o0 cn_0 "head" "I" (.int 0)) (Fs : Fld Z h0 o0 cn_0 "size" "I" (.int 0)) :
    MetFree l y_4 (head1 (Jvm.Cond.code y_4 prog_2_method_1_code 1 none :: ws) rr_at) (fun a U => a = #[(.ref o0)] ∧ Z.Warmed39 U.vm ∧ U.heap = h0) (fun _ _ _ _ _ => True) (fun _ U o U' => ∃ v L, o = .returned v ∧ Q_at Z w_0 w_1 w_2 o0 h0 n0 v U'.heap L ∧ FrameEnd U o U' L rr_at.cells rr_at.slots) := by
  refine MetFree.of_bodySF (plainFor_of_name pn_3) hisR ?_
  intro p e s m args below meth c s₁ Bd hml0 hP hK
  obtain ⟨rfl, hZ, hh⟩ := hP
  have hx := Bd.exec
  have hby := Bd.bytes
  have hml : c.maxLocals = 1 := hml0
  have hown : s.vm.findClass cn_0 = some m.cls := findClass_of_methodNamed Bd.named
  have hnm := (name_of_methodNamed Bd.named Bd.method).1
  have X0 : Stand p l e rr_at s m #[(.ref o0)] below meth c s₁ [] 0 0 := Stand.of_body Bd
  have e0 : s₁.heap = h0 := by rw [← hh, Bd.state]; rfl
  have N0 := Fr.nil n0
  have K0 : Keep h0 h0 [o0] := Keep.refl _ _
  obtain ⟨G, step, ret, fin⟩ := own_open (p := p) (l := l) (e := e) (R := rr_at) (s := s) (m := m) (args := #[(.ref o0)]) (below := below) (meth := meth) (c := c) (rr_at.cells) (rr_at.slots) (Q_at Z w_0 w_1 w_2 o0 h0 n0) Bd.notSynchronized
  refine fin (g := entryFrame m #[(.ref o0)] 1) ?_
  rw [ef_at m o0]
  show G s₁ (mkF m 0 #[.val (.ref o0)] [])
  refine step (fun t k => XS.aloadN X0.here hx rfl (hb hby d4_0) rfl rfl k) ?_
  show G s₁ (mkF m 1 #[.val (.ref o0)] [(.ref o0)])
  obtain ⟨T1, X1, e1, st1⟩ := initO X0 hx hZ hown (ww55 hw) (ww27 hw) (ww28 hw) e0 (g := (mkF m 1 #[.val (.ref o0)] [(.ref o0)])) rfl (by rw [hml]; rfl) rfl (hb hby d4_1) (by decide) (W := 0) (by show 2 * 0 + _ ≤ _; exact Nat.le_of_eq rfl) (by decide)
  refine step st1 ?_
  show G T1 (mkF m 4 #[.val (.ref o0)] [])
  refine step (fun t k => XS.aloadN X1.here hx rfl (hb hby d4_4) rfl rfl k) ?_
  show G T1 (mkF m 5 #[.val (.ref o0)] [(.ref o0)])
  refine step (fun t k => XS.iconst X1.here hx rfl (hb hby d4_5) k) ?_
  show G T1 (mkF m 6 #[.val (.ref o0)] [(.int 4), (.ref o0)])
  obtain ⟨T2, h2, k2, X2, e2, E2, A2, B2, st2⟩ := newPE (aty := .long) X1 hx hZ (ww56 hw) e1 (g := (mkF m 6 #[.val (.ref o0)] [(.int 4), (.ref o0)])) rfl (hb hby d4_6) rfl (by decide) (cap := 4) (by decide) (by decide) (by decide) (by decide) (ad := "[J") (by decide)
  obtain ⟨b2, g2⟩ : ∃ z, z = h0.size := ⟨_, rfl⟩
  rw [← g2] at A2 B2 st2
  have V2 : Arv Z h2 b2 k2 .long (4 : Int32) [(.long 0), (.long 0), (.long 0), (.long 0)] (.long 0) := (Arv.new A2 (by decide)).pad (pad_rep [] (.long 0) 4)
  have ge_b2 : n0 ≤ b2 := Nat.le_trans (own_old_le O0) (Nat.le_of_eq g2.symm)
  have sz_b2 : h0.size ≤ b2 := Nat.le_trans K0.1 (Nat.le_of_eq g2.symm)
  have lt_o0_b2 : o0 < b2 := Nat.lt_of_lt_of_le Ex.lt (Nat.le_of_eq g2.symm)
  have O2 := O0.ext E2
  have K2 : Keep h0 h2 [o0] := K0.ext E2
  refine step st2 ?_
  show G T2 (mkF m 8 #[.val (.ref o0)] [(.ref b2), (.ref o0)])
  have f4 := (Fld.ext E2 Ft)
  have f5 := (Exa.ext E2 Ex)
  obtain ⟨T3, h3, X3, e3, W3, st3⟩ := putF X2 hx hZ hown (host := "") (Or.inl (ww57 hw)) Via.refl e2 f4 f5 (Or.inl (ww58 hw)) (ww50 hw) (ty := (.array .long)) (by decide) rfl rfl (g := (mkF m 8 #[.val (.ref o0)] [(.ref b2), (.ref o0)])) rfl rfl (hb hby d4_8)
  have F3 : Fld Z h3 o0 cn_0 "times" "[J" (.ref b2) := Fld.same W3 f4
  have N3 := Fr.snoc X3 N0 geo
  obtain ⟨lc3, X3, N3⟩ := own_gen X3 N3
  have O3 := O2.wr W3 geo
  have K3 : Keep h0 h3 [o0] := K2.wr W3 (Or.inl (List.mem_of_getElem? (i := 0) rfl))
  refine step st3 ?_
  show G T3 (mkF m 11 #[.val (.ref o0)] [])
  have f6 := (Exa.wr W3 f5)
  have f7 := (Fld.other W3 (Fld.ext E2 Fh) (Or.inr (slot_ne (Or.inl (ww67 hw)) (Or.inl (ww58 hw)) (by decide) (t := .int) (t' := (.array .long)) (by decide) (by decide))))
  have f8 := (Fld.other W3 (Fld.ext E2 Fs) (Or.inr (slot_ne (Or.inl (ww65 hw)) (Or.inl (ww58 hw)) (by decide) (t := .int) (t' := (.array .long)) (by decide) (by decide))))
  have f9 := (Arv.other V2 W3 (Nat.ne_of_gt lt_o0_b2))
  exact ret (v := none) X3 (fun _ => rfl) (fun fs hr => X3.returnOut hx Bd.returns (hb hby d4_11) hr) e3 ⟨b2, k2, rfl, N3, K3, sz_b2, f6, F3, f7, f8, f9⟩ (by decide) (by decide)
theorem d5_0 : decode prog_21_method_7_code 0 = .ok (.aload_n 0, 1) := by decide +kernel
theorem d5_1 : decode prog_21_method_7_code 1 = .ok (.getfield 42, 3) := by decide +kernel
theorem d5_4 : decode prog_21_method_7_code 4 = .ok (.areturn, 1) := by decide +kernel
abbrev rr_ty : Room := { frames := 0, cells := 0, slots := 0, locals := 0 }
abbrev y_5 : MethodName := ⟨cn_1, "type", cn_5⟩
theorem ef_ty (m : MethodId) (o0 : Addr) : entryFrame m #[(.ref o0)] 1 = mkF m 0 #[.val (.ref o0)] [] := by first | (simp [entryFrame, mkF, argsToLocals, Value.category]; done) | rfl
def f_ty (w_0 : Addr) (w_1 : Addr) (w_2 : Addr) (o0 : Addr) (t : Addr) : Addr := t
def Q_ty (Z : State) (w_0 : Addr) (w_1 : Addr) (w_2 : Addr) (o0 : Addr) (t : Addr) (h0 : Heap) (n0 : Nat) (v : Option Value) (h : Heap) (L : List Loc) : Prop := v = some (.ref (f_ty w_0 w_1 w_2 o0 t)) ∧ Fr n0 L ∧ h = h0
set_option maxRecDepth 65536 in
set_option maxHeartbeats 40000000 in
theorem rm_ty (l : Launch) (Z : State) (a0 : Array Value) (hw : ∀ d ∈ tables_1, d.before a0 Z = true) (ws : List Jvm.Cond) (w_0 : Addr) (w_1 : Addr) (w_2 : Addr) (o0 : Addr) (t : Addr) (h0 : Heap) (n0 : Nat) (Z0 : n0 ≤ h0.size) (ST : own_St Z w_0 w_1 w_2) (O0 : Old Z n0 h0) (Ft : Fld Z h0 o0 cn_1 "type" cn_4 (.ref t)) :
    MetFree l y_5 (head1 (Jvm.Cond.code y_5 prog_21_method_7_code 1 (some (.object cn_2)) :: ws) rr_ty) (fun a U => a = #[(.ref o0)] ∧ Z.Warmed39 U.vm ∧ U.heap = h0) (fun _ _ _ _ _ => True) (fun _ U o U' => ∃ v L, o = .returned v ∧ Q_ty Z w_0 w_1 w_2 o0 t h0 n0 v U'.heap L ∧ FrameEnd U o U' L rr_ty.cells rr_ty.slots) := by
  refine MetFree.of_bodySF (plainFor_of_name pn_2) hisR ?_
  intro p e s m args below meth c s₁ Bd hml0 hP hK
  obtain ⟨rfl, hZ, hh⟩ := hP
  have hx := Bd.exec
  have hby := Bd.bytes
  have hml : c.maxLocals = 1 := hml0
  have hown : s.vm.findClass cn_1 = some m.cls := findClass_of_methodNamed Bd.named
  have hnm := (name_of_methodNamed Bd.named Bd.method).1
  have X0 : Stand p l e rr_ty s m #[(.ref o0)] below meth c s₁ [] 0 0 := Stand.of_body Bd
  have e0 : s₁.heap = h0 := by rw [← hh, Bd.state]; rfl
  have N0 := Fr.nil n0
  obtain ⟨G, step, ret, fin⟩ := own_open (p := p) (l := l) (e := e) (R := rr_ty) (s := s) (m := m) (args := #[(.ref o0)]) (below := below) (meth := meth) (c := c) (rr_ty.cells) (rr_ty.slots) (Q_ty Z w_0 w_1 w_2 o0 t h0 n0) Bd.notSynchronized
  refine fin (g := entryFrame m #[(.ref o0)] 1) ?_
  rw [ef_ty m o0]
  show G s₁ (mkF m 0 #[.val (.ref o0)] [])
  refine step (fun t k => XS.aloadN X0.here hx rfl (hb hby d5_0) rfl rfl k) ?_
  show G s₁ (mkF m 1 #[.val (.ref o0)] [(.ref o0)])
  obtain ⟨T1, X1, e1, st1⟩ := getF X0 hx hZ hown (host := "") (Or.inl (ww43 hw)) Via.refl e0 Ft (g := (mkF m 1 #[.val (.ref o0)] [(.ref o0)])) rfl rfl (hb hby d5_1)
  refine step st1 ?_
  show G T1 (mkF m 4 #[.val (.ref o0)] [(.ref t)])
  exact ret (v := some (.ref t)) X1 (fun h => by rw [Bd.returns] at h; cases h) (fun fs hr => retA X1 hx Bd.returns rfl rfl (hb hby d5_4) hr) e1 ⟨rfl, N0, rfl⟩ (by decide) (by decide)
theorem d6_0 : decode prog_21_method_8_code 0 = .ok (.aload_n 0, 1) := by decide +kernel
theorem d6_1 : decode prog_21_method_8_code 1 = .ok (.getfield 44, 3) := by decide +kernel
theorem d6_4 : decode prog_21_method_8_code 4 = .ok (.lreturn, 1) := by decide +kernel
abbrev rr_mi : Room := { frames := 0, cells := 0, slots := 0, locals := 0 }
abbrev y_6 : MethodName := ⟨cn_1, "millis", "()J"⟩
theorem ef_mi (m : MethodId) (o0 : Addr) : entryFrame m #[(.ref o0)] 1 = mkF m 0 #[.val (.ref o0)] [] := by first | (simp [entryFrame, mkF, argsToLocals, Value.category]; done) | rfl
def f_mi (w_0 : Addr) (w_1 : Addr) (w_2 : Addr) (o0 : Addr) (mm : Int64) : Int64 := mm
def Q_mi (Z : State) (w_0 : Addr) (w_1 : Addr) (w_2 : Addr) (o0 : Addr) (mm : Int64) (h0 : Heap) (n0 : Nat) (v : Option Value) (h : Heap) (L : List Loc) : Prop := v = some (.long (f_mi w_0 w_1 w_2 o0 mm)) ∧ Fr n0 L ∧ h = h0
set_option maxRecDepth 65536 in
set_option maxHeartbeats 40000000 in
theorem rm_mi (l : Launch) (Z : State) (a0 : Array Value) (hw : ∀ d ∈ tables_1, d.before a0 Z = true) (ws : List Jvm.Cond) (w_0 : Addr) (w_1 : Addr) (w_2 : Addr) (o0 : Addr) (mm : Int64) (h0 : Heap) (n0 : Nat) (Z0 : n0 ≤ h0.size) (ST : own_St Z w_0 w_1 w_2) (O0 : Old Z n0 h0) (Fm : Fld Z h0 o0 cn_1 "millis" "J" (.long mm)) :
    MetFree l y_6 (head1 (Jvm.Cond.code y_6 prog_21_method_8_code 1 (some .long) :: ws) rr_mi) (fun a U => a = #[(.ref o0)] ∧ Z.Warmed39 U.vm ∧ U.heap = h0) (fun _ _ _ _ _ => True) (fun _ U o U' => ∃ v L, o = .returned v ∧ Q_mi Z w_0 w_1 w_2 o0 mm h0 n0 v U'.heap L ∧ FrameEnd U o U' L rr_mi.cells rr_mi.slots) := by
  refine MetFree.of_bodySF (plainFor_of_name pn_2) hisR ?_
  intro p e s m args below meth c s₁ Bd hml0 hP hK
  obtain ⟨rfl, hZ, hh⟩ := hP
  have hx := Bd.exec
  have hby := Bd.bytes
  have hml : c.maxLocals = 1 := hml0
  have hown : s.vm.findClass cn_1 = some m.cls := findClass_of_methodNamed Bd.named
  have hnm := (name_of_methodNamed Bd.named Bd.method).1
  have X0 : Stand p l e rr_mi s m #[(.ref o0)] below meth c s₁ [] 0 0 := Stand.of_body Bd
  have e0 : s₁.heap = h0 := by rw [← hh, Bd.state]; rfl
  have N0 := Fr.nil n0
  obtain ⟨G, step, ret, fin⟩ := own_open (p := p) (l := l) (e := e) (R := rr_mi) (s := s) (m := m) (args := #[(.ref o0)]) (below := below) (meth := meth) (c := c) (rr_mi.cells) (rr_mi.slots) (Q_mi Z w_0 w_1 w_2 o0 mm h0 n0) Bd.notSynchronized
  refine fin (g := entryFrame m #[(.ref o0)] 1) ?_
  rw [ef_mi m o0]
  show G s₁ (mkF m 0 #[.val (.ref o0)] [])
  refine step (fun t k => XS.aloadN X0.here hx rfl (hb hby d6_0) rfl rfl k) ?_
  show G s₁ (mkF m 1 #[.val (.ref o0)] [(.ref o0)])
  obtain ⟨T1, X1, e1, st1⟩ := getF X0 hx hZ hown (host := "") (Or.inl (ww45 hw)) Via.refl e0 Fm (g := (mkF m 1 #[.val (.ref o0)] [(.ref o0)])) rfl rfl (hb hby d6_1)
  refine step st1 ?_
  show G T1 (mkF m 4 #[.val (.ref o0)] [(.long mm)])
  exact ret (v := some (.long mm)) X1 (fun h => by rw [Bd.returns] at h; cases h) (fun fs hr => retL X1 hx Bd.returns (hb hby d6_4) hr) e1 ⟨rfl, N0, rfl⟩ (by decide) (by decide)
theorem d7_0 : decode jdk_37_method_2_code 0 = .ok (.aload_n 0, 1) := by decide +kernel
theorem d7_1 : decode jdk_37_method_2_code 1 = .ok (.getfield 7, 3) := by decide +kernel
theorem ww90 {Z : State} {a0 : Array Value} (hw : ∀ d ∈ tables_1, d.before a0 Z = true) : Jvm.Cond.before (Jvm.Cond.fieldLink cn_7 (7 : Nat) cn_7 "ordinal" "I") a0 Z = true := hw _ (List.mem_of_getElem? (i := 90) rfl)
theorem d7_4 : decode jdk_37_method_2_code 4 = .ok (.ireturn, 1) := by decide +kernel
abbrev rr_od : Room := { frames := 0, cells := 0, slots := 0, locals := 0 }
abbrev y_7 : MethodName := ⟨cn_7, "ordinal", "()I"⟩
theorem pn_4 : plainName cn_7 = true := by first | (simp [plainName, overriddenIn]; done) | decide +kernel
theorem ef_od (m : MethodId) (o0 : Addr) : entryFrame m #[(.ref o0)] 1 = mkF m 0 #[.val (.ref o0)] [] := by first | (simp [entryFrame, mkF, argsToLocals, Value.category]; done) | rfl
def f_od (w_0 : Addr) (w_1 : Addr) (w_2 : Addr) (o0 : Addr) (od : Int32) : Int32 := od
def Q_od (Z : State) (w_0 : Addr) (w_1 : Addr) (w_2 : Addr) (o0 : Addr) (od : Int32) (h0 : Heap) (n0 : Nat) (v : Option Value) (h : Heap) (L : List Loc) : Prop := v = some (.int (f_od w_0 w_1 w_2 o0 od)) ∧ Fr n0 L ∧ h = h0
set_option maxRecDepth 65536 in
set_option maxHeartbeats 40000000 in
theorem rm_od (l : Launch) (Z : State) (a0 : Array Value) (hw : ∀ d ∈ tables_1, d.before a0 Z = true) (ws : List Jvm.Cond) (w_0 : Addr) (w_1 : Addr) (w_2 : Addr) (o0 : Addr) (od : Int32) (h0 : Heap) (n0 : Nat) (Z0 : n0 ≤ h0.size) (ST : own_St Z w_0 w_1 w_2) (O0 : Old Z n0 h0) (Fo : Fld Z h0 o0 cn_7 "ordinal" "I" (.int od)) :
    MetFree l y_7 (head1 (Jvm.Cond.code y_7 jdk_37_method_2_code 1 (some .int) :: ws) rr_od) (fun a U => a = #[(.ref o0)] ∧ Z.Warmed39 U.vm ∧ U.heap = h0) (fun _ _ _ _ _ => True) (fun _ U o U' => ∃ v L, o = .returned v ∧ Q_od Z w_0 w_1 w_2 o0 od h0 n0 v U'.heap L ∧ FrameEnd U o U' L rr_od.cells rr_od.slots) := by
  refine MetFree.of_bodySF (plainFor_of_name pn_4) hisR ?_
  intro p e s m args below meth c s₁ Bd hml0 hP hK
  obtain ⟨rfl, hZ, hh⟩ := hP
  have hx := Bd.exec
  have hby := Bd.bytes
  have hml : c.maxLocals = 1 := hml0
  have hown : s.vm.findClass cn_7 = some m.cls := findClass_of_methodNamed Bd.named
  have hnm := (name_of_methodNamed Bd.named Bd.method).1
  have X0 : Stand p l e rr_od s m #[(.ref o0)] below meth c s₁ [] 0 0 := Stand.of_body Bd
  have e0 : s₁.heap = h0 := by rw [← hh, Bd.state]; rfl
  have N0 := Fr.nil n0
  obtain ⟨G, step, ret, fin⟩ := own_open (p := p) (l := l) (e := e) (R := rr_od) (s := s) (m := m) (args := #[(.ref o0)]) (below := below) (meth := meth) (c := c) (rr_od.cells) (rr_od.slots) (Q_od Z w_0 w_1 w_2 o0 od h0 n0) Bd.notSynchronized
  refine fin (g := entryFrame m #[(.ref o0)] 1) ?_
  rw [ef_od m o0]
  show G s₁ (mkF m 0 #[.val (.ref o0)] [])
  refine step (fun t k => XS.aloadN X0.here hx rfl (hb hby d7_0) rfl rfl k) ?_
  show G s₁ (mkF m 1 #[.val (.ref o0)] [(.ref o0)])
  obtain ⟨T1, X1, e1, st1⟩ := getF X0 hx hZ hown (host := "") (Or.inl (ww90 hw)) Via.refl e0 Fo (g := (mkF m 1 #[.val (.ref o0)] [(.ref o0)])) rfl rfl (hb hby d7_1)
  refine step st1 ?_
  show G T1 (mkF m 4 #[.val (.ref o0)] [(.int od)])
  exact ret (v := some (.int od)) X1 (fun h => by rw [Bd.returns] at h; cases h) (fun fs hr => retI X1 hx Bd.returns (hb hby d7_4) hr) e1 ⟨rfl, N0, rfl⟩ (by decide) (by decide)
theorem d8_0 : decode jdk_29_method_66_code 0 = .ok (.lload_n 0, 1) := by decide +kernel
theorem d8_1 : decode jdk_29_method_66_code 1 = .ok (.lload_n 2, 1) := by decide +kernel
theorem d8_2 : decode jdk_29_method_66_code 2 = .ok (.lcmp, 1) := by decide +kernel
theorem d8_3 : decode jdk_29_method_66_code 3 = .ok (.ifCond .lt 7, 3) := by decide +kernel
theorem d8_10 : decode jdk_29_method_66_code 10 = .ok (.lload_n 2, 1) := by decide +kernel
theorem d8_11 : decode jdk_29_method_66_code 11 = .ok (.lreturn, 1) := by decide +kernel
theorem d8_6 : decode jdk_29_method_66_code 6 = .ok (.lload_n 0, 1) := by decide +kernel
theorem d8_7 : decode jdk_29_method_66_code 7 = .ok (.goto 4, 3) := by decide +kernel
abbrev rr_mx : Room := { frames := 0, cells := 0, slots := 0, locals := 0 }
abbrev y_8 : MethodName := ⟨cn_12, "max", "(JJ)J"⟩
theorem ef_mx (m : MethodId) (q0 : Int64) (q1 : Int64) : entryFrame m #[(.long q0), (.long q1)] 4 = mkF m 0 #[.val (.long q0), .second, .val (.long q1), .second] [] := by first | (simp [entryFrame, mkF, argsToLocals, Value.category]; done) | rfl
def f_mx (w_0 : Addr) (w_1 : Addr) (w_2 : Addr) (q0 : Int64) (q1 : Int64) : Int64 := (if q0 < q1 then q1 else q0)
def Q_mx (Z : State) (w_0 : Addr) (w_1 : Addr) (w_2 : Addr) (q0 : Int64) (q1 : Int64) (h0 : Heap) (n0 : Nat) (v : Option Value) (h : Heap) (L : List Loc) : Prop := v = some (.long (f_mx w_0 w_1 w_2 q0 q1)) ∧ Fr n0 L ∧ h = h0
set_option maxRecDepth 65536 in
set_option maxHeartbeats 40000000 in
theorem rm_mx (l : Launch) (Z : State) (a0 : Array Value) (hw : ∀ d ∈ tables_1, d.before a0 Z = true) (ws : List Jvm.Cond) (w_0 : Addr) (w_1 : Addr) (w_2 : Addr) (q0 : Int64) (q1 : Int64) (h0 : Heap) (n0 : Nat) (Z0 : n0 ≤ h0.size) (ST : own_St Z w_0 w_1 w_2) (O0 : Old Z n0 h0) :
    MetFree l y_8 (head1 (Jvm.Cond.code y_8 jdk_29_method_66_code 4 (some .long) :: ws) rr_mx) (fun a U => a = #[(.long q0), (.long q1)] ∧ Z.Warmed39 U.vm ∧ U.heap = h0) (fun _ _ _ _ _ => True) (fun _ U o U' => ∃ v L, o = .returned v ∧ Q_mx Z w_0 w_1 w_2 q0 q1 h0 n0 v U'.heap L ∧ FrameEnd U o U' L rr_mx.cells rr_mx.slots) := by
  refine MetFree.of_bodySF (Jvm.Free.JP.mathPlain rfl (by decide +kernel)) hisR ?_
  intro p e s m args below meth c s₁ Bd hml0 hP hK
  obtain ⟨rfl, hZ, hh⟩ := hP
  have hx := Bd.exec
  have hby := Bd.bytes
  have hml : c.maxLocals = 4 := hml0
  have hown : s.vm.findClass cn_12 = some m.cls := findClass_of_methodNamed Bd.named
  have hnm := (name_of_methodNamed Bd.named Bd.method).1
  have X0 : Stand p l e rr_mx s m #[(.long q0), (.long q1)] below meth c s₁ [] 0 0 := Stand.of_body Bd
  have e0 : s₁.heap = h0 := by rw [← hh, Bd.state]; rfl
  have N0 := Fr.nil n0
  obtain ⟨G, step, ret, fin⟩ := own_open (p := p) (l := l) (e := e) (R := rr_mx) (s := s) (m := m) (args := #[(.long q0), (.long q1)]) (below := below) (meth := meth) (c := c) (rr_mx.cells) (rr_mx.slots) (Q_mx Z w_0 w_1 w_2 q0 q1 h0 n0) Bd.notSynchronized
  refine fin (g := entryFrame m #[(.long q0), (.long q1)] 4) ?_
  rw [ef_mx m q0 q1]
  show G s₁ (mkF m 0 #[.val (.long q0), .second, .val (.long q1), .second] [])
  refine step (fun t k => XS.lloadN X0.here hx rfl (hb hby d8_0) rfl k) ?_
  show G s₁ (mkF m 1 #[.val (.long q0), .second, .val (.long q1), .second] [(.long q0)])
  refine step (fun t k => XS.lloadN X0.here hx rfl (hb hby d8_1) rfl k) ?_
  show G s₁ (mkF m 2 #[.val (.long q0), .second, .val (.long q1), .second] [(.long q1), (.long q0)])
  refine step (fun t k => XS.lcmp X0.here hx rfl (hb hby d8_2) rfl k) ?_
  show G s₁ (mkF m 3 #[.val (.long q0), .second, .val (.long q1), .second] [(.int (lcmpW q0 q1))])
  by_cases hc1 : q0 < q1
  · skip
    refine step (fun t k => XS.ifYes X0.here hx rfl (pc0 := 3) (pc' := 10) rfl (hb hby d8_3) rfl ((if0 _ _).trans (tlt ((lw_lt _ _).mpr hc1)).1) (by decide) (by decide) k) ?_
    show G s₁ (mkF m 10 #[.val (.long q0), .second, .val (.long q1), .second] [])
    refine step (fun t k => XS.lloadN X0.here hx rfl (hb hby d8_10) rfl k) ?_
    show G s₁ (mkF m 11 #[.val (.long q0), .second, .val (.long q1), .second] [(.long q1)])
    exact ret (v := some (.long q1)) X0 (fun h => by rw [Bd.returns] at h; cases h) (fun fs hr => retL X0 hx Bd.returns (hb hby d8_11) hr) e0 ⟨by unfold f_mx; rw [if_pos hc1], N0, rfl⟩ (by decide) (by decide)
  · skip
    refine step (fun t k => XS.ifNo X0.here hx rfl (hb hby d8_3) rfl ((if0 _ _).trans (flt (fun q => hc1 ((lw_lt _ _).mp q))).1) k) ?_
    show G s₁ (mkF m 6 #[.val (.long q0), .second, .val (.long q1), .second] [])
    refine step (fun t k => XS.lloadN X0.here hx rfl (hb hby d8_6) rfl k) ?_
    show G s₁ (mkF m 7 #[.val (.long q0), .second, .val (.long q1), .second] [(.long q0)])
    refine step (fun t k => XS.goto X0.here hx rfl (pc0 := 7) (pc' := 11) rfl (hb hby d8_7) (by decide) (by decide) k) ?_
    show G s₁ (mkF m 11 #[.val (.long q0), .second, .val (.long q1), .second] [(.long q0)])
    exact ret (v := some (.long q0)) X0 (fun h => by rw [Bd.returns] at h; cases h) (fun fs hr => retL X0 hx Bd.returns (hb hby d8_11) hr) e0 ⟨by unfold f_mx; rw [if_neg hc1], N0, rfl⟩ (by decide) (by decide)
theorem d9_0 : decode jdk_29_method_70_code 0 = .ok (.lload_n 0, 1) := by decide +kernel
theorem d9_1 : decode jdk_29_method_70_code 1 = .ok (.lload_n 2, 1) := by decide +kernel
theorem d9_2 : decode jdk_29_method_70_code 2 = .ok (.lcmp, 1) := by decide +kernel
theorem d9_3 : decode jdk_29_method_70_code 3 = .ok (.ifCond .gt 7, 3) := by decide +kernel
theorem d9_10 : decode jdk_29_method_70_code 10 = .ok (.lload_n 2, 1) := by decide +kernel
theorem d9_11 : decode jdk_29_method_70_code 11 = .ok (.lreturn, 1) := by decide +kernel
theorem d9_6 : decode jdk_29_method_70_code 6 = .ok (.lload_n 0, 1) := by decide +kernel
theorem d9_7 : decode jdk_29_method_70_code 7 = .ok (.goto 4, 3) := by decide +kernel
abbrev rr_mn : Room := { frames := 0, cells := 0, slots := 0, locals := 0 }
abbrev y_9 : MethodName := ⟨cn_12, "min", "(JJ)J"⟩
theorem ef_mn (m : MethodId) (q0 : Int64) (q1 : Int64) : entryFrame m #[(.long q0), (.long q1)] 4 = mkF m 0 #[.val (.long q0), .second, .val (.long q1), .second] [] := by first | (simp [entryFrame, mkF, argsToLocals, Value.category]; done) | rfl
def f_mn (w_0 : Addr) (w_1 : Addr) (w_2 : Addr) (q0 : Int64) (q1 : Int64) : Int64 := (if q1 < q0 then q1 else q0)
def Q_mn (Z : State) (w_0 : Addr) (w_1 : Addr) (w_2 : Addr) (q0 : Int64) (q1 : Int64) (h0 : Heap) (n0 : Nat) (v : Option Value) (h : Heap) (L : List Loc) : Prop := v = some (.long (f_mn w_0 w_1 w_2 q0 q1)) ∧ Fr n0 L ∧ h = h0
set_option maxRecDepth 65536 in
set_option maxHeartbeats 40000000 in
theorem rm_mn (l : Launch) (Z : State) (a0 : Array Value) (hw : ∀ d ∈ tables_1, d.before a0 Z = true) (ws : List Jvm.Cond) (w_0 : Addr) (w_1 : Addr) (w_2 : Addr) (q0 : Int64) (q1 : Int64) (h0 : Heap) (n0 : Nat) (Z0 : n0 ≤ h0.size) (ST : own_St Z w_0 w_1 w_2) (O0 : Old Z n0 h0) :
    MetFree l y_9 (head1 (Jvm.Cond.code y_9 jdk_29_method_70_code 4 (some .long) :: ws) rr_mn) (fun a U => a = #[(.long q0), (.long q1)] ∧ Z.Warmed39 U.vm ∧ U.heap = h0) (fun _ _ _ _ _ => True) (fun _ U o U' => ∃ v L, o = .returned v ∧ Q_mn Z w_0 w_1 w_2 q0 q1 h0 n0 v U'.heap L ∧ FrameEnd U o U' L rr_mn.cells rr_mn.slots) := by
  refine MetFree.of_bodySF (Jvm.Free.JP.mathPlain rfl (by decide +kernel)) hisR ?_
  intro p e s m args below meth c s₁ Bd hml0 hP hK
  obtain ⟨rfl, hZ, hh⟩ := hP
  have hx := Bd.exec
  have hby := Bd.bytes
  have hml : c.maxLocals = 4 := hml0
  have hown : s.vm.findClass cn_12 = some m.cls := findClass_of_methodNamed Bd.named
  have hnm := (name_of_methodNamed Bd.named Bd.method).1
  have X0 : Stand p l e rr_mn s m #[(.long q0), (.long q1)] below meth c s₁ [] 0 0 := Stand.of_body Bd
  have e0 : s₁.heap = h0 := by rw [← hh, Bd.state]; rfl
  have N0 := Fr.nil n0
  obtain ⟨G, step, ret, fin⟩ := own_open (p := p) (l := l) (e := e) (R := rr_mn) (s := s) (m := m) (args := #[(.long q0), (.long q1)]) (below := below) (meth := meth) (c := c) (rr_mn.cells) (rr_mn.slots) (Q_mn Z w_0 w_1 w_2 q0 q1 h0 n0) Bd.notSynchronized
  refine fin (g := entryFrame m #[(.long q0), (.long q1)] 4) ?_
  rw [ef_mn m q0 q1]
  show G s₁ (mkF m 0 #[.val (.long q0), .second, .val (.long q1), .second] [])
  refine step (fun t k => XS.lloadN X0.here hx rfl (hb hby d9_0) rfl k) ?_
  show G s₁ (mkF m 1 #[.val (.long q0), .second, .val (.long q1), .second] [(.long q0)])
  refine step (fun t k => XS.lloadN X0.here hx rfl (hb hby d9_1) rfl k) ?_
  show G s₁ (mkF m 2 #[.val (.long q0), .second, .val (.long q1), .second] [(.long q1), (.long q0)])
  refine step (fun t k => XS.lcmp X0.here hx rfl (hb hby d9_2) rfl k) ?_
  show G s₁ (mkF m 3 #[.val (.long q0), .second, .val (.long q1), .second] [(.int (lcmpW q0 q1))])
  by_cases hc1 : q1 < q0
  · skip
    refine step (fun t k => XS.ifYes X0.here hx rfl (pc0 := 3) (pc' := 10) rfl (hb hby d9_3) rfl ((if0 _ _).trans (tlt ((lw_gt _ _).mpr hc1)).2.2.1) (by decide) (by decide) k) ?_
    show G s₁ (mkF m 10 #[.val (.long q0), .second, .val (.long q1), .second] [])
    refine step (fun t k => XS.lloadN X0.here hx rfl (hb hby d9_10) rfl k) ?_
    show G s₁ (mkF m 11 #[.val (.long q0), .second, .val (.long q1), .second] [(.long q1)])
    exact ret (v := some (.long q1)) X0 (fun h => by rw [Bd.returns] at h; cases h) (fun fs hr => retL X0 hx Bd.returns (hb hby d9_11) hr) e0 ⟨by unfold f_mn; rw [if_pos hc1], N0, rfl⟩ (by decide) (by decide)
  · skip
    refine step (fun t k => XS.ifNo X0.here hx rfl (hb hby d9_3) rfl ((if0 _ _).trans (flt (fun q => hc1 ((lw_gt _ _).mp q))).2.2.1) k) ?_
    show G s₁ (mkF m 6 #[.val (.long q0), .second, .val (.long q1), .second] [])
    refine step (fun t k => XS.lloadN X0.here hx rfl (hb hby d9_6) rfl k) ?_
    show G s₁ (mkF m 7 #[.val (.long q0), .second, .val (.long q1), .second] [(.long q0)])
    refine step (fun t k => XS.goto X0.here hx rfl (pc0 := 7) (pc' := 11) rfl (hb hby d9_7) (by decide) (by decide) k) ?_
    show G s₁ (mkF m 11 #[.val (.long q0), .second, .val (.long q1), .second] [(.long q0)])
    exact ret (v := some (.long q0)) X0 (fun h => by rw [Bd.returns] at h; cases h) (fun fs hr => retL X0 hx Bd.returns (hb hby d9_11) hr) e0 ⟨by unfold f_mn; rw [if_neg hc1], N0, rfl⟩ (by decide) (by decide)
theorem own_base {w_0 : Addr} {w_1 : Addr} {w_2 : Addr} {b bb : Int64} (h : bb = (f_mn w_0 w_1 w_2 (f_mx w_0 w_1 w_2 b (-9223372036854775807 : Int64)) (9223372036854773759 : Int64))) : -9223372036854775807 ≤ bb.toInt ∧ bb.toInt ≤ 9223372036854773759 := by
  have q1 : (-9223372036854775807 : Int64).toInt = -9223372036854775807 := by decide
  have q2 : (9223372036854773759 : Int64).toInt = 9223372036854773759 := by decide
  unfold f_mn f_mx at h
  subst h
  repeat' split
  all_goals (simp only [own_xltL] at *; omega)
theorem own_step {p1 : Int32} {sp : Int64} (h : sp = (((p1 &&& (255 : Int32)) + (1 : Int32)).toInt64)) : 1 ≤ sp.toInt ∧ sp.toInt ≤ 256 := by
  have m1 := c_mask p1 (255 : Int32) 8 (by decide) (by decide)
  have a1 := c_iadd (p1 &&& (255 : Int32)) (1 : Int32)
  have q1 : (1 : Int32).toInt = 1 := by decide
  have r1 := rng32 ((p1 &&& (255 : Int32)) + (1 : Int32))
  rw [h, c_i2l]
  clear h
  omega
theorem own_B {bb sp y : Int64} (i : Int64) (k : Int) (hk : i.toInt = k) (h0 : 0 ≤ k) (h1 : k ≤ 6) (hb : -9223372036854775807 ≤ bb.toInt ∧ bb.toInt ≤ 9223372036854773759) (hs : 1 ≤ sp.toInt ∧ sp.toInt ≤ 256) (h : y = (bb + (i * sp))) : y.toInt = bb.toInt + k * sp.toInt := by
  have a1 := c_ladd bb (i * sp)
  have a2 := c_lmul i sp
  rw [hk] at a2
  rw [← h] at a1
  have r1 := rng64 y
  have r2 := rng64 (i * sp)
  have b1 : 0 ≤ k * sp.toInt := Int.mul_nonneg h0 (by omega)
  have b2 : k * sp.toInt ≤ 6 * 256 := Int.mul_le_mul h1 hs.2 (by omega) (by omega)
  clear h hk
  generalize k * sp.toInt = z at *
  omega
theorem own_B1 {bb sp y : Int64} (hb : -9223372036854775807 ≤ bb.toInt ∧ bb.toInt ≤ 9223372036854773759) (hs : 1 ≤ sp.toInt ∧ sp.toInt ≤ 256) (h : y = (bb + sp)) : y.toInt = bb.toInt + 1 * sp.toInt := by
  have a1 := c_ladd bb sp
  rw [← h] at a1
  have r1 := rng64 y
  clear h
  omega
theorem own_nw1 {bb sp nw : Int64} {k : Int} (h0 : 0 ≤ k) (h1 : k ≤ 6) (hb : -9223372036854775807 ≤ bb.toInt ∧ bb.toInt ≤ 9223372036854773759) (hs : 1 ≤ sp.toInt ∧ sp.toInt ≤ 256) (h : nw.toInt = bb.toInt + k * sp.toInt) : (nw - (1 : Int64)).toInt = bb.toInt + k * sp.toInt - 1 := by
  have a1 := c_lsub nw (1 : Int64)
  have q1 : (1 : Int64).toInt = 1 := by decide
  have b1 : 0 ≤ k * sp.toInt := Int.mul_nonneg h0 (by omega)
  have r1 := rng64 (nw - (1 : Int64))
  have r2 := rng64 nw
  rw [h] at r2 a1
  generalize k * sp.toInt = z at *
  omega
theorem own_ltB {x y : Int64} {b s : Int} {k i : Int} (hk : x.toInt = b + k * s - 1) (hi : y.toInt = b + i * s) (hs : 1 ≤ s) (h : k ≤ i) : x < y := by
  rw [own_xltL, hk, hi]
  have := Int.mul_le_mul_of_nonneg_right h (show 0 ≤ s by omega)
  omega
theorem own_geB {x y : Int64} {b s : Int} {k i : Int} (hk : x.toInt = b + k * s - 1) (hi : y.toInt = b + i * s) (hs : 1 ≤ s) (h : i + 1 ≤ k) : ¬ (x < y) := by
  rw [own_xltL, hk, hi]
  have := Int.mul_le_mul_of_nonneg_right h (show 0 ≤ s by omega)
  rw [Int.add_mul] at this
  omega
theorem own_k4 (p : Int32) : (p &&& (3 : Int32)) = (0 : Int32) ∨ (p &&& (3 : Int32)) = (1 : Int32) ∨ (p &&& (3 : Int32)) = (2 : Int32) ∨ (p &&& (3 : Int32)) = (3 : Int32) := by
  have m1 := c_mask p (3 : Int32) 2 (by decide) (by decide)
  have q0 : (0 : Int32).toInt = 0 := by decide
  have q1 : (1 : Int32).toInt = 1 := by decide
  have q2 : (2 : Int32).toInt = 2 := by decide
  have q3 : (3 : Int32).toInt = 3 := by decide
  simp only [own_xeq, q0, q1, q2, q3]
  omega
theorem own_j1 (p4 : Int32) : ((p4 &&& (2147483647 : Int32)) % (1 : Int32)) = (0 : Int32) := by
  have m1 := c_mask p4 (2147483647 : Int32) 31 (by decide) (by decide)
  have m2 := c_irem (p4 &&& (2147483647 : Int32)) (1 : Int32) 1 (by decide)
  have q0 : (0 : Int32).toInt = 0 := by decide
  simp only [own_xeq, q0]
  generalize ((p4 &&& (2147483647 : Int32)) % (1 : Int32)).toInt = d at *
  omega
theorem own_j2 (p4 : Int32) : ((p4 &&& (2147483647 : Int32)) % (2 : Int32)) = (0 : Int32) ∨ ((p4 &&& (2147483647 : Int32)) % (2 : Int32)) = (1 : Int32) := by
  have m1 := c_mask p4 (2147483647 : Int32) 31 (by decide) (by decide)
  have m2 := c_irem (p4 &&& (2147483647 : Int32)) (2 : Int32) 2 (by decide)
  have q0 : (0 : Int32).toInt = 0 := by decide
  have q1 : (1 : Int32).toInt = 1 := by decide
  simp only [own_xeq, q0, q1]
  generalize ((p4 &&& (2147483647 : Int32)) % (2 : Int32)).toInt = d at *
  omega
theorem own_j3 (p4 : Int32) : ((p4 &&& (2147483647 : Int32)) % (3 : Int32)) = (0 : Int32) ∨ ((p4 &&& (2147483647 : Int32)) % (3 : Int32)) = (1 : Int32) ∨ ((p4 &&& (2147483647 : Int32)) % (3 : Int32)) = (2 : Int32) := by
  have m1 := c_mask p4 (2147483647 : Int32) 31 (by decide) (by decide)
  have m2 := c_irem (p4 &&& (2147483647 : Int32)) (3 : Int32) 3 (by decide)
  have q0 : (0 : Int32).toInt = 0 := by decide
  have q1 : (1 : Int32).toInt = 1 := by decide
  have q2 : (2 : Int32).toInt = 2 := by decide
  simp only [own_xeq, q0, q1, q2]
  generalize ((p4 &&& (2147483647 : Int32)) % (3 : Int32)).toInt = d at *
  omega
theorem own_j4 (p4 : Int32) : ((p4 &&& (2147483647 : Int32)) % (4 : Int32)) = (0 : Int32) ∨ ((p4 &&& (2147483647 : Int32)) % (4 : Int32)) = (1 : Int32) ∨ ((p4 &&& (2147483647 : Int32)) % (4 : Int32)) = (2 : Int32) ∨ ((p4 &&& (2147483647 : Int32)) % (4 : Int32)) = (3 : Int32) := by
  have m1 := c_mask p4 (2147483647 : Int32) 31 (by decide) (by decide)
  have m2 := c_irem (p4 &&& (2147483647 : Int32)) (4 : Int32) 4 (by decide)
  have q0 : (0 : Int32).toInt = 0 := by decide
  have q1 : (1 : Int32).toInt = 1 := by decide
  have q2 : (2 : Int32).toInt = 2 := by decide
  have q3 : (3 : Int32).toInt = 3 := by decide
  simp only [own_xeq, q0, q1, q2, q3]
  generalize ((p4 &&& (2147483647 : Int32)) % (4 : Int32)).toInt = d at *
  omega
theorem own_j5 (p4 : Int32) : ((p4 &&& (2147483647 : Int32)) % (5 : Int32)) = (0 : Int32) ∨ ((p4 &&& (2147483647 : Int32)) % (5 : Int32)) = (1 : Int32) ∨ ((p4 &&& (2147483647 : Int32)) % (5 : Int32)) = (2 : Int32) ∨ ((p4 &&& (2147483647 : Int32)) % (5 : Int32)) = (3 : Int32) ∨ ((p4 &&& (2147483647 : Int32)) % (5 : Int32)) = (4 : Int32) := by
  have m1 := c_mask p4 (2147483647 : Int32) 31 (by decide) (by decide)
  have m2 := c_irem (p4 &&& (2147483647 : Int32)) (5 : Int32) 5 (by decide)
  have q0 : (0 : Int32).toInt = 0 := by decide
  have q1 : (1 : Int32).toInt = 1 := by decide
  have q2 : (2 : Int32).toInt = 2 := by decide
  have q3 : (3 : Int32).toInt = 3 := by decide
  have q4 : (4 : Int32).toInt = 4 := by decide
  simp only [own_xeq, q0, q1, q2, q3, q4]
  generalize ((p4 &&& (2147483647 : Int32)) % (5 : Int32)).toInt = d at *
  omega
theorem own_j6 (p4 : Int32) : ((p4 &&& (2147483647 : Int32)) % (6 : Int32)) = (0 : Int32) ∨ ((p4 &&& (2147483647 : Int32)) % (6 : Int32)) = (1 : Int32) ∨ ((p4 &&& (2147483647 : Int32)) % (6 : Int32)) = (2 : Int32) ∨ ((p4 &&& (2147483647 : Int32)) % (6 : Int32)) = (3 : Int32) ∨ ((p4 &&& (2147483647 : Int32)) % (6 : Int32)) = (4 : Int32) ∨ ((p4 &&& (2147483647 : Int32)) % (6 : Int32)) = (5 : Int32) := by
  have m1 := c_mask p4 (2147483647 : Int32) 31 (by decide) (by decide)
  have m2 := c_irem (p4 &&& (2147483647 : Int32)) (6 : Int32) 6 (by decide)
  have q0 : (0 : Int32).toInt = 0 := by decide
  have q1 : (1 : Int32).toInt = 1 := by decide
  have q2 : (2 : Int32).toInt = 2 := by decide
  have q3 : (3 : Int32).toInt = 3 := by decide
  have q4 : (4 : Int32).toInt = 4 := by decide
  have q5 : (5 : Int32).toInt = 5 := by decide
  simp only [own_xeq, q0, q1, q2, q3, q4, q5]
  generalize ((p4 &&& (2147483647 : Int32)) % (6 : Int32)).toInt = d at *
  omega
theorem own_j7 (p4 : Int32) : ((p4 &&& (2147483647 : Int32)) % (7 : Int32)) = (0 : Int32) ∨ ((p4 &&& (2147483647 : Int32)) % (7 : Int32)) = (1 : Int32) ∨ ((p4 &&& (2147483647 : Int32)) % (7 : Int32)) = (2 : Int32) ∨ ((p4 &&& (2147483647 : Int32)) % (7 : Int32)) = (3 : Int32) ∨ ((p4 &&& (2147483647 : Int32)) % (7 : Int32)) = (4 : Int32) ∨ ((p4 &&& (2147483647 : Int32)) % (7 : Int32)) = (5 : Int32) ∨ ((p4 &&& (2147483647 : Int32)) % (7 : Int32)) = (6 : Int32) := by
  have m1 := c_mask p4 (2147483647 : Int32) 31 (by decide) (by decide)
  have m2 := c_irem (p4 &&& (2147483647 : Int32)) (7 : Int32) 7 (by decide)
  have q0 : (0 : Int32).toInt = 0 := by decide
  have q1 : (1 : Int32).toInt = 1 := by decide
  have q2 : (2 : Int32).toInt = 2 := by decide
  have q3 : (3 : Int32).toInt = 3 := by decide
  have q4 : (4 : Int32).toInt = 4 := by decide
  have q5 : (5 : Int32).toInt = 5 := by decide
  have q6 : (6 : Int32).toInt = 6 := by decide
  simp only [own_xeq, q0, q1, q2, q3, q4, q5, q6]
  generalize ((p4 &&& (2147483647 : Int32)) % (7 : Int32)).toInt = d at *
  omega
theorem ww0 {Z : State} {a0 : Array Value} (hw : ∀ d ∈ tables_1, d.before a0 Z = true) : Jvm.Cond.before (Jvm.Cond.constantLong cn_3 (9 : Nat) (-9223372036854775807 : Int64)) a0 Z = true := hw _ (List.mem_of_getElem? (i := 0) rfl)
theorem ww1 {Z : State} {a0 : Array Value} (hw : ∀ d ∈ tables_1, d.before a0 Z = true) : Jvm.Cond.before (Jvm.Cond.methodLink cn_3 (11 : Nat) ({ cls := cn_12, name := "max", desc := "(JJ)J" } : Jvm.MethodName)) a0 Z = true := hw _ (List.mem_of_getElem? (i := 1) rfl)
theorem ww4 {Z : State} {a0 : Array Value} (hw : ∀ d ∈ tables_1, d.before a0 Z = true) : Jvm.Cond.before (Jvm.Cond.code ({ cls := cn_12, name := "max", desc := "(JJ)J" } : Jvm.MethodName) jdk_29_method_66_code (4 : Nat) (Option.some Jvm.ClassFile.FieldType.long)) a0 Z = true := hw _ (List.mem_of_getElem? (i := 4) rfl)
theorem ww3 {Z : State} {a0 : Array Value} (hw : ∀ d ∈ tables_1, d.before a0 Z = true) : Jvm.Cond.before (Jvm.Cond.initialized cn_12) a0 Z = true := hw _ (List.mem_of_getElem? (i := 3) rfl)
theorem pd_3 : parseMethodDescriptor "(JJ)J" = some ⟨[.long, .long], some .long⟩ := by decide +kernel
theorem ww2 {Z : State} {a0 : Array Value} (hw : ∀ d ∈ tables_1, d.before a0 Z = true) : Jvm.Cond.before (Jvm.Cond.static ({ cls := cn_12, name := "max", desc := "(JJ)J" } : Jvm.MethodName)) a0 Z = true := hw _ (List.mem_of_getElem? (i := 2) rfl)
theorem ww5 {Z : State} {a0 : Array Value} (hw : ∀ d ∈ tables_1, d.before a0 Z = true) : Jvm.Cond.before (Jvm.Cond.constantLong cn_3 (17 : Nat) (9223372036854773759 : Int64)) a0 Z = true := hw _ (List.mem_of_getElem? (i := 5) rfl)
theorem ww6 {Z : State} {a0 : Array Value} (hw : ∀ d ∈ tables_1, d.before a0 Z = true) : Jvm.Cond.before (Jvm.Cond.methodLink cn_3 (19 : Nat) ({ cls := cn_12, name := "min", desc := "(JJ)J" } : Jvm.MethodName)) a0 Z = true := hw _ (List.mem_of_getElem? (i := 6) rfl)
theorem ww8 {Z : State} {a0 : Array Value} (hw : ∀ d ∈ tables_1, d.before a0 Z = true) : Jvm.Cond.before (Jvm.Cond.code ({ cls := cn_12, name := "min", desc := "(JJ)J" } : Jvm.MethodName) jdk_29_method_70_code (4 : Nat) (Option.some Jvm.ClassFile.FieldType.long)) a0 Z = true := hw _ (List.mem_of_getElem? (i := 8) rfl)
theorem ww7 {Z : State} {a0 : Array Value} (hw : ∀ d ∈ tables_1, d.before a0 Z = true) : Jvm.Cond.before (Jvm.Cond.static ({ cls := cn_12, name := "min", desc := "(JJ)J" } : Jvm.MethodName)) a0 Z = true := hw _ (List.mem_of_getElem? (i := 7) rfl)
theorem ww9 {Z : State} {a0 : Array Value} (hw : ∀ d ∈ tables_1, d.before a0 Z = true) : Jvm.Cond.before (Jvm.Cond.methodLink cn_3 (22 : Nat) ({ cls := cn_1, name := "sliding", desc := cn_11 } : Jvm.MethodName)) a0 Z = true := hw _ (List.mem_of_getElem? (i := 9) rfl)
theorem ww12 {Z : State} {a0 : Array Value} (hw : ∀ d ∈ tables_1, d.before a0 Z = true) : Jvm.Cond.before (Jvm.Cond.code ({ cls := cn_1, name := "sliding", desc := cn_11 } : Jvm.MethodName) prog_21_method_2_code (2 : Nat) (Option.some (Jvm.ClassFile.FieldType.object cn_1))) a0 Z = true := hw _ (List.mem_of_getElem? (i := 12) rfl)
theorem pd_4 : parseMethodDescriptor cn_11 = some ⟨[.long], some (.object cn_1)⟩ := by decide +kernel
theorem ww10 {Z : State} {a0 : Array Value} (hw : ∀ d ∈ tables_1, d.before a0 Z = true) : Jvm.Cond.before (Jvm.Cond.static ({ cls := cn_1, name := "sliding", desc := cn_11 } : Jvm.MethodName)) a0 Z = true := hw _ (List.mem_of_getElem? (i := 10) rfl)
theorem ww49 {Z : State} {a0 : Array Value} (hw : ∀ d ∈ tables_1, d.before a0 Z = true) : Jvm.Cond.before (Jvm.Cond.classLink cn_3 (28 : Nat) cn_0) a0 Z = true := hw _ (List.mem_of_getElem? (i := 49) rfl)
theorem ww51 {Z : State} {a0 : Array Value} (hw : ∀ d ∈ tables_1, d.before a0 Z = true) : Jvm.Cond.before (Jvm.Cond.initialized cn_0) a0 Z = true := hw _ (List.mem_of_getElem? (i := 51) rfl)
theorem ww52 {Z : State} {a0 : Array Value} (hw : ∀ d ∈ tables_1, d.before a0 Z = true) : Jvm.Cond.before (Jvm.Cond.methodLink cn_3 (30 : Nat) ({ cls := cn_0, name := "<init>", desc := "()V" } : Jvm.MethodName)) a0 Z = true := hw _ (List.mem_of_getElem? (i := 52) rfl)
theorem ww54 {Z : State} {a0 : Array Value} (hw : ∀ d ∈ tables_1, d.before a0 Z = true) : Jvm.Cond.before (Jvm.Cond.code ({ cls := cn_0, name := "<init>", desc := "()V" } : Jvm.MethodName) prog_2_method_1_code (1 : Nat) (Option.none : Option Jvm.ClassFile.FieldType)) a0 Z = true := hw _ (List.mem_of_getElem? (i := 54) rfl)
theorem ww53 {Z : State} {a0 : Array Value} (hw : ∀ d ∈ tables_1, d.before a0 Z = true) : Jvm.Cond.before (Jvm.Cond.instanceMethod ({ cls := cn_0, name := "<init>", desc := "()V" } : Jvm.MethodName)) a0 Z = true := hw _ (List.mem_of_getElem? (i := 53) rfl)
theorem ww59 {Z : State} {a0 : Array Value} (hw : ∀ d ∈ tables_1, d.before a0 Z = true) : Jvm.Cond.before (Jvm.Cond.methodLink cn_3 (31 : Nat) ({ cls := cn_0, name := "add", desc := "(J)V" } : Jvm.MethodName)) a0 Z = true := hw _ (List.mem_of_getElem? (i := 59) rfl)
theorem ww62 {Z : State} {a0 : Array Value} (hw : ∀ d ∈ tables_1, d.before a0 Z = true) : Jvm.Cond.before (Jvm.Cond.selects cn_0 ({ cls := cn_0, name := "add", desc := "(J)V" } : Jvm.MethodName) ({ cls := cn_0, name := "add", desc := "(J)V" } : Jvm.MethodName)) a0 Z = true := hw _ (List.mem_of_getElem? (i := 62) rfl)
theorem d10_0 : decode prog_2_method_4_code 0 = .ok (.aload_n 0, 1) := by decide +kernel
theorem d10_1 : decode prog_2_method_4_code 1 = .ok (.getfield 43, 3) := by decide +kernel
theorem ww64 {Z : State} {a0 : Array Value} (hw : ∀ d ∈ tables_1, d.before a0 Z = true) : Jvm.Cond.before (Jvm.Cond.fieldLink cn_0 (43 : Nat) cn_0 "size" "I") a0 Z = true := hw _ (List.mem_of_getElem? (i := 64) rfl)
theorem d10_4 : decode prog_2_method_4_code 4 = .ok (.aload_n 0, 1) := by decide +kernel
theorem d10_5 : decode prog_2_method_4_code 5 = .ok (.getfield 7, 3) := by decide +kernel
theorem d10_8 : decode prog_2_method_4_code 8 = .ok (.arraylength, 1) := by decide +kernel
theorem d10_9 : decode prog_2_method_4_code 9 = .ok (.if_icmp .ne 63, 3) := by decide +kernel
theorem d10_72 : decode prog_2_method_4_code 72 = .ok (.aload_n 0, 1) := by decide +kernel
theorem d10_73 : decode prog_2_method_4_code 73 = .ok (.getfield 7, 3) := by decide +kernel
theorem d10_76 : decode prog_2_method_4_code 76 = .ok (.aload_n 0, 1) := by decide +kernel
theorem d10_77 : decode prog_2_method_4_code 77 = .ok (.getfield 47, 3) := by decide +kernel
theorem ww66 {Z : State} {a0 : Array Value} (hw : ∀ d ∈ tables_1, d.before a0 Z = true) : Jvm.Cond.before (Jvm.Cond.fieldLink cn_0 (47 : Nat) cn_0 "head" "I") a0 Z = true := hw _ (List.mem_of_getElem? (i := 66) rfl)
theorem d10_80 : decode prog_2_method_4_code 80 = .ok (.aload_n 0, 1) := by decide +kernel
theorem d10_81 : decode prog_2_method_4_code 81 = .ok (.getfield 43, 3) := by decide +kernel
theorem d10_84 : decode prog_2_method_4_code 84 = .ok (.iadd, 1) := by decide +kernel
theorem d10_85 : decode prog_2_method_4_code 85 = .ok (.aload_n 0, 1) := by decide +kernel
theorem d10_86 : decode prog_2_method_4_code 86 = .ok (.getfield 7, 3) := by decide +kernel
theorem d10_89 : decode prog_2_method_4_code 89 = .ok (.arraylength, 1) := by decide +kernel
theorem d10_90 : decode prog_2_method_4_code 90 = .ok (.irem, 1) := by decide +kernel
theorem d10_91 : decode prog_2_method_4_code 91 = .ok (.lload_n 1, 1) := by decide +kernel
theorem d10_92 : decode prog_2_method_4_code 92 = .ok (.lastore, 1) := by decide +kernel
theorem d10_93 : decode prog_2_method_4_code 93 = .ok (.aload_n 0, 1) := by decide +kernel
theorem d10_94 : decode prog_2_method_4_code 94 = .ok (.dup, 1) := by decide +kernel
theorem d10_95 : decode prog_2_method_4_code 95 = .ok (.getfield 43, 3) := by decide +kernel
theorem d10_98 : decode prog_2_method_4_code 98 = .ok (.iconst 1, 1) := by decide +kernel
theorem d10_99 : decode prog_2_method_4_code 99 = .ok (.iadd, 1) := by decide +kernel
theorem d10_100 : decode prog_2_method_4_code 100 = .ok (.putfield 43, 3) := by decide +kernel
theorem d10_103 : decode prog_2_method_4_code 103 = .ok (.return_, 1) := by decide +kernel
abbrev rr_add_4_0 : Room := { frames := 0, cells := 0, slots := 0, locals := 0 }
abbrev y_10 : MethodName := ⟨cn_0, "add", "(J)V"⟩
theorem ef_add_4_0 (m : MethodId) (o0 : Addr) (q1 : Int64) : entryFrame m #[(.ref o0), (.long q1)] 5 = mkF m 0 #[.val (.ref o0), .val (.long q1), .second, .unset, .unset] [] := by first | (simp [entryFrame, mkF, argsToLocals, Value.category]; done) | rfl
def Q_add_4_0 (Z : State) (w_0 : Addr) (w_1 : Addr) (w_2 : Addr) (o0 : Addr) (q1 : Int64) (ar : Addr) (ka : ClassId) (x0 : Int64) (x1 : Int64) (x2 : Int64) (x3 : Int64) (hd : Int32) (sz : Int32) (sz1 : Int32) (h0 : Heap) (n0 : Nat) (v : Option Value) (h : Heap) (L : List Loc) : Prop := v = none ∧ Fr n0 L ∧ Keep h0 h [o0, ar] ∧ Exa Z h o0 cn_0 ∧ Fld Z h o0 cn_0 "times" "[J" (.ref ar) ∧ Fld Z h o0 cn_0 "head" "I" (.int hd) ∧ Fld Z h o0 cn_0 "size" "I" (.int sz1) ∧ Arv Z h ar ka .long (4 : Int32) [(.long q1), (.long x1), (.long x2), (.long x3)] (.long 0)
set_option maxRecDepth 65536 in
set_option maxHeartbeats 40000000 in
theorem rm_add_4_0 (l : Launch) (Z : State) (a0 : Array Value) (hw : ∀ d ∈ tables_1, d.before a0 Z = true) (ws : List Jvm.Cond) (w_0 : Addr) (w_1 : Addr) (w_2 : Addr) (o0 : Addr) (q1 : Int64) (ar : Addr) (ka : ClassId) (x0 : Int64) (x1 : Int64) (x2 : Int64) (x3 : Int64) (hd : Int32) (sz : Int32) (sz1 : Int32) (h0 : Heap) (n0 : Nat) (Z0 : n0 ≤ h0.size) (ST : own_St Z w_0 w_1 w_2) (O0 : Old Z n0 h0) (Ex : Exa Z h0 o0 cn_0) (geo : n0 ≤ o0) (Ft : Fld Z h0 o0 cn_0 "times" "[J" (.ref ar)) (gea : n0 ≤ ar) (Fh : Fld Z h0 o0 cn_0 "head" "I" (.int hd)) (Fs : Fld Z h0 o0 cn_0 "size" "I" (.int sz)) (Va : Arv Z h0 ar ka .long (4 : Int32) [(.long x0), (.long x1), (.long x2), (.long x3)] (.long 0)) (hne : ¬ (sz = (4 : Int32))) (hs1 : (sz + (1 : Int32)) = sz1) (hix : ((hd + sz) % (4 : Int32)) = (0 : Int32)) :
    MetFree l y_10 (head1 (Jvm.Cond.code y_10 prog_2_method_4_code 5 none :: ws) rr_add_4_0) (fun a U => a = #[(.ref o0), (.long q1)] ∧ Z.Warmed39 U.vm ∧ U.heap = h0) (fun _ _ _ _ _ => True) (fun _ U o U' => ∃ v L, o = .returned v ∧ Q_add_4_0 Z w_0 w_1 w_2 o0 q1 ar ka x0 x1 x2 x3 hd sz sz1 h0 n0 v U'.heap L ∧ FrameEnd U o U' L rr_add_4_0.cells rr_add_4_0.slots) := by
  refine MetFree.of_bodySF (plainFor_of_name pn_3) hisR ?_
  intro p e s m args below meth c s₁ Bd hml0 hP hK
  obtain ⟨rfl, hZ, hh⟩ := hP
  have hx := Bd.exec
  have hby := Bd.bytes
  have hml : c.maxLocals = 5 := hml0
  have hown : s.vm.findClass cn_0 = some m.cls := findClass_of_methodNamed Bd.named
  have hnm := (name_of_methodNamed Bd.named Bd.method).1
  have X0 : Stand p l e rr_add_4_0 s m #[(.ref o0), (.long q1)] below meth c s₁ [] 0 0 := Stand.of_body Bd
  have e0 : s₁.heap = h0 := by rw [← hh, Bd.state]; rfl
  have N0 := Fr.nil n0
  have K0 : Keep h0 h0 [o0, ar] := Keep.refl _ _
  obtain ⟨G, step, ret, fin⟩ := own_open (p := p) (l := l) (e := e) (R := rr_add_4_0) (s := s) (m := m) (args := #[(.ref o0), (.long q1)]) (below := below) (meth := meth) (c := c) (rr_add_4_0.cells) (rr_add_4_0.slots) (Q_add_4_0 Z w_0 w_1 w_2 o0 q1 ar ka x0 x1 x2 x3 hd sz sz1 h0 n0) Bd.notSynchronized
  refine fin (g := entryFrame m #[(.ref o0), (.long q1)] 5) ?_
  rw [ef_add_4_0 m o0 q1]
  have ne_o0_ar : o0 ≠ ar := own_ne_arv Ex (ww50 hw) Va
  show G s₁ (mkF m 0 #[.val (.ref o0), .val (.long q1), .second, .unset, .unset] [])
  refine step (fun t k => XS.aloadN X0.here hx rfl (hb hby d10_0) rfl rfl k) ?_
  show G s₁ (mkF m 1 #[.val (.ref o0), .val (.long q1), .second, .unset, .unset] [(.ref o0)])
  obtain ⟨T1, X1, e1, st1⟩ := getF X0 hx hZ hown (host := "") (Or.inl (ww64 hw)) Via.refl e0 Fs (g := (mkF m 1 #[.val (.ref o0), .val (.long q1), .second, .unset, .unset] [(.ref o0)])) rfl rfl (hb hby d10_1)
  refine step st1 ?_
  show G T1 (mkF m 4 #[.val (.ref o0), .val (.long q1), .second, .unset, .unset] [(.int sz)])
  refine step (fun t k => XS.aloadN X1.here hx rfl (hb hby d10_4) rfl rfl k) ?_
  show G T1 (mkF m 5 #[.val (.ref o0), .val (.long q1), .second, .unset, .unset] [(.ref o0), (.int sz)])
  obtain ⟨T2, X2, e2, st2⟩ := getF X1 hx hZ hown (host := "") (Or.inl (ww57 hw)) Via.refl e1 Ft (g := (mkF m 5 #[.val (.ref o0), .val (.long q1), .second, .unset, .unset] [(.ref o0), (.int sz)])) rfl rfl (hb hby d10_5)
  refine step st2 ?_
  show G T2 (mkF m 8 #[.val (.ref o0), .val (.long q1), .second, .unset, .unset] [(.ref ar), (.int sz)])
  have q3 := own_len X2 hx hZ e2 Va (g := (mkF m 8 #[.val (.ref o0), .val (.long q1), .second, .unset, .unset] [(.ref ar), (.int sz)])) rfl rfl (hb hby d10_8)
  refine step q3 ?_
  show G T2 (mkF m 9 #[.val (.ref o0), .val (.long q1), .second, .unset, .unset] [(.int 4), (.int sz)])
  refine step (fun t k => XS.icmpYes X2.here hx rfl (pc0 := 9) (pc' := 72) rfl (hb hby d10_9) rfl (feq hne).2 (by decide) (by decide) k) ?_
  show G T2 (mkF m 72 #[.val (.ref o0), .val (.long q1), .second, .unset, .unset] [])
  refine step (fun t k => XS.aloadN X2.here hx rfl (hb hby d10_72) rfl rfl k) ?_
  show G T2 (mkF m 73 #[.val (.ref o0), .val (.long q1), .second, .unset, .unset] [(.ref o0)])
  obtain ⟨T4, X4, e4, st4⟩ := getF X2 hx hZ hown (host := "") (Or.inl (ww57 hw)) Via.refl e2 Ft (g := (mkF m 73 #[.val (.ref o0), .val (.long q1), .second, .unset, .unset] [(.ref o0)])) rfl rfl (hb hby d10_73)
  refine step st4 ?_
  show G T4 (mkF m 76 #[.val (.ref o0), .val (.long q1), .second, .unset, .unset] [(.ref ar)])
  refine step (fun t k => XS.aloadN X4.here hx rfl (hb hby d10_76) rfl rfl k) ?_
  show G T4 (mkF m 77 #[.val (.ref o0), .val (.long q1), .second, .unset, .unset] [(.ref o0), (.ref ar)])
  obtain ⟨T5, X5, e5, st5⟩ := getF X4 hx hZ hown (host := "") (Or.inl (ww66 hw)) Via.refl e4 Fh (g := (mkF m 77 #[.val (.ref o0), .val (.long q1), .second, .unset, .unset] [(.ref o0), (.ref ar)])) rfl rfl (hb hby d10_77)
  refine step st5 ?_
  show G T5 (mkF m 80 #[.val (.ref o0), .val (.long q1), .second, .unset, .unset] [(.int hd), (.ref ar)])
  refine step (fun t k => XS.aloadN X5.here hx rfl (hb hby d10_80) rfl rfl k) ?_
  show G T5 (mkF m 81 #[.val (.ref o0), .val (.long q1), .second, .unset, .unset] [(.ref o0), (.int hd), (.ref ar)])
  obtain ⟨T6, X6, e6, st6⟩ := getF X5 hx hZ hown (host := "") (Or.inl (ww64 hw)) Via.refl e5 Fs (g := (mkF m 81 #[.val (.ref o0), .val (.long q1), .second, .unset, .unset] [(.ref o0), (.int hd), (.ref ar)])) rfl rfl (hb hby d10_81)
  refine step st6 ?_
  show G T6 (mkF m 84 #[.val (.ref o0), .val (.long q1), .second, .unset, .unset] [(.int sz), (.int hd), (.ref ar)])
  refine step (fun t k => XS.iadd X6.here hx rfl (hb hby d10_84) rfl k) ?_
  show G T6 (mkF m 85 #[.val (.ref o0), .val (.long q1), .second, .unset, .unset] [(.int (hd + sz)), (.ref ar)])
  refine step (fun t k => XS.aloadN X6.here hx rfl (hb hby d10_85) rfl rfl k) ?_
  show G T6 (mkF m 86 #[.val (.ref o0), .val (.long q1), .second, .unset, .unset] [(.ref o0), (.int (hd + sz)), (.ref ar)])
  obtain ⟨T7, X7, e7, st7⟩ := getF X6 hx hZ hown (host := "") (Or.inl (ww57 hw)) Via.refl e6 Ft (g := (mkF m 86 #[.val (.ref o0), .val (.long q1), .second, .unset, .unset] [(.ref o0), (.int (hd + sz)), (.ref ar)])) rfl rfl (hb hby d10_86)
  refine step st7 ?_
  show G T7 (mkF m 89 #[.val (.ref o0), .val (.long q1), .second, .unset, .unset] [(.ref ar), (.int (hd + sz)), (.ref ar)])
  have q8 := own_len X7 hx hZ e7 Va (g := (mkF m 89 #[.val (.ref o0), .val (.long q1), .second, .unset, .unset] [(.ref ar), (.int (hd + sz)), (.ref ar)])) rfl rfl (hb hby d10_89)
  refine step q8 ?_
  show G T7 (mkF m 90 #[.val (.ref o0), .val (.long q1), .second, .unset, .unset] [(.int 4), (.int (hd + sz)), (.ref ar)])
  refine step (fun t k => iremM X7 hx rfl (hb hby d10_90) rfl (by decide) k) ?_
  show G T7 (mkF m 91 #[.val (.ref o0), .val (.long q1), .second, .unset, .unset] [(.int ((hd + sz) % (4 : Int32))), (.ref ar)])
  rw [hix]
  show G T7 (mkF m 91 #[.val (.ref o0), .val (.long q1), .second, .unset, .unset] [(.int 0), (.ref ar)])
  refine step (fun t k => XS.lloadN X7.here hx rfl (hb hby d10_91) rfl k) ?_
  show G T7 (mkF m 92 #[.val (.ref o0), .val (.long q1), .second, .unset, .unset] [(.long q1), (.int 0), (.ref ar)])
  obtain ⟨T9, h9, X9, e9, W9, V9, st9⟩ := own_stJ X7 hx hZ e7 Va (j := (0 : Int32)) (by decide) (i := 0) rfl (by show 0 < 4; decide) (g := (mkF m 92 #[.val (.ref o0), .val (.long q1), .second, .unset, .unset] [(.long q1), (.int 0), (.ref ar)])) rfl rfl (hb hby d10_92)
  replace V9 : Arv Z h9 ar ka .long (4 : Int32) [(.long q1), (.long x1), (.long x2), (.long x3)] (.long 0) := V9
  have N9 := Fr.snoc X9 N0 gea
  obtain ⟨lc9, X9, N9⟩ := own_gen X9 N9
  have O9 := O0.wr W9 gea
  have K9 : Keep h0 h9 [o0, ar] := K0.wr W9 (Or.inl (List.mem_of_getElem? (i := 1) rfl))
  refine step st9 ?_
  show G T9 (mkF m 93 #[.val (.ref o0), .val (.long q1), .second, .unset, .unset] [])
  refine step (fun t k => XS.aloadN X9.here hx rfl (hb hby d10_93) rfl rfl k) ?_
  show G T9 (mkF m 94 #[.val (.ref o0), .val (.long q1), .second, .unset, .unset] [(.ref o0)])
  refine step (fun t k => XS.dup X9.here hx rfl (hb hby d10_94) rfl rfl k) ?_
  show G T9 (mkF m 95 #[.val (.ref o0), .val (.long q1), .second, .unset, .unset] [(.ref o0), (.ref o0)])
  have f11 := (Fld.other W9 Fs (Or.inl ne_o0_ar))
  obtain ⟨T10, X10, e10, st10⟩ := getF X9 hx hZ hown (host := "") (Or.inl (ww64 hw)) Via.refl e9 f11 (g := (mkF m 95 #[.val (.ref o0), .val (.long q1), .second, .unset, .unset] [(.ref o0), (.ref o0)])) rfl rfl (hb hby d10_95)
  refine step st10 ?_
  show G T10 (mkF m 98 #[.val (.ref o0), .val (.long q1), .second, .unset, .unset] [(.int sz), (.ref o0)])
  refine step (fun t k => XS.iconst X10.here hx rfl (hb hby d10_98) k) ?_
  show G T10 (mkF m 99 #[.val (.ref o0), .val (.long q1), .second, .unset, .unset] [(.int 1), (.int sz), (.ref o0)])
  refine step (fun t k => XS.iadd X10.here hx rfl (hb hby d10_99) rfl k) ?_
  show G T10 (mkF m 100 #[.val (.ref o0), .val (.long q1), .second, .unset, .unset] [(.int (sz + (1 : Int32))), (.ref o0)])
  rw [hs1]
  show G T10 (mkF m 100 #[.val (.ref o0), .val (.long q1), .second, .unset, .unset] [(.int sz1), (.ref o0)])
  have f13 := (Exa.wr W9 Ex)
  obtain ⟨T12, h12, X12, e12, W12, st12⟩ := putF X10 hx hZ hown (host := "") (Or.inl (ww64 hw)) Via.refl e10 f11 f13 (Or.inl (ww65 hw)) (ww50 hw) (ty := .int) (by decide) rfl rfl (g := (mkF m 100 #[.val (.ref o0), .val (.long q1), .second, .unset, .unset] [(.int sz1), (.ref o0)])) rfl rfl (hb hby d10_100)
  have F12 : Fld Z h12 o0 cn_0 "size" "I" (.int sz1) := Fld.same W12 f11
  have N12 := Fr.snoc X12 N9 geo
  obtain ⟨lc12, X12, N12⟩ := own_gen X12 N12
  have O12 := O9.wr W12 geo
  have K12 : Keep h0 h12 [o0, ar] := K9.wr W12 (Or.inl (List.mem_of_getElem? (i := 0) rfl))
  refine step st12 ?_
  show G T12 (mkF m 103 #[.val (.ref o0), .val (.long q1), .second, .unset, .unset] [])
  have f14 := (Exa.wr W12 f13)
  have f15 := (Fld.other W12 (Fld.other W9 Ft (Or.inl ne_o0_ar)) (Or.inr (slot_ne (Or.inl (ww58 hw)) (Or.inl (ww65 hw)) (by decide) (t := (.array .long)) (t' := .int) (by decide) (by decide))))
  have f16 := (Fld.other W12 (Fld.other W9 Fh (Or.inl ne_o0_ar)) (Or.inr (slot_ne (Or.inl (ww67 hw)) (Or.inl (ww65 hw)) (by decide) (t := .int) (t' := .int) (by decide) (by decide))))
  have f17 := (Arv.other V9 W12 (Ne.symm ne_o0_ar))
  exact ret (v := none) X12 (fun _ => rfl) (fun fs hr => X12.returnOut hx Bd.returns (hb hby d10_103) hr) e12 ⟨rfl, N12, K12, f14, f15, f16, F12, f17⟩ (by decide) (by decide)
theorem ww63 {Z : State} {a0 : Array Value} (hw : ∀ d ∈ tables_1, d.before a0 Z = true) : Jvm.Cond.before (Jvm.Cond.code ({ cls := cn_0, name := "add", desc := "(J)V" } : Jvm.MethodName) prog_2_method_4_code (5 : Nat) (Option.none : Option Jvm.ClassFile.FieldType)) a0 Z = true := hw _ (List.mem_of_getElem? (i := 63) rfl)
theorem pd_5 : parseMethodDescriptor "(J)V" = some ⟨[.long], none⟩ := by decide +kernel
theorem ww60 {Z : State} {a0 : Array Value} (hw : ∀ d ∈ tables_1, d.before a0 Z = true) : Jvm.Cond.before (Jvm.Cond.declares ({ cls := cn_0, name := "add", desc := "(J)V" } : Jvm.MethodName)) a0 Z = true := hw _ (List.mem_of_getElem? (i := 60) rfl)
theorem ww61 {Z : State} {a0 : Array Value} (hw : ∀ d ∈ tables_1, d.before a0 Z = true) : Jvm.Cond.before (Jvm.Cond.instanceMethod ({ cls := cn_0, name := "add", desc := "(J)V" } : Jvm.MethodName)) a0 Z = true := hw _ (List.mem_of_getElem? (i := 61) rfl)
abbrev rr_add_4_1 : Room := { frames := 0, cells := 0, slots := 0, locals := 0 }
theorem ef_add_4_1 (m : MethodId) (o0 : Addr) (q1 : Int64) : entryFrame m #[(.ref o0), (.long q1)] 5 = mkF m 0 #[.val (.ref o0), .val (.long q1), .second, .unset, .unset] [] := by first | (simp [entryFrame, mkF, argsToLocals, Value.category]; done) | rfl
def Q_add_4_1 (Z : State) (w_0 : Addr) (w_1 : Addr) (w_2 : Addr) (o0 : Addr) (q1 : Int64) (ar : Addr) (ka : ClassId) (x0 : Int64) (x1 : Int64) (x2 : Int64) (x3 : Int64) (hd : Int32) (sz : Int32) (sz1 : Int32) (h0 : Heap) (n0 : Nat) (v : Option Value) (h : Heap) (L : List Loc) : Prop := v = none ∧ Fr n0 L ∧ Keep h0 h [o0, ar] ∧ Exa Z h o0 cn_0 ∧ Fld Z h o0 cn_0 "times" "[J" (.ref ar) ∧ Fld Z h o0 cn_0 "head" "I" (.int hd) ∧ Fld Z h o0 cn_0 "size" "I" (.int sz1) ∧ Arv Z h ar ka .long (4 : Int32) [(.long x0), (.long q1), (.long x2), (.long x3)] (.long 0)
set_option maxRecDepth 65536 in
set_option maxHeartbeats 40000000 in
theorem rm_add_4_1 (l : Launch) (Z : State) (a0 : Array Value) (hw : ∀ d ∈ tables_1, d.before a0 Z = true) (ws : List Jvm.Cond) (w_0 : Addr) (w_1 : Addr) (w_2 : Addr) (o0 : Addr) (q1 : Int64) (ar : Addr) (ka : ClassId) (x0 : Int64) (x1 : Int64) (x2 : Int64) (x3 : Int64) (hd : Int32) (sz : Int32) (sz1 : Int32) (h0 : Heap) (n0 : Nat) (Z0 : n0 ≤ h0.size) (ST : own_St Z w_0 w_1 w_2) (O0 : Old Z n0 h0) (Ex : Exa Z h0 o0 cn_0) (geo : n0 ≤ o0) (Ft : Fld Z h0 o0 cn_0 "times" "[J" (.ref ar)) (gea : n0 ≤ ar) (Fh : Fld Z h0 o0 cn_0 "head" "I" (.int hd)) (Fs : Fld Z h0 o0 cn_0 "size" "I" (.int sz)) (Va : Arv Z h0 ar ka .long (4 : Int32) [(.long x0), (.long x1), (.long x2), (.long x3)] (.long 0)) (hne : ¬ (sz = (4 : Int32))) (hs1 : (sz + (1 : Int32)) = sz1) (hix : ((hd + sz) % (4 : Int32)) = (1 : Int32)) :
    MetFree l y_10 (head1 (Jvm.Cond.code y_10 prog_2_method_4_code 5 none :: ws) rr_add_4_1) (fun a U => a = #[(.ref o0), (.long q1)] ∧ Z.Warmed39 U.vm ∧ U.heap = h0) (fun _ _ _ _ _ => True) (fun _ U o U' => ∃ v L, o = .returned v ∧ Q_add_4_1 Z w_0 w_1 w_2 o0 q1 ar ka x0 x1 x2 x3 hd sz sz1 h0 n0 v U'.heap L ∧ FrameEnd U o U' L rr_add_4_1.cells rr_add_4_1.slots) := by
  refine MetFree.of_bodySF (plainFor_of_name pn_3) hisR ?_
  intro p e s m args below meth c s₁ Bd hml0 hP hK
  obtain ⟨rfl, hZ, hh⟩ := hP
  have hx := Bd.exec
  have hby := Bd.bytes
  have hml : c.maxLocals = 5 := hml0
  have hown : s.vm.findClass cn_0 = some m.cls := findClass_of_methodNamed Bd.named
  have hnm := (name_of_methodNamed Bd.named Bd.method).1
  have X0 : Stand p l e rr_add_4_1 s m #[(.ref o0), (.long q1)] below meth c s₁ [] 0 0 := Stand.of_body Bd
  have e0 : s₁.heap = h0 := by rw [← hh, Bd.state]; rfl
  have N0 := Fr.nil n0
  have K0 : Keep h0 h0 [o0, ar] := Keep.refl _ _
  obtain ⟨G, step, ret, fin⟩ := own_open (p := p) (l := l) (e := e) (R := rr_add_4_1) (s := s) (m := m) (args := #[(.ref o0), (.long q1)]) (below := below) (meth := meth) (c := c) (rr_add_4_1.cells) (rr_add_4_1.slots) (Q_add_4_1 Z w_0 w_1 w_2 o0 q1 ar ka x0 x1 x2 x3 hd sz sz1 h0 n0) Bd.notSynchronized
  refine fin (g := entryFrame m #[(.ref o0), (.long q1)] 5) ?_
  rw [ef_add_4_1 m o0 q1]
  have ne_o0_ar : o0 ≠ ar := own_ne_arv Ex (ww50 hw) Va
  show G s₁ (mkF m 0 #[.val (.ref o0), .val (.long q1), .second, .unset, .unset] [])
  refine step (fun t k => XS.aloadN X0.here hx rfl (hb hby d10_0) rfl rfl k) ?_
  show G s₁ (mkF m 1 #[.val (.ref o0), .val (.long q1), .second, .unset, .unset] [(.ref o0)])
  obtain ⟨T1, X1, e1, st1⟩ := getF X0 hx hZ hown (host := "") (Or.inl (ww64 hw)) Via.refl e0 Fs (g := (mkF m 1 #[.val (.ref o0), .val (.long q1), .second, .unset, .unset] [(.ref o0)])) rfl rfl (hb hby d10_1)
  refine step st1 ?_
  show G T1 (mkF m 4 #[.val (.ref o0), .val (.long q1), .second, .unset, .unset] [(.int sz)])
  refine step (fun t k => XS.aloadN X1.here hx rfl (hb hby d10_4) rfl rfl k) ?_
  show G T1 (mkF m 5 #[.val (.ref o0), .val (.long q1), .second, .unset, .unset] [(.ref o0), (.int sz)])
  obtain ⟨T2, X2, e2, st2⟩ := getF X1 hx hZ hown (host := "") (Or.inl (ww57 hw)) Via.refl e1 Ft (g := (mkF m 5 #[.val (.ref o0), .val (.long q1), .second, .unset, .unset] [(.ref o0), (.int sz)])) rfl rfl (hb hby d10_5)
  refine step st2 ?_
  show G T2 (mkF m 8 #[.val (.ref o0), .val (.long q1), .second, .unset, .unset] [(.ref ar), (.int sz)])
  have q3 := own_len X2 hx hZ e2 Va (g := (mkF m 8 #[.val (.ref o0), .val (.long q1), .second, .unset, .unset] [(.ref ar), (.int sz)])) rfl rfl (hb hby d10_8)
  refine step q3 ?_
  show G T2 (mkF m 9 #[.val (.ref o0), .val (.long q1), .second, .unset, .unset] [(.int 4), (.int sz)])
  refine step (fun t k => XS.icmpYes X2.here hx rfl (pc0 := 9) (pc' := 72) rfl (hb hby d10_9) rfl (feq hne).2 (by decide) (by decide) k) ?_
  show G T2 (mkF m 72 #[.val (.ref o0), .val (.long q1), .second, .unset, .unset] [])
  refine step (fun t k => XS.aloadN X2.here hx rfl (hb hby d10_72) rfl rfl k) ?_
  show G T2 (mkF m 73 #[.val (.ref o0), .val (.long q1), .second, .unset, .unset] [(.ref o0)])
  obtain ⟨T4, X4, e4, st4⟩ := getF X2 hx hZ hown (host := "") (Or.inl (ww57 hw)) Via.refl e2 Ft (g := (mkF m 73 #[.val (.ref o0), .val (.long q1), .second, .unset, .unset] [(.ref o0)])) rfl rfl (hb hby d10_73)
  refine step st4 ?_
  show G T4 (mkF m 76 #[.val (.ref o0), .val (.long q1), .second, .unset, .unset] [(.ref ar)])
  refine step (fun t k => XS.aloadN X4.here hx rfl (hb hby d10_76) rfl rfl k) ?_
  show G T4 (mkF m 77 #[.val (.ref o0), .val (.long q1), .second, .unset, .unset] [(.ref o0), (.ref ar)])
  obtain ⟨T5, X5, e5, st5⟩ := getF X4 hx hZ hown (host := "") (Or.inl (ww66 hw)) Via.refl e4 Fh (g := (mkF m 77 #[.val (.ref o0), .val (.long q1), .second, .unset, .unset] [(.ref o0), (.ref ar)])) rfl rfl (hb hby d10_77)
  refine step st5 ?_
  show G T5 (mkF m 80 #[.val (.ref o0), .val (.long q1), .second, .unset, .unset] [(.int hd), (.ref ar)])
  refine step (fun t k => XS.aloadN X5.here hx rfl (hb hby d10_80) rfl rfl k) ?_
  show G T5 (mkF m 81 #[.val (.ref o0), .val (.long q1), .second, .unset, .unset] [(.ref o0), (.int hd), (.ref ar)])
  obtain ⟨T6, X6, e6, st6⟩ := getF X5 hx hZ hown (host := "") (Or.inl (ww64 hw)) Via.refl e5 Fs (g := (mkF m 81 #[.val (.ref o0), .val (.long q1), .second, .unset, .unset] [(.ref o0), (.int hd), (.ref ar)])) rfl rfl (hb hby d10_81)
  refine step st6 ?_
  show G T6 (mkF m 84 #[.val (.ref o0), .val (.long q1), .second, .unset, .unset] [(.int sz), (.int hd), (.ref ar)])
  refine step (fun t k => XS.iadd X6.here hx rfl (hb hby d10_84) rfl k) ?_
  show G T6 (mkF m 85 #[.val (.ref o0), .val (.long q1), .second, .unset, .unset] [(.int (hd + sz)), (.ref ar)])
  refine step (fun t k => XS.aloadN X6.here hx rfl (hb hby d10_85) rfl rfl k) ?_
  show G T6 (mkF m 86 #[.val (.ref o0), .val (.long q1), .second, .unset, .unset] [(.ref o0), (.int (hd + sz)), (.ref ar)])
  obtain ⟨T7, X7, e7, st7⟩ := getF X6 hx hZ hown (host := "") (Or.inl (ww57 hw)) Via.refl e6 Ft (g := (mkF m 86 #[.val (.ref o0), .val (.long q1), .second, .unset, .unset] [(.ref o0), (.int (hd + sz)), (.ref ar)])) rfl rfl (hb hby d10_86)
  refine step st7 ?_
  show G T7 (mkF m 89 #[.val (.ref o0), .val (.long q1), .second, .unset, .unset] [(.ref ar), (.int (hd + sz)), (.ref ar)])
  have q8 := own_len X7 hx hZ e7 Va (g := (mkF m 89 #[.val (.ref o0), .val (.long q1), .second, .unset, .unset] [(.ref ar), (.int (hd + sz)), (.ref ar)])) rfl rfl (hb hby d10_89)
  refine step q8 ?_
  show G T7 (mkF m 90 #[.val (.ref o0), .val (.long q1), .second, .unset, .unset] [(.int 4), (.int (hd + sz)), (.ref ar)])
  refine step (fun t k => iremM X7 hx rfl (hb hby d10_90) rfl (by decide) k) ?_
  show G T7 (mkF m 91 #[.val (.ref o0), .val (.long q1), .second, .unset, .unset] [(.int ((hd + sz) % (4 : Int32))), (.ref ar)])
  rw [hix]
  show G T7 (mkF m 91 #[.val (.ref o0), .val (.long q1), .second, .unset, .unset] [(.int 1), (.ref ar)])
  refine step (fun t k => XS.lloadN X7.here hx rfl (hb hby d10_91) rfl k) ?_
  show G T7 (mkF m 92 #[.val (.ref o0), .val (.long q1), .second, .unset, .unset] [(.long q1), (.int 1), (.ref ar)])
  obtain ⟨T9, h9, X9, e9, W9, V9, st9⟩ := own_stJ X7 hx hZ e7 Va (j := (1 : Int32)) (by decide) (i := 1) rfl (by show 1 < 4; decide) (g := (mkF m 92 #[.val (.ref o0), .val (.long q1), .second, .unset, .unset] [(.long q1), (.int 1), (.ref ar)])) rfl rfl (hb hby d10_92)
  replace V9 : Arv Z h9 ar ka .long (4 : Int32) [(.long x0), (.long q1), (.long x2), (.long x3)] (.long 0) := V9
  have N9 := Fr.snoc X9 N0 gea
  obtain ⟨lc9, X9, N9⟩ := own_gen X9 N9
  have O9 := O0.wr W9 gea
  have K9 : Keep h0 h9 [o0, ar] := K0.wr W9 (Or.inl (List.mem_of_getElem? (i := 1) rfl))
  refine step st9 ?_
  show G T9 (mkF m 93 #[.val (.ref o0), .val (.long q1), .second, .unset, .unset] [])
  refine step (fun t k => XS.aloadN X9.here hx rfl (hb hby d10_93) rfl rfl k) ?_
  show G T9 (mkF m 94 #[.val (.ref o0), .val (.long q1), .second, .unset, .unset] [(.ref o0)])
  refine step (fun t k => XS.dup X9.here hx rfl (hb hby d10_94) rfl rfl k) ?_
  show G T9 (mkF m 95 #[.val (.ref o0), .val (.long q1), .second, .unset, .unset] [(.ref o0), (.ref o0)])
  have f11 := (Fld.other W9 Fs (Or.inl ne_o0_ar))
  obtain ⟨T10, X10, e10, st10⟩ := getF X9 hx hZ hown (host := "") (Or.inl (ww64 hw)) Via.refl e9 f11 (g := (mkF m 95 #[.val (.ref o0), .val (.long q1), .second, .unset, .unset] [(.ref o0), (.ref o0)])) rfl rfl (hb hby d10_95)
  refine step st10 ?_
  show G T10 (mkF m 98 #[.val (.ref o0), .val (.long q1), .second, .unset, .unset] [(.int sz), (.ref o0)])
  refine step (fun t k => XS.iconst X10.here hx rfl (hb hby d10_98) k) ?_
  show G T10 (mkF m 99 #[.val (.ref o0), .val (.long q1), .second, .unset, .unset] [(.int 1), (.int sz), (.ref o0)])
  refine step (fun t k => XS.iadd X10.here hx rfl (hb hby d10_99) rfl k) ?_
  show G T10 (mkF m 100 #[.val (.ref o0), .val (.long q1), .second, .unset, .unset] [(.int (sz + (1 : Int32))), (.ref o0)])
  rw [hs1]
  show G T10 (mkF m 100 #[.val (.ref o0), .val (.long q1), .second, .unset, .unset] [(.int sz1), (.ref o0)])
  have f13 := (Exa.wr W9 Ex)
  obtain ⟨T12, h12, X12, e12, W12, st12⟩ := putF X10 hx hZ hown (host := "") (Or.inl (ww64 hw)) Via.refl e10 f11 f13 (Or.inl (ww65 hw)) (ww50 hw) (ty := .int) (by decide) rfl rfl (g := (mkF m 100 #[.val (.ref o0), .val (.long q1), .second, .unset, .unset] [(.int sz1), (.ref o0)])) rfl rfl (hb hby d10_100)
  have F12 : Fld Z h12 o0 cn_0 "size" "I" (.int sz1) := Fld.same W12 f11
  have N12 := Fr.snoc X12 N9 geo
  obtain ⟨lc12, X12, N12⟩ := own_gen X12 N12
  have O12 := O9.wr W12 geo
  have K12 : Keep h0 h12 [o0, ar] := K9.wr W12 (Or.inl (List.mem_of_getElem? (i := 0) rfl))
  refine step st12 ?_
  show G T12 (mkF m 103 #[.val (.ref o0), .val (.long q1), .second, .unset, .unset] [])
  have f14 := (Exa.wr W12 f13)
  have f15 := (Fld.other W12 (Fld.other W9 Ft (Or.inl ne_o0_ar)) (Or.inr (slot_ne (Or.inl (ww58 hw)) (Or.inl (ww65 hw)) (by decide) (t := (.array .long)) (t' := .int) (by decide) (by decide))))
  have f16 := (Fld.other W12 (Fld.other W9 Fh (Or.inl ne_o0_ar)) (Or.inr (slot_ne (Or.inl (ww67 hw)) (Or.inl (ww65 hw)) (by decide) (t := .int) (t' := .int) (by decide) (by decide))))
  have f17 := (Arv.other V9 W12 (Ne.symm ne_o0_ar))
  exact ret (v := none) X12 (fun _ => rfl) (fun fs hr => X12.returnOut hx Bd.returns (hb hby d10_103) hr) e12 ⟨rfl, N12, K12, f14, f15, f16, F12, f17⟩ (by decide) (by decide)
theorem ww68 {Z : State} {a0 : Array Value} (hw : ∀ d ∈ tables_1, d.before a0 Z = true) : Jvm.Cond.before (Jvm.Cond.constantLong cn_3 (35 : Nat) (2 : Int64)) a0 Z = true := hw _ (List.mem_of_getElem? (i := 68) rfl)
abbrev rr_add_4_2 : Room := { frames := 0, cells := 0, slots := 0, locals := 0 }
theorem ef_add_4_2 (m : MethodId) (o0 : Addr) (q1 : Int64) : entryFrame m #[(.ref o0), (.long q1)] 5 = mkF m 0 #[.val (.ref o0), .val (.long q1), .second, .unset, .unset] [] := by first | (simp [entryFrame, mkF, argsToLocals, Value.category]; done) | rfl
def Q_add_4_2 (Z : State) (w_0 : Addr) (w_1 : Addr) (w_2 : Addr) (o0 : Addr) (q1 : Int64) (ar : Addr) (ka : ClassId) (x0 : Int64) (x1 : Int64) (x2 : Int64) (x3 : Int64) (hd : Int32) (sz : Int32) (sz1 : Int32) (h0 : Heap) (n0 : Nat) (v : Option Value) (h : Heap) (L : List Loc) : Prop := v = none ∧ Fr n0 L ∧ Keep h0 h [o0, ar] ∧ Exa Z h o0 cn_0 ∧ Fld Z h o0 cn_0 "times" "[J" (.ref ar) ∧ Fld Z h o0 cn_0 "head" "I" (.int hd) ∧ Fld Z h o0 cn_0 "size" "I" (.int sz1) ∧ Arv Z h ar ka .long (4 : Int32) [(.long x0), (.long x1), (.long q1), (.long x3)] (.long 0)
set_option maxRecDepth 65536 in
set_option maxHeartbeats 40000000 in
theorem rm_add_4_2 (l : Launch) (Z : State) (a0 : Array Value) (hw : ∀ d ∈ tables_1, d.before a0 Z = true) (ws : List Jvm.Cond) (w_0 : Addr) (w_1 : Addr) (w_2 : Addr) (o0 : Addr) (q1 : Int64) (ar : Addr) (ka : ClassId) (x0 : Int64) (x1 : Int64) (x2 : Int64) (x3 : Int64) (hd : Int32) (sz : Int32) (sz1 : Int32) (h0 : Heap) (n0 : Nat) (Z0 : n0 ≤ h0.size) (ST : own_St Z w_0 w_1 w_2) (O0 : Old Z n0 h0) (Ex : Exa Z h0 o0 cn_0) (geo : n0 ≤ o0) (Ft : Fld Z h0 o0 cn_0 "times" "[J" (.ref ar)) (gea : n0 ≤ ar) (Fh : Fld Z h0 o0 cn_0 "head" "I" (.int hd)) (Fs : Fld Z h0 o0 cn_0 "size" "I" (.int sz)) (Va : Arv Z h0 ar ka .long (4 : Int32) [(.long x0), (.long x1), (.long x2), (.long x3)] (.long 0)) (hne : ¬ (sz = (4 : Int32))) (hs1 : (sz + (1 : Int32)) = sz1) (hix : ((hd + sz) % (4 : Int32)) = (2 : Int32)) :
    MetFree l y_10 (head1 (Jvm.Cond.code y_10 prog_2_method_4_code 5 none :: ws) rr_add_4_2) (fun a U => a = #[(.ref o0), (.long q1)] ∧ Z.Warmed39 U.vm ∧ U.heap = h0) (fun _ _ _ _ _ => True) (fun _ U o U' => ∃ v L, o = .returned v ∧ Q_add_4_2 Z w_0 w_1 w_2 o0 q1 ar ka x0 x1 x2 x3 hd sz sz1 h0 n0 v U'.heap L ∧ FrameEnd U o U' L rr_add_4_2.cells rr_add_4_2.slots) := by
  refine MetFree.of_bodySF (plainFor_of_name pn_3) hisR ?_
  intro p e s m args below meth c s₁ Bd hml0 hP hK
  obtain ⟨rfl, hZ, hh⟩ := hP
  have hx := Bd.exec
  have hby := Bd.bytes
  have hml : c.maxLocals = 5 := hml0
  have hown : s.vm.findClass cn_0 = some m.cls := findClass_of_methodNamed Bd.named
  have hnm := (name_of_methodNamed Bd.named Bd.method).1
  have X0 : Stand p l e rr_add_4_2 s m #[(.ref o0), (.long q1)] below meth c s₁ [] 0 0 := Stand.of_body Bd
  have e0 : s₁.heap = h0 := by rw [← hh, Bd.state]; rfl
  have N0 := Fr.nil n0
  have K0 : Keep h0 h0 [o0, ar] := Keep.refl _ _
  obtain ⟨G, step, ret, fin⟩ := own_open (p := p) (l := l) (e := e) (R := rr_add_4_2) (s := s) (m := m) (args := #[(.ref o0), (.long q1)]) (below := below) (meth := meth) (c := c) (rr_add_4_2.cells) (rr_add_4_2.slots) (Q_add_4_2 Z w_0 w_1 w_2 o0 q1 ar ka x0 x1 x2 x3 hd sz sz1 h0 n0) Bd.notSynchronized
  refine fin (g := entryFrame m #[(.ref o0), (.long q1)] 5) ?_
  rw [ef_add_4_2 m o0 q1]
  have ne_o0_ar : o0 ≠ ar := own_ne_arv Ex (ww50 hw) Va
  show G s₁ (mkF m 0 #[.val (.ref o0), .val (.long q1), .second, .unset, .unset] [])
  refine step (fun t k => XS.aloadN X0.here hx rfl (hb hby d10_0) rfl rfl k) ?_
  show G s₁ (mkF m 1 #[.val (.ref o0), .val (.long q1), .second, .unset, .unset] [(.ref o0)])
  obtain ⟨T1, X1, e1, st1⟩ := getF X0 hx hZ hown (host := "") (Or.inl (ww64 hw)) Via.refl e0 Fs (g := (mkF m 1 #[.val (.ref o0), .val (.long q1), .second, .unset, .unset] [(.ref o0)])) rfl rfl (hb hby d10_1)
  refine step st1 ?_
  show G T1 (mkF m 4 #[.val (.ref o0), .val (.long q1), .second, .unset, .unset] [(.int sz)])
  refine step (fun t k => XS.aloadN X1.here hx rfl (hb hby d10_4) rfl rfl k) ?_
  show G T1 (mkF m 5 #[.val (.ref o0), .val (.long q1), .second, .unset, .unset] [(.ref o0), (.int sz)])
  obtain ⟨T2, X2, e2, st2⟩ := getF X1 hx hZ hown (host := "") (Or.inl (ww57 hw)) Via.refl e1 Ft (g := (mkF m 5 #[.val (.ref o0), .val (.long q1), .second, .unset, .unset] [(.ref o0), (.int sz)])) rfl rfl (hb hby d10_5)
  refine step st2 ?_
  show G T2 (mkF m 8 #[.val (.ref o0), .val (.long q1), .second, .unset, .unset] [(.ref ar), (.int sz)])
  have q3 := own_len X2 hx hZ e2 Va (g := (mkF m 8 #[.val (.ref o0), .val (.long q1), .second, .unset, .unset] [(.ref ar), (.int sz)])) rfl rfl (hb hby d10_8)
  refine step q3 ?_
  show G T2 (mkF m 9 #[.val (.ref o0), .val (.long q1), .second, .unset, .unset] [(.int 4), (.int sz)])
  refine step (fun t k => XS.icmpYes X2.here hx rfl (pc0 := 9) (pc' := 72) rfl (hb hby d10_9) rfl (feq hne).2 (by decide) (by decide) k) ?_
  show G T2 (mkF m 72 #[.val (.ref o0), .val (.long q1), .second, .unset, .unset] [])
  refine step (fun t k => XS.aloadN X2.here hx rfl (hb hby d10_72) rfl rfl k) ?_
  show G T2 (mkF m 73 #[.val (.ref o0), .val (.long q1), .second, .unset, .unset] [(.ref o0)])
  obtain ⟨T4, X4, e4, st4⟩ := getF X2 hx hZ hown (host := "") (Or.inl (ww57 hw)) Via.refl e2 Ft (g := (mkF m 73 #[.val (.ref o0), .val (.long q1), .second, .unset, .unset] [(.ref o0)])) rfl rfl (hb hby d10_73)
  refine step st4 ?_
  show G T4 (mkF m 76 #[.val (.ref o0), .val (.long q1), .second, .unset, .unset] [(.ref ar)])
  refine step (fun t k => XS.aloadN X4.here hx rfl (hb hby d10_76) rfl rfl k) ?_
  show G T4 (mkF m 77 #[.val (.ref o0), .val (.long q1), .second, .unset, .unset] [(.ref o0), (.ref ar)])
  obtain ⟨T5, X5, e5, st5⟩ := getF X4 hx hZ hown (host := "") (Or.inl (ww66 hw)) Via.refl e4 Fh (g := (mkF m 77 #[.val (.ref o0), .val (.long q1), .second, .unset, .unset] [(.ref o0), (.ref ar)])) rfl rfl (hb hby d10_77)
  refine step st5 ?_
  show G T5 (mkF m 80 #[.val (.ref o0), .val (.long q1), .second, .unset, .unset] [(.int hd), (.ref ar)])
  refine step (fun t k => XS.aloadN X5.here hx rfl (hb hby d10_80) rfl rfl k) ?_
  show G T5 (mkF m 81 #[.val (.ref o0), .val (.long q1), .second, .unset, .unset] [(.ref o0), (.int hd), (.ref ar)])
  obtain ⟨T6, X6, e6, st6⟩ := getF X5 hx hZ hown (host := "") (Or.inl (ww64 hw)) Via.refl e5 Fs (g := (mkF m 81 #[.val (.ref o0), .val (.long q1), .second, .unset, .unset] [(.ref o0), (.int hd), (.ref ar)])) rfl rfl (hb hby d10_81)
  refine step st6 ?_
  show G T6 (mkF m 84 #[.val (.ref o0), .val (.long q1), .second, .unset, .unset] [(.int sz), (.int hd), (.ref ar)])
  refine step (fun t k => XS.iadd X6.here hx rfl (hb hby d10_84) rfl k) ?_
  show G T6 (mkF m 85 #[.val (.ref o0), .val (.long q1), .second, .unset, .unset] [(.int (hd + sz)), (.ref ar)])
  refine step (fun t k => XS.aloadN X6.here hx rfl (hb hby d10_85) rfl rfl k) ?_
  show G T6 (mkF m 86 #[.val (.ref o0), .val (.long q1), .second, .unset, .unset] [(.ref o0), (.int (hd + sz)), (.ref ar)])
  obtain ⟨T7, X7, e7, st7⟩ := getF X6 hx hZ hown (host := "") (Or.inl (ww57 hw)) Via.refl e6 Ft (g := (mkF m 86 #[.val (.ref o0), .val (.long q1), .second, .unset, .unset] [(.ref o0), (.int (hd + sz)), (.ref ar)])) rfl rfl (hb hby d10_86)
  refine step st7 ?_
  show G T7 (mkF m 89 #[.val (.ref o0), .val (.long q1), .second, .unset, .unset] [(.ref ar), (.int (hd + sz)), (.ref ar)])
  have q8 := own_len X7 hx hZ e7 Va (g := (mkF m 89 #[.val (.ref o0), .val (.long q1), .second, .unset, .unset] [(.ref ar), (.int (hd + sz)), (.ref ar)])) rfl rfl (hb hby d10_89)
  refine step q8 ?_
  show G T7 (mkF m 90 #[.val (.ref o0), .val (.long q1), .second, .unset, .unset] [(.int 4), (.int (hd + sz)), (.ref ar)])
  refine step (fun t k => iremM X7 hx rfl (hb hby d10_90) rfl (by decide) k) ?_
  show G T7 (mkF m 91 #[.val (.ref o0), .val (.long q1), .second, .unset, .unset] [(.int ((hd + sz) % (4 : Int32))), (.ref ar)])
  rw [hix]
  show G T7 (mkF m 91 #[.val (.ref o0), .val (.long q1), .second, .unset, .unset] [(.int 2), (.ref ar)])
  refine step (fun t k => XS.lloadN X7.here hx rfl (hb hby d10_91) rfl k) ?_
  show G T7 (mkF m 92 #[.val (.ref o0), .val (.long q1), .second, .unset, .unset] [(.long q1), (.int 2), (.ref ar)])
  obtain ⟨T9, h9, X9, e9, W9, V9, st9⟩ := own_stJ X7 hx hZ e7 Va (j := (2 : Int32)) (by decide) (i := 2) rfl (by show 2 < 4; decide) (g := (mkF m 92 #[.val (.ref o0), .val (.long q1), .second, .unset, .unset] [(.long q1), (.int 2), (.ref ar)])) rfl rfl (hb hby d10_92)
  replace V9 : Arv Z h9 ar ka .long (4 : Int32) [(.long x0), (.long x1), (.long q1), (.long x3)] (.long 0) := V9
  have N9 := Fr.snoc X9 N0 gea
  obtain ⟨lc9, X9, N9⟩ := own_gen X9 N9
  have O9 := O0.wr W9 gea
  have K9 : Keep h0 h9 [o0, ar] := K0.wr W9 (Or.inl (List.mem_of_getElem? (i := 1) rfl))
  refine step st9 ?_
  show G T9 (mkF m 93 #[.val (.ref o0), .val (.long q1), .second, .unset, .unset] [])
  refine step (fun t k => XS.aloadN X9.here hx rfl (hb hby d10_93) rfl rfl k) ?_
  show G T9 (mkF m 94 #[.val (.ref o0), .val (.long q1), .second, .unset, .unset] [(.ref o0)])
  refine step (fun t k => XS.dup X9.here hx rfl (hb hby d10_94) rfl rfl k) ?_
  show G T9 (mkF m 95 #[.val (.ref o0), .val (.long q1), .second, .unset, .unset] [(.ref o0), (.ref o0)])
  have f11 := (Fld.other W9 Fs (Or.inl ne_o0_ar))
  obtain ⟨T10, X10, e10, st10⟩ := getF X9 hx hZ hown (host := "") (Or.inl (ww64 hw)) Via.refl e9 f11 (g := (mkF m 95 #[.val (.ref o0), .val (.long q1), .second, .unset, .unset] [(.ref o0), (.ref o0)])) rfl rfl (hb hby d10_95)
  refine step st10 ?_
  show G T10 (mkF m 98 #[.val (.ref o0), .val (.long q1), .second, .unset, .unset] [(.int sz), (.ref o0)])
  refine step (fun t k => XS.iconst X10.here hx rfl (hb hby d10_98) k) ?_
  show G T10 (mkF m 99 #[.val (.ref o0), .val (.long q1), .second, .unset, .unset] [(.int 1), (.int sz), (.ref o0)])
  refine step (fun t k => XS.iadd X10.here hx rfl (hb hby d10_99) rfl k) ?_
  show G T10 (mkF m 100 #[.val (.ref o0), .val (.long q1), .second, .unset, .unset] [(.int (sz + (1 : Int32))), (.ref o0)])
  rw [hs1]
  show G T10 (mkF m 100 #[.val (.ref o0), .val (.long q1), .second, .unset, .unset] [(.int sz1), (.ref o0)])
  have f13 := (Exa.wr W9 Ex)
  obtain ⟨T12, h12, X12, e12, W12, st12⟩ := putF X10 hx hZ hown (host := "") (Or.inl (ww64 hw)) Via.refl e10 f11 f13 (Or.inl (ww65 hw)) (ww50 hw) (ty := .int) (by decide) rfl rfl (g := (mkF m 100 #[.val (.ref o0), .val (.long q1), .second, .unset, .unset] [(.int sz1), (.ref o0)])) rfl rfl (hb hby d10_100)
  have F12 : Fld Z h12 o0 cn_0 "size" "I" (.int sz1) := Fld.same W12 f11
  have N12 := Fr.snoc X12 N9 geo
  obtain ⟨lc12, X12, N12⟩ := own_gen X12 N12
  have O12 := O9.wr W12 geo
  have K12 : Keep h0 h12 [o0, ar] := K9.wr W12 (Or.inl (List.mem_of_getElem? (i := 0) rfl))
  refine step st12 ?_
  show G T12 (mkF m 103 #[.val (.ref o0), .val (.long q1), .second, .unset, .unset] [])
  have f14 := (Exa.wr W12 f13)
  have f15 := (Fld.other W12 (Fld.other W9 Ft (Or.inl ne_o0_ar)) (Or.inr (slot_ne (Or.inl (ww58 hw)) (Or.inl (ww65 hw)) (by decide) (t := (.array .long)) (t' := .int) (by decide) (by decide))))
  have f16 := (Fld.other W12 (Fld.other W9 Fh (Or.inl ne_o0_ar)) (Or.inr (slot_ne (Or.inl (ww67 hw)) (Or.inl (ww65 hw)) (by decide) (t := .int) (t' := .int) (by decide) (by decide))))
  have f17 := (Arv.other V9 W12 (Ne.symm ne_o0_ar))
  exact ret (v := none) X12 (fun _ => rfl) (fun fs hr => X12.returnOut hx Bd.returns (hb hby d10_103) hr) e12 ⟨rfl, N12, K12, f14, f15, f16, F12, f17⟩ (by decide) (by decide)
theorem ww69 {Z : State} {a0 : Array Value} (hw : ∀ d ∈ tables_1, d.before a0 Z = true) : Jvm.Cond.before (Jvm.Cond.constantLong cn_3 (37 : Nat) (3 : Int64)) a0 Z = true := hw _ (List.mem_of_getElem? (i := 69) rfl)
abbrev rr_add_4_3 : Room := { frames := 0, cells := 0, slots := 0, locals := 0 }
theorem ef_add_4_3 (m : MethodId) (o0 : Addr) (q1 : Int64) : entryFrame m #[(.ref o0), (.long q1)] 5 = mkF m 0 #[.val (.ref o0), .val (.long q1), .second, .unset, .unset] [] := by first | (simp [entryFrame, mkF, argsToLocals, Value.category]; done) | rfl
def Q_add_4_3 (Z : State) (w_0 : Addr) (w_1 : Addr) (w_2 : Addr) (o0 : Addr) (q1 : Int64) (ar : Addr) (ka : ClassId) (x0 : Int64) (x1 : Int64) (x2 : Int64) (x3 : Int64) (hd : Int32) (sz : Int32) (sz1 : Int32) (h0 : Heap) (n0 : Nat) (v : Option Value) (h : Heap) (L : List Loc) : Prop := v = none ∧ Fr n0 L ∧ Keep h0 h [o0, ar] ∧ Exa Z h o0 cn_0 ∧ Fld Z h o0 cn_0 "times" "[J" (.ref ar) ∧ Fld Z h o0 cn_0 "head" "I" (.int hd) ∧ Fld Z h o0 cn_0 "size" "I" (.int sz1) ∧ Arv Z h ar ka .long (4 : Int32) [(.long x0), (.long x1), (.long x2), (.long q1)] (.long 0)
set_option maxRecDepth 65536 in
set_option maxHeartbeats 40000000 in
theorem rm_add_4_3 (l : Launch) (Z : State) (a0 : Array Value) (hw : ∀ d ∈ tables_1, d.before a0 Z = true) (ws : List Jvm.Cond) (w_0 : Addr) (w_1 : Addr) (w_2 : Addr) (o0 : Addr) (q1 : Int64) (ar : Addr) (ka : ClassId) (x0 : Int64) (x1 : Int64) (x2 : Int64) (x3 : Int64) (hd : Int32) (sz : Int32) (sz1 : Int32) (h0 : Heap) (n0 : Nat) (Z0 : n0 ≤ h0.size) (ST : own_St Z w_0 w_1 w_2) (O0 : Old Z n0 h0) (Ex : Exa Z h0 o0 cn_0) (geo : n0 ≤ o0) (Ft : Fld Z h0 o0 cn_0 "times" "[J" (.ref ar)) (gea : n0 ≤ ar) (Fh : Fld Z h0 o0 cn_0 "head" "I" (.int hd)) (Fs : Fld Z h0 o0 cn_0 "size" "I" (.int sz)) (Va : Arv Z h0 ar ka .long (4 : Int32) [(.long x0), (.long x1), (.long x2), (.long x3)] (.long 0)) (hne : ¬ (sz = (4 : Int32))) (hs1 : (sz + (1 : Int32)) = sz1) (hix : ((hd + sz) % (4 : Int32)) = (3 : Int32)) :
    MetFree l y_10 (head1 (Jvm.Cond.code y_10 prog_2_method_4_code 5 none :: ws) rr_add_4_3) (fun a U => a = #[(.ref o0), (.long q1)] ∧ Z.Warmed39 U.vm ∧ U.heap = h0) (fun _ _ _ _ _ => True) (fun _ U o U' => ∃ v L, o = .returned v ∧ Q_add_4_3 Z w_0 w_1 w_2 o0 q1 ar ka x0 x1 x2 x3 hd sz sz1 h0 n0 v U'.heap L ∧ FrameEnd U o U' L rr_add_4_3.cells rr_add_4_3.slots) := by
  refine MetFree.of_bodySF (plainFor_of_name pn_3) hisR ?_
  intro p e s m args below meth c s₁ Bd hml0 hP hK
  obtain ⟨rfl, hZ, hh⟩ := hP
  have hx := Bd.exec
  have hby := Bd.bytes
  have hml : c.maxLocals = 5 := hml0
  have hown : s.vm.findClass cn_0 = some m.cls := findClass_of_methodNamed Bd.named
  have hnm := (name_of_methodNamed Bd.named Bd.method).1
  have X0 : Stand p l e rr_add_4_3 s m #[(.ref o0), (.long q1)] below meth c s₁ [] 0 0 := Stand.of_body Bd
  have e0 : s₁.heap = h0 := by rw [← hh, Bd.state]; rfl
  have N0 := Fr.nil n0
  have K0 : Keep h0 h0 [o0, ar] := Keep.refl _ _
  obtain ⟨G, step, ret, fin⟩ := own_open (p := p) (l := l) (e := e) (R := rr_add_4_3) (s := s) (m := m) (args := #[(.ref o0), (.long q1)]) (below := below) (meth := meth) (c := c) (rr_add_4_3.cells) (rr_add_4_3.slots) (Q_add_4_3 Z w_0 w_1 w_2 o0 q1 ar ka x0 x1 x2 x3 hd sz sz1 h0 n0) Bd.notSynchronized
  refine fin (g := entryFrame m #[(.ref o0), (.long q1)] 5) ?_
  rw [ef_add_4_3 m o0 q1]
  have ne_o0_ar : o0 ≠ ar := own_ne_arv Ex (ww50 hw) Va
  show G s₁ (mkF m 0 #[.val (.ref o0), .val (.long q1), .second, .unset, .unset] [])
  refine step (fun t k => XS.aloadN X0.here hx rfl (hb hby d10_0) rfl rfl k) ?_
  show G s₁ (mkF m 1 #[.val (.ref o0), .val (.long q1), .second, .unset, .unset] [(.ref o0)])
  obtain ⟨T1, X1, e1, st1⟩ := getF X0 hx hZ hown (host := "") (Or.inl (ww64 hw)) Via.refl e0 Fs (g := (mkF m 1 #[.val (.ref o0), .val (.long q1), .second, .unset, .unset] [(.ref o0)])) rfl rfl (hb hby d10_1)
  refine step st1 ?_
  show G T1 (mkF m 4 #[.val (.ref o0), .val (.long q1), .second, .unset, .unset] [(.int sz)])
  refine step (fun t k => XS.aloadN X1.here hx rfl (hb hby d10_4) rfl rfl k) ?_
  show G T1 (mkF m 5 #[.val (.ref o0), .val (.long q1), .second, .unset, .unset] [(.ref o0), (.int sz)])
  obtain ⟨T2, X2, e2, st2⟩ := getF X1 hx hZ hown (host := "") (Or.inl (ww57 hw)) Via.refl e1 Ft (g := (mkF m 5 #[.val (.ref o0), .val (.long q1), .second, .unset, .unset] [(.ref o0), (.int sz)])) rfl rfl (hb hby d10_5)
  refine step st2 ?_
  show G T2 (mkF m 8 #[.val (.ref o0), .val (.long q1), .second, .unset, .unset] [(.ref ar), (.int sz)])
  have q3 := own_len X2 hx hZ e2 Va (g := (mkF m 8 #[.val (.ref o0), .val (.long q1), .second, .unset, .unset] [(.ref ar), (.int sz)])) rfl rfl (hb hby d10_8)
  refine step q3 ?_
  show G T2 (mkF m 9 #[.val (.ref o0), .val (.long q1), .second, .unset, .unset] [(.int 4), (.int sz)])
  refine step (fun t k => XS.icmpYes X2.here hx rfl (pc0 := 9) (pc' := 72) rfl (hb hby d10_9) rfl (feq hne).2 (by decide) (by decide) k) ?_
  show G T2 (mkF m 72 #[.val (.ref o0), .val (.long q1), .second, .unset, .unset] [])
  refine step (fun t k => XS.aloadN X2.here hx rfl (hb hby d10_72) rfl rfl k) ?_
  show G T2 (mkF m 73 #[.val (.ref o0), .val (.long q1), .second, .unset, .unset] [(.ref o0)])
  obtain ⟨T4, X4, e4, st4⟩ := getF X2 hx hZ hown (host := "") (Or.inl (ww57 hw)) Via.refl e2 Ft (g := (mkF m 73 #[.val (.ref o0), .val (.long q1), .second, .unset, .unset] [(.ref o0)])) rfl rfl (hb hby d10_73)
  refine step st4 ?_
  show G T4 (mkF m 76 #[.val (.ref o0), .val (.long q1), .second, .unset, .unset] [(.ref ar)])
  refine step (fun t k => XS.aloadN X4.here hx rfl (hb hby d10_76) rfl rfl k) ?_
  show G T4 (mkF m 77 #[.val (.ref o0), .val (.long q1), .second, .unset, .unset] [(.ref o0), (.ref ar)])
  obtain ⟨T5, X5, e5, st5⟩ := getF X4 hx hZ hown (host := "") (Or.inl (ww66 hw)) Via.refl e4 Fh (g := (mkF m 77 #[.val (.ref o0), .val (.long q1), .second, .unset, .unset] [(.ref o0), (.ref ar)])) rfl rfl (hb hby d10_77)
  refine step st5 ?_
  show G T5 (mkF m 80 #[.val (.ref o0), .val (.long q1), .second, .unset, .unset] [(.int hd), (.ref ar)])
  refine step (fun t k => XS.aloadN X5.here hx rfl (hb hby d10_80) rfl rfl k) ?_
  show G T5 (mkF m 81 #[.val (.ref o0), .val (.long q1), .second, .unset, .unset] [(.ref o0), (.int hd), (.ref ar)])
  obtain ⟨T6, X6, e6, st6⟩ := getF X5 hx hZ hown (host := "") (Or.inl (ww64 hw)) Via.refl e5 Fs (g := (mkF m 81 #[.val (.ref o0), .val (.long q1), .second, .unset, .unset] [(.ref o0), (.int hd), (.ref ar)])) rfl rfl (hb hby d10_81)
  refine step st6 ?_
  show G T6 (mkF m 84 #[.val (.ref o0), .val (.long q1), .second, .unset, .unset] [(.int sz), (.int hd), (.ref ar)])
  refine step (fun t k => XS.iadd X6.here hx rfl (hb hby d10_84) rfl k) ?_
  show G T6 (mkF m 85 #[.val (.ref o0), .val (.long q1), .second, .unset, .unset] [(.int (hd + sz)), (.ref ar)])
  refine step (fun t k => XS.aloadN X6.here hx rfl (hb hby d10_85) rfl rfl k) ?_
  show G T6 (mkF m 86 #[.val (.ref o0), .val (.long q1), .second, .unset, .unset] [(.ref o0), (.int (hd + sz)), (.ref ar)])
  obtain ⟨T7, X7, e7, st7⟩ := getF X6 hx hZ hown (host := "") (Or.inl (ww57 hw)) Via.refl e6 Ft (g := (mkF m 86 #[.val (.ref o0), .val (.long q1), .second, .unset, .unset] [(.ref o0), (.int (hd + sz)), (.ref ar)])) rfl rfl (hb hby d10_86)
  refine step st7 ?_
  show G T7 (mkF m 89 #[.val (.ref o0), .val (.long q1), .second, .unset, .unset] [(.ref ar), (.int (hd + sz)), (.ref ar)])
  have q8 := own_len X7 hx hZ e7 Va (g := (mkF m 89 #[.val (.ref o0), .val (.long q1), .second, .unset, .unset] [(.ref ar), (.int (hd + sz)), (.ref ar)])) rfl rfl (hb hby d10_89)
  refine step q8 ?_
  show G T7 (mkF m 90 #[.val (.ref o0), .val (.long q1), .second, .unset, .unset] [(.int 4), (.int (hd + sz)), (.ref ar)])
  refine step (fun t k => iremM X7 hx rfl (hb hby d10_90) rfl (by decide) k) ?_
  show G T7 (mkF m 91 #[.val (.ref o0), .val (.long q1), .second, .unset, .unset] [(.int ((hd + sz) % (4 : Int32))), (.ref ar)])
  rw [hix]
  show G T7 (mkF m 91 #[.val (.ref o0), .val (.long q1), .second, .unset, .unset] [(.int 3), (.ref ar)])
  refine step (fun t k => XS.lloadN X7.here hx rfl (hb hby d10_91) rfl k) ?_
  show G T7 (mkF m 92 #[.val (.ref o0), .val (.long q1), .second, .unset, .unset] [(.long q1), (.int 3), (.ref ar)])
  obtain ⟨T9, h9, X9, e9, W9, V9, st9⟩ := own_stJ X7 hx hZ e7 Va (j := (3 : Int32)) (by decide) (i := 3) rfl (by show 3 < 4; decide) (g := (mkF m 92 #[.val (.ref o0), .val (.long q1), .second, .unset, .unset] [(.long q1), (.int 3), (.ref ar)])) rfl rfl (hb hby d10_92)
  replace V9 : Arv Z h9 ar ka .long (4 : Int32) [(.long x0), (.long x1), (.long x2), (.long q1)] (.long 0) := V9
  have N9 := Fr.snoc X9 N0 gea
  obtain ⟨lc9, X9, N9⟩ := own_gen X9 N9
  have O9 := O0.wr W9 gea
  have K9 : Keep h0 h9 [o0, ar] := K0.wr W9 (Or.inl (List.mem_of_getElem? (i := 1) rfl))
  refine step st9 ?_
  show G T9 (mkF m 93 #[.val (.ref o0), .val (.long q1), .second, .unset, .unset] [])
  refine step (fun t k => XS.aloadN X9.here hx rfl (hb hby d10_93) rfl rfl k) ?_
  show G T9 (mkF m 94 #[.val (.ref o0), .val (.long q1), .second, .unset, .unset] [(.ref o0)])
  refine step (fun t k => XS.dup X9.here hx rfl (hb hby d10_94) rfl rfl k) ?_
  show G T9 (mkF m 95 #[.val (.ref o0), .val (.long q1), .second, .unset, .unset] [(.ref o0), (.ref o0)])
  have f11 := (Fld.other W9 Fs (Or.inl ne_o0_ar))
  obtain ⟨T10, X10, e10, st10⟩ := getF X9 hx hZ hown (host := "") (Or.inl (ww64 hw)) Via.refl e9 f11 (g := (mkF m 95 #[.val (.ref o0), .val (.long q1), .second, .unset, .unset] [(.ref o0), (.ref o0)])) rfl rfl (hb hby d10_95)
  refine step st10 ?_
  show G T10 (mkF m 98 #[.val (.ref o0), .val (.long q1), .second, .unset, .unset] [(.int sz), (.ref o0)])
  refine step (fun t k => XS.iconst X10.here hx rfl (hb hby d10_98) k) ?_
  show G T10 (mkF m 99 #[.val (.ref o0), .val (.long q1), .second, .unset, .unset] [(.int 1), (.int sz), (.ref o0)])
  refine step (fun t k => XS.iadd X10.here hx rfl (hb hby d10_99) rfl k) ?_
  show G T10 (mkF m 100 #[.val (.ref o0), .val (.long q1), .second, .unset, .unset] [(.int (sz + (1 : Int32))), (.ref o0)])
  rw [hs1]
  show G T10 (mkF m 100 #[.val (.ref o0), .val (.long q1), .second, .unset, .unset] [(.int sz1), (.ref o0)])
  have f13 := (Exa.wr W9 Ex)
  obtain ⟨T12, h12, X12, e12, W12, st12⟩ := putF X10 hx hZ hown (host := "") (Or.inl (ww64 hw)) Via.refl e10 f11 f13 (Or.inl (ww65 hw)) (ww50 hw) (ty := .int) (by decide) rfl rfl (g := (mkF m 100 #[.val (.ref o0), .val (.long q1), .second, .unset, .unset] [(.int sz1), (.ref o0)])) rfl rfl (hb hby d10_100)
  have F12 : Fld Z h12 o0 cn_0 "size" "I" (.int sz1) := Fld.same W12 f11
  have N12 := Fr.snoc X12 N9 geo
  obtain ⟨lc12, X12, N12⟩ := own_gen X12 N12
  have O12 := O9.wr W12 geo
  have K12 : Keep h0 h12 [o0, ar] := K9.wr W12 (Or.inl (List.mem_of_getElem? (i := 0) rfl))
  refine step st12 ?_
  show G T12 (mkF m 103 #[.val (.ref o0), .val (.long q1), .second, .unset, .unset] [])
  have f14 := (Exa.wr W12 f13)
  have f15 := (Fld.other W12 (Fld.other W9 Ft (Or.inl ne_o0_ar)) (Or.inr (slot_ne (Or.inl (ww58 hw)) (Or.inl (ww65 hw)) (by decide) (t := (.array .long)) (t' := .int) (by decide) (by decide))))
  have f16 := (Fld.other W12 (Fld.other W9 Fh (Or.inl ne_o0_ar)) (Or.inr (slot_ne (Or.inl (ww67 hw)) (Or.inl (ww65 hw)) (by decide) (t := .int) (t' := .int) (by decide) (by decide))))
  have f17 := (Arv.other V9 W12 (Ne.symm ne_o0_ar))
  exact ret (v := none) X12 (fun _ => rfl) (fun fs hr => X12.returnOut hx Bd.returns (hb hby d10_103) hr) e12 ⟨rfl, N12, K12, f14, f15, f16, F12, f17⟩ (by decide) (by decide)
theorem ww70 {Z : State} {a0 : Array Value} (hw : ∀ d ∈ tables_1, d.before a0 Z = true) : Jvm.Cond.before (Jvm.Cond.methodLink cn_3 (39 : Nat) ({ cls := cn_0, name := "countAt", desc := cn_6 } : Jvm.MethodName)) a0 Z = true := hw _ (List.mem_of_getElem? (i := 70) rfl)
theorem ww73 {Z : State} {a0 : Array Value} (hw : ∀ d ∈ tables_1, d.before a0 Z = true) : Jvm.Cond.before (Jvm.Cond.selects cn_0 ({ cls := cn_0, name := "countAt", desc := cn_6 } : Jvm.MethodName) ({ cls := cn_0, name := "countAt", desc := cn_6 } : Jvm.MethodName)) a0 Z = true := hw _ (List.mem_of_getElem? (i := 73) rfl)
theorem d11_0 : decode prog_2_method_5_code 0 = .ok (.aload_n 0, 1) := by decide +kernel
theorem d11_1 : decode prog_2_method_5_code 1 = .ok (.getfield 43, 3) := by decide +kernel
theorem d11_4 : decode prog_2_method_5_code 4 = .ok (.ifCond .le 46, 3) := by decide +kernel
theorem d11_7 : decode prog_2_method_5_code 7 = .ok (.aload_n 0, 1) := by decide +kernel
theorem d11_8 : decode prog_2_method_5_code 8 = .ok (.getfield 7, 3) := by decide +kernel
theorem d11_11 : decode prog_2_method_5_code 11 = .ok (.aload_n 0, 1) := by decide +kernel
theorem d11_12 : decode prog_2_method_5_code 12 = .ok (.getfield 47, 3) := by decide +kernel
theorem d11_15 : decode prog_2_method_5_code 15 = .ok (.laload, 1) := by decide +kernel
theorem d11_16 : decode prog_2_method_5_code 16 = .ok (.lload_n 1, 1) := by decide +kernel
theorem d11_17 : decode prog_2_method_5_code 17 = .ok (.lcmp, 1) := by decide +kernel
theorem d11_18 : decode prog_2_method_5_code 18 = .ok (.ifCond .gt 32, 3) := by decide +kernel
theorem d11_50 : decode prog_2_method_5_code 50 = .ok (.return_, 1) := by decide +kernel
abbrev rr_for0_4 : Room := { frames := 0, cells := 0, slots := 0, locals := 0 }
abbrev y_11 : MethodName := ⟨cn_0, "forgetThrough", "(J)V"⟩
theorem ef_for0_4 (m : MethodId) (o0 : Addr) (q1 : Int64) : entryFrame m #[(.ref o0), (.long q1)] 3 = mkF m 0 #[.val (.ref o0), .val (.long q1), .second] [] := by first | (simp [entryFrame, mkF, argsToLocals, Value.category]; done) | rfl
def Q_for0_4 (Z : State) (w_0 : Addr) (w_1 : Addr) (w_2 : Addr) (o0 : Addr) (q1 : Int64) (ar : Addr) (ka : ClassId) (x0 : Int64) (x1 : Int64) (x2 : Int64) (x3 : Int64) (hd : Int32) (sz : Int32) (h0 : Heap) (n0 : Nat) (v : Option Value) (h : Heap) (L : List Loc) : Prop := v = none ∧ Fr n0 L ∧ Keep h0 h [o0] ∧ Exa Z h o0 cn_0 ∧ Fld Z h o0 cn_0 "times" "[J" (.ref ar) ∧ Fld Z h o0 cn_0 "head" "I" (.int hd) ∧ Fld Z h o0 cn_0 "size" "I" (.int sz)
set_option maxRecDepth 65536 in
set_option maxHeartbeats 40000000 in
theorem rm_for0_4 (l : Launch) (Z : State) (a0 : Array Value) (hw : ∀ d ∈ tables_1, d.before a0 Z = true) (ws : List Jvm.Cond) (w_0 : Addr) (w_1 : Addr) (w_2 : Addr) (o0 : Addr) (q1 : Int64) (ar : Addr) (ka : ClassId) (x0 : Int64) (x1 : Int64) (x2 : Int64) (x3 : Int64) (hd : Int32) (sz : Int32) (h0 : Heap) (n0 : Nat) (Z0 : n0 ≤ h0.size) (ST : own_St Z w_0 w_1 w_2) (O0 : Old Z n0 h0) (Ex : Exa Z h0 o0 cn_0) (geo : n0 ≤ o0) (Ft : Fld Z h0 o0 cn_0 "times" "[J" (.ref ar)) (gea : n0 ≤ ar) (Fh : Fld Z h0 o0 cn_0 "head" "I" (.int hd)) (Fs : Fld Z h0 o0 cn_0 "size" "I" (.int sz)) (Va : Arv Z h0 ar ka .long (4 : Int32) [(.long x0), (.long x1), (.long x2), (.long x3)] (.long 0)) (hs0 : (0 : Int32) < sz) (hin : ¬ hd < 0 ∧ hd < (4 : Int32)) (hlt : q1 < (own_at4 x0 x1 x2 x3 hd)) :
    MetFree l y_11 (head1 (Jvm.Cond.code y_11 prog_2_method_5_code 3 none :: ws) rr_for0_4) (fun a U => a = #[(.ref o0), (.long q1)] ∧ Z.Warmed39 U.vm ∧ U.heap = h0) (fun _ _ _ _ _ => True) (fun _ U o U' => ∃ v L, o = .returned v ∧ Q_for0_4 Z w_0 w_1 w_2 o0 q1 ar ka x0 x1 x2 x3 hd sz h0 n0 v U'.heap L ∧ FrameEnd U o U' L rr_for0_4.cells rr_for0_4.slots) := by
  refine MetFree.of_bodySF (plainFor_of_name pn_3) hisR ?_
  intro p e s m args below meth c s₁ Bd hml0 hP hK
  obtain ⟨rfl, hZ, hh⟩ := hP
  have hx := Bd.exec
  have hby := Bd.bytes
  have hml : c.maxLocals = 3 := hml0
  have hown : s.vm.findClass cn_0 = some m.cls := findClass_of_methodNamed Bd.named
  have hnm := (name_of_methodNamed Bd.named Bd.method).1
  have X0 : Stand p l e rr_for0_4 s m #[(.ref o0), (.long q1)] below meth c s₁ [] 0 0 := Stand.of_body Bd
  have e0 : s₁.heap = h0 := by rw [← hh, Bd.state]; rfl
  have N0 := Fr.nil n0
  have K0 : Keep h0 h0 [o0] := Keep.refl _ _
  obtain ⟨G, step, ret, fin⟩ := own_open (p := p) (l := l) (e := e) (R := rr_for0_4) (s := s) (m := m) (args := #[(.ref o0), (.long q1)]) (below := below) (meth := meth) (c := c) (rr_for0_4.cells) (rr_for0_4.slots) (Q_for0_4 Z w_0 w_1 w_2 o0 q1 ar ka x0 x1 x2 x3 hd sz h0 n0) Bd.notSynchronized
  refine fin (g := entryFrame m #[(.ref o0), (.long q1)] 3) ?_
  rw [ef_for0_4 m o0 q1]
  have ne_o0_ar : o0 ≠ ar := own_ne_arv Ex (ww50 hw) Va
  show G s₁ (mkF m 0 #[.val (.ref o0), .val (.long q1), .second] [])
  refine step (fun t k => XS.aloadN X0.here hx rfl (hb hby d11_0) rfl rfl k) ?_
  show G s₁ (mkF m 1 #[.val (.ref o0), .val (.long q1), .second] [(.ref o0)])
  obtain ⟨T1, X1, e1, st1⟩ := getF X0 hx hZ hown (host := "") (Or.inl (ww64 hw)) Via.refl e0 Fs (g := (mkF m 1 #[.val (.ref o0), .val (.long q1), .second] [(.ref o0)])) rfl rfl (hb hby d11_1)
  refine step st1 ?_
  show G T1 (mkF m 4 #[.val (.ref o0), .val (.long q1), .second] [(.int sz)])
  refine step (fun t k => XS.ifNo X1.here hx rfl (hb hby d11_4) rfl ((if0 _ _).trans (tlt hs0).2.2.2) k) ?_
  show G T1 (mkF m 7 #[.val (.ref o0), .val (.long q1), .second] [])
  refine step (fun t k => XS.aloadN X1.here hx rfl (hb hby d11_7) rfl rfl k) ?_
  show G T1 (mkF m 8 #[.val (.ref o0), .val (.long q1), .second] [(.ref o0)])
  obtain ⟨T2, X2, e2, st2⟩ := getF X1 hx hZ hown (host := "") (Or.inl (ww57 hw)) Via.refl e1 Ft (g := (mkF m 8 #[.val (.ref o0), .val (.long q1), .second] [(.ref o0)])) rfl rfl (hb hby d11_8)
  refine step st2 ?_
  show G T2 (mkF m 11 #[.val (.ref o0), .val (.long q1), .second] [(.ref ar)])
  refine step (fun t k => XS.aloadN X2.here hx rfl (hb hby d11_11) rfl rfl k) ?_
  show G T2 (mkF m 12 #[.val (.ref o0), .val (.long q1), .second] [(.ref o0), (.ref ar)])
  obtain ⟨T3, X3, e3, st3⟩ := getF X2 hx hZ hown (host := "") (Or.inl (ww66 hw)) Via.refl e2 Fh (g := (mkF m 12 #[.val (.ref o0), .val (.long q1), .second] [(.ref o0), (.ref ar)])) rfl rfl (hb hby d11_12)
  refine step st3 ?_
  show G T3 (mkF m 15 #[.val (.ref o0), .val (.long q1), .second] [(.int hd), (.ref ar)])
  have q4 := own_ldJ X3 hx hZ e3 Va (j := hd) (v := .long (own_at4 x0 x1 x2 x3 hd)) hin (own_get4 hin) (g := (mkF m 15 #[.val (.ref o0), .val (.long q1), .second] [(.int hd), (.ref ar)])) rfl rfl (hb hby d11_15)
  refine step q4 ?_
  show G T3 (mkF m 16 #[.val (.ref o0), .val (.long q1), .second] [(.long (own_at4 x0 x1 x2 x3 hd))])
  refine step (fun t k => XS.lloadN X3.here hx rfl (hb hby d11_16) rfl k) ?_
  show G T3 (mkF m 17 #[.val (.ref o0), .val (.long q1), .second] [(.long q1), (.long (own_at4 x0 x1 x2 x3 hd))])
  refine step (fun t k => XS.lcmp X3.here hx rfl (hb hby d11_17) rfl k) ?_
  show G T3 (mkF m 18 #[.val (.ref o0), .val (.long q1), .second] [(.int (lcmpW (own_at4 x0 x1 x2 x3 hd) q1))])
  refine step (fun t k => XS.ifYes X3.here hx rfl (pc0 := 18) (pc' := 50) rfl (hb hby d11_18) rfl ((if0 _ _).trans (tlt ((lw_gt _ _).mpr hlt)).2.2.1) (by decide) (by decide) k) ?_
  show G T3 (mkF m 50 #[.val (.ref o0), .val (.long q1), .second] [])
  exact ret (v := none) X3 (fun _ => rfl) (fun fs hr => X3.returnOut hx Bd.returns (hb hby d11_50) hr) e3 ⟨rfl, N0, K0, Ex, Ft, Fh, Fs⟩ (by decide) (by decide)
abbrev y_12 : MethodName := ⟨cn_2, "ordinal", "()I"⟩
theorem d12_0 : decode prog_2_method_2_code 0 = .ok (.getstatic 13, 3) := by decide +kernel
theorem ww75 {Z : State} {a0 : Array Value} (hw : ∀ d ∈ tables_1, d.before a0 Z = true) : Jvm.Cond.before (Jvm.Cond.fieldLink cn_0 (13 : Nat) cn_10 "$SwitchMap$com$example$tempogate$tempogate$rules$Window$Type" "[I") a0 Z = true := hw _ (List.mem_of_getElem? (i := 75) rfl)
theorem d12_3 : decode prog_2_method_2_code 3 = .ok (.aload_n 1, 1) := by decide +kernel
theorem d12_4 : decode prog_2_method_2_code 4 = .ok (.invokevirtual 19, 3) := by decide +kernel
theorem ww78 {Z : State} {a0 : Array Value} (hw : ∀ d ∈ tables_1, d.before a0 Z = true) : Jvm.Cond.before (Jvm.Cond.methodLink cn_0 (19 : Nat) ({ cls := cn_1, name := "type", desc := cn_5 } : Jvm.MethodName)) a0 Z = true := hw _ (List.mem_of_getElem? (i := 78) rfl)
theorem ww81 {Z : State} {a0 : Array Value} (hw : ∀ d ∈ tables_1, d.before a0 Z = true) : Jvm.Cond.before (Jvm.Cond.selects cn_1 ({ cls := cn_1, name := "type", desc := cn_5 } : Jvm.MethodName) ({ cls := cn_1, name := "type", desc := cn_5 } : Jvm.MethodName)) a0 Z = true := hw _ (List.mem_of_getElem? (i := 81) rfl)
theorem ww82 {Z : State} {a0 : Array Value} (hw : ∀ d ∈ tables_1, d.before a0 Z = true) : Jvm.Cond.before (Jvm.Cond.code ({ cls := cn_1, name := "type", desc := cn_5 } : Jvm.MethodName) prog_21_method_7_code (1 : Nat) (Option.some (Jvm.ClassFile.FieldType.object cn_2))) a0 Z = true := hw _ (List.mem_of_getElem? (i := 82) rfl)
theorem pd_6 : parseMethodDescriptor cn_5 = some ⟨[], some (.object cn_2)⟩ := by decide +kernel
theorem ww79 {Z : State} {a0 : Array Value} (hw : ∀ d ∈ tables_1, d.before a0 Z = true) : Jvm.Cond.before (Jvm.Cond.declares ({ cls := cn_1, name := "type", desc := cn_5 } : Jvm.MethodName)) a0 Z = true := hw _ (List.mem_of_getElem? (i := 79) rfl)
theorem ww80 {Z : State} {a0 : Array Value} (hw : ∀ d ∈ tables_1, d.before a0 Z = true) : Jvm.Cond.before (Jvm.Cond.instanceMethod ({ cls := cn_1, name := "type", desc := cn_5 } : Jvm.MethodName)) a0 Z = true := hw _ (List.mem_of_getElem? (i := 80) rfl)
theorem d12_7 : decode prog_2_method_2_code 7 = .ok (.invokevirtual 25, 3) := by decide +kernel
theorem ww83 {Z : State} {a0 : Array Value} (hw : ∀ d ∈ tables_1, d.before a0 Z = true) : Jvm.Cond.before (Jvm.Cond.methodLink cn_0 (25 : Nat) ({ cls := cn_2, name := "ordinal", desc := "()I" } : Jvm.MethodName)) a0 Z = true := hw _ (List.mem_of_getElem? (i := 83) rfl)
theorem ww87 {Z : State} {a0 : Array Value} (hw : ∀ d ∈ tables_1, d.before a0 Z = true) : Jvm.Cond.before (Jvm.Cond.selects cn_2 ({ cls := cn_2, name := "ordinal", desc := "()I" } : Jvm.MethodName) ({ cls := cn_7, name := "ordinal", desc := "()I" } : Jvm.MethodName)) a0 Z = true := hw _ (List.mem_of_getElem? (i := 87) rfl)
theorem ww89 {Z : State} {a0 : Array Value} (hw : ∀ d ∈ tables_1, d.before a0 Z = true) : Jvm.Cond.before (Jvm.Cond.code ({ cls := cn_7, name := "ordinal", desc := "()I" } : Jvm.MethodName) jdk_37_method_2_code (1 : Nat) (Option.some Jvm.ClassFile.FieldType.int)) a0 Z = true := hw _ (List.mem_of_getElem? (i := 89) rfl)
theorem ww88 {Z : State} {a0 : Array Value} (hw : ∀ d ∈ tables_1, d.before a0 Z = true) : Jvm.Cond.before (Jvm.Cond.initialized cn_7) a0 Z = true := hw _ (List.mem_of_getElem? (i := 88) rfl)
theorem pd_7 : parseMethodDescriptor "()I" = some ⟨[], some .int⟩ := by decide +kernel
theorem ww84 {Z : State} {a0 : Array Value} (hw : ∀ d ∈ tables_1, d.before a0 Z = true) : Jvm.Cond.before (Jvm.Cond.sameMethod cn_2 cn_7 "ordinal" "()I") a0 Z = true := hw _ (List.mem_of_getElem? (i := 84) rfl)
theorem ww85 {Z : State} {a0 : Array Value} (hw : ∀ d ∈ tables_1, d.before a0 Z = true) : Jvm.Cond.before (Jvm.Cond.declares ({ cls := cn_7, name := "ordinal", desc := "()I" } : Jvm.MethodName)) a0 Z = true := hw _ (List.mem_of_getElem? (i := 85) rfl)
theorem ww86 {Z : State} {a0 : Array Value} (hw : ∀ d ∈ tables_1, d.before a0 Z = true) : Jvm.Cond.before (Jvm.Cond.instanceMethod ({ cls := cn_7, name := "ordinal", desc := "()I" } : Jvm.MethodName)) a0 Z = true := hw _ (List.mem_of_getElem? (i := 86) rfl)
theorem d12_10 : decode prog_2_method_2_code 10 = .ok (.iaload, 1) := by decide +kernel
theorem d12_11 : decode prog_2_method_2_code 11 = .ok (.tableswitch 101 1 3 #[25, 38, 52], 25) := by decide +kernel
theorem d12_36 : decode prog_2_method_2_code 36 = .ok (.aload_n 0, 1) := by decide +kernel
theorem d12_37 : decode prog_2_method_2_code 37 = .ok (.lload_n 2, 1) := by decide +kernel
theorem d12_38 : decode prog_2_method_2_code 38 = .ok (.aload_n 1, 1) := by decide +kernel
theorem d12_39 : decode prog_2_method_2_code 39 = .ok (.invokevirtual 31, 3) := by decide +kernel
theorem ww92 {Z : State} {a0 : Array Value} (hw : ∀ d ∈ tables_1, d.before a0 Z = true) : Jvm.Cond.before (Jvm.Cond.methodLink cn_0 (31 : Nat) ({ cls := cn_1, name := "millis", desc := "()J" } : Jvm.MethodName)) a0 Z = true := hw _ (List.mem_of_getElem? (i := 92) rfl)
theorem ww95 {Z : State} {a0 : Array Value} (hw : ∀ d ∈ tables_1, d.before a0 Z = true) : Jvm.Cond.before (Jvm.Cond.selects cn_1 ({ cls := cn_1, name := "millis", desc := "()J" } : Jvm.MethodName) ({ cls := cn_1, name := "millis", desc := "()J" } : Jvm.MethodName)) a0 Z = true := hw _ (List.mem_of_getElem? (i := 95) rfl)
theorem ww96 {Z : State} {a0 : Array Value} (hw : ∀ d ∈ tables_1, d.before a0 Z = true) : Jvm.Cond.before (Jvm.Cond.code ({ cls := cn_1, name := "millis", desc := "()J" } : Jvm.MethodName) prog_21_method_8_code (1 : Nat) (Option.some Jvm.ClassFile.FieldType.long)) a0 Z = true := hw _ (List.mem_of_getElem? (i := 96) rfl)
theorem pd_8 : parseMethodDescriptor "()J" = some ⟨[], some .long⟩ := by decide +kernel
theorem ww93 {Z : State} {a0 : Array Value} (hw : ∀ d ∈ tables_1, d.before a0 Z = true) : Jvm.Cond.before (Jvm.Cond.declares ({ cls := cn_1, name := "millis", desc := "()J" } : Jvm.MethodName)) a0 Z = true := hw _ (List.mem_of_getElem? (i := 93) rfl)
theorem ww94 {Z : State} {a0 : Array Value} (hw : ∀ d ∈ tables_1, d.before a0 Z = true) : Jvm.Cond.before (Jvm.Cond.instanceMethod ({ cls := cn_1, name := "millis", desc := "()J" } : Jvm.MethodName)) a0 Z = true := hw _ (List.mem_of_getElem? (i := 94) rfl)
theorem d12_42 : decode prog_2_method_2_code 42 = .ok (.lsub, 1) := by decide +kernel
theorem d12_43 : decode prog_2_method_2_code 43 = .ok (.invokevirtual 35, 3) := by decide +kernel
theorem ww97 {Z : State} {a0 : Array Value} (hw : ∀ d ∈ tables_1, d.before a0 Z = true) : Jvm.Cond.before (Jvm.Cond.methodLink cn_0 (35 : Nat) ({ cls := cn_0, name := "forgetThrough", desc := "(J)V" } : Jvm.MethodName)) a0 Z = true := hw _ (List.mem_of_getElem? (i := 97) rfl)
theorem ww100 {Z : State} {a0 : Array Value} (hw : ∀ d ∈ tables_1, d.before a0 Z = true) : Jvm.Cond.before (Jvm.Cond.code ({ cls := cn_0, name := "forgetThrough", desc := "(J)V" } : Jvm.MethodName) prog_2_method_5_code (3 : Nat) (Option.none : Option Jvm.ClassFile.FieldType)) a0 Z = true := hw _ (List.mem_of_getElem? (i := 100) rfl)
theorem ww98 {Z : State} {a0 : Array Value} (hw : ∀ d ∈ tables_1, d.before a0 Z = true) : Jvm.Cond.before (Jvm.Cond.instanceMethod ({ cls := cn_0, name := "forgetThrough", desc := "(J)V" } : Jvm.MethodName)) a0 Z = true := hw _ (List.mem_of_getElem? (i := 98) rfl)
theorem ww99 {Z : State} {a0 : Array Value} (hw : ∀ d ∈ tables_1, d.before a0 Z = true) : Jvm.Cond.before (Jvm.Cond.privateMethod ({ cls := cn_0, name := "forgetThrough", desc := "(J)V" } : Jvm.MethodName)) a0 Z = true := hw _ (List.mem_of_getElem? (i := 99) rfl)
theorem d12_46 : decode prog_2_method_2_code 46 = .ok (.goto 86, 3) := by decide +kernel
theorem d12_132 : decode prog_2_method_2_code 132 = .ok (.aload_n 0, 1) := by decide +kernel
theorem d12_133 : decode prog_2_method_2_code 133 = .ok (.getfield 43, 3) := by decide +kernel
theorem d12_136 : decode prog_2_method_2_code 136 = .ok (.ireturn, 1) := by decide +kernel
abbrev rr_cnt0_4 : Room := { frames := 1, cells := 0, slots := 0, locals := 15 }
abbrev y_13 : MethodName := ⟨cn_0, "countAt", cn_6⟩
theorem ef_cnt0_4 (m : MethodId) (o0 : Addr) (o1 : Addr) (q2 : Int64) : entryFrame m #[(.ref o0), (.ref o1), (.long q2)] 4 = mkF m 0 #[.val (.ref o0), .val (.ref o1), .val (.long q2), .second] [] := by first | (simp [entryFrame, mkF, argsToLocals, Value.category]; done) | rfl
def Q_cnt0_4 (Z : State) (w_0 : Addr) (w_1 : Addr) (w_2 : Addr) (o0 : Addr) (o1 : Addr) (q2 : Int64) (ar : Addr) (ka : ClassId) (x0 : Int64) (x1 : Int64) (x2 : Int64) (x3 : Int64) (hd : Int32) (sz : Int32) (mm : Int64) (h0 : Heap) (n0 : Nat) (v : Option Value) (h : Heap) (L : List Loc) : Prop := v = some (.int sz) ∧ Fr n0 L ∧ Keep h0 h [o0] ∧ Exa Z h o0 cn_0 ∧ Fld Z h o0 cn_0 "times" "[J" (.ref ar) ∧ Fld Z h o0 cn_0 "head" "I" (.int hd) ∧ Fld Z h o0 cn_0 "size" "I" (.int sz)
set_option maxRecDepth 65536 in
set_option maxHeartbeats 40000000 in
theorem rm_cnt0_4 (l : Launch) (Z : State) (a0 : Array Value) (hw : ∀ d ∈ tables_1, d.before a0 Z = true) (ws : List Jvm.Cond) (w_0 : Addr) (w_1 : Addr) (w_2 : Addr) (o0 : Addr) (o1 : Addr) (q2 : Int64) (ar : Addr) (ka : ClassId) (x0 : Int64) (x1 : Int64) (x2 : Int64) (x3 : Int64) (hd : Int32) (sz : Int32) (mm : Int64) (h0 : Heap) (n0 : Nat) (Z0 : n0 ≤ h0.size) (ST : own_St Z w_0 w_1 w_2) (O0 : Old Z n0 h0) (Ex : Exa Z h0 o0 cn_0) (geo : n0 ≤ o0) (Ft : Fld Z h0 o0 cn_0 "times" "[J" (.ref ar)) (gea : n0 ≤ ar) (Fh : Fld Z h0 o0 cn_0 "head" "I" (.int hd)) (Fs : Fld Z h0 o0 cn_0 "size" "I" (.int sz)) (Va : Arv Z h0 ar ka .long (4 : Int32) [(.long x0), (.long x1), (.long x2), (.long x3)] (.long 0)) (hs0 : (0 : Int32) < sz) (hin : ¬ hd < 0 ∧ hd < (4 : Int32)) (Ew : Exa Z h0 o1 cn_1) (Fwt : Fld Z h0 o1 cn_1 "type" cn_4 (.ref w_0)) (Fwm : Fld Z h0 o1 cn_1 "millis" "J" (.long mm)) (hlt : (q2 - mm) < (own_at4 x0 x1 x2 x3 hd)) :
    MetFree l y_13 (head1 (Jvm.Cond.code y_13 prog_2_method_2_code 4 (some .int) :: ws) rr_cnt0_4) (fun a U => a = #[(.ref o0), (.ref o1), (.long q2)] ∧ Z.Warmed39 U.vm ∧ U.heap = h0) (fun _ _ _ _ _ => True) (fun _ U o U' => ∃ v L, o = .returned v ∧ Q_cnt0_4 Z w_0 w_1 w_2 o0 o1 q2 ar ka x0 x1 x2 x3 hd sz mm h0 n0 v U'.heap L ∧ FrameEnd U o U' L rr_cnt0_4.cells rr_cnt0_4.slots) := by
  refine MetFree.of_bodySF (plainFor_of_name pn_3) hisR ?_
  intro p e s m args below meth c s₁ Bd hml0 hP hK
  obtain ⟨rfl, hZ, hh⟩ := hP
  have hx := Bd.exec
  have hby := Bd.bytes
  have hml : c.maxLocals = 4 := hml0
  have hown : s.vm.findClass cn_0 = some m.cls := findClass_of_methodNamed Bd.named
  have hnm := (name_of_methodNamed Bd.named Bd.method).1
  have X0 : Stand p l e rr_cnt0_4 s m #[(.ref o0), (.ref o1), (.long q2)] below meth c s₁ [] 0 0 := Stand.of_body Bd
  have e0 : s₁.heap = h0 := by rw [← hh, Bd.state]; rfl
  have N0 := Fr.nil n0
  have K0 : Keep h0 h0 [o0] := Keep.refl _ _
  obtain ⟨G, step, ret, fin⟩ := own_open (p := p) (l := l) (e := e) (R := rr_cnt0_4) (s := s) (m := m) (args := #[(.ref o0), (.ref o1), (.long q2)]) (below := below) (meth := meth) (c := c) (rr_cnt0_4.cells) (rr_cnt0_4.slots) (Q_cnt0_4 Z w_0 w_1 w_2 o0 o1 q2 ar ka x0 x1 x2 x3 hd sz mm h0 n0) Bd.notSynchronized
  refine fin (g := entryFrame m #[(.ref o0), (.ref o1), (.long q2)] 4) ?_
  rw [ef_cnt0_4 m o0 o1 q2]
  have ne_o0_o1 : o0 ≠ o1 := ne_exa Ex Ew (by decide)
  have ne_o0_ar : o0 ≠ ar := own_ne_arv Ex (ww50 hw) Va
  have ne_o1_ar : o1 ≠ ar := own_ne_arv Ew (ww14 hw) Va
  show G s₁ (mkF m 0 #[.val (.ref o0), .val (.ref o1), .val (.long q2), .second] [])
  obtain ⟨T1, X1, e1, st1⟩ := getS2 X0 hx hZ hown (host := "") (Or.inl (ww75 hw)) Via.refl e0 (Sta.ext O0.2 ST.k6) (g := (mkF m 0 #[.val (.ref o0), .val (.ref o1), .val (.long q2), .second] [])) rfl (hb hby d12_0)
  refine step st1 ?_
  show G T1 (mkF m 3 #[.val (.ref o0), .val (.ref o1), .val (.long q2), .second] [(.ref w_2)])
  refine step (fun t k => XS.aloadN X1.here hx rfl (hb hby d12_3) rfl rfl k) ?_
  show G T1 (mkF m 4 #[.val (.ref o0), .val (.ref o1), .val (.long q2), .second] [(.ref o1), (.ref w_2)])
  have hK2 := (backOf (R := rr_cnt0_4) (p := p) (e := e) (below := below) (s := s) (args := #[(.ref o0), (.ref o1), (.long q2)]) (len := 3) (W := 1) (rm_ty l Z a0 hw [] w_0 w_1 w_2 o1 w_0 h0 n0 (own_old_le O0) ST O0 Fwt) hZ (ww82 hw) (ww11 hw) (by decide) (by decide))
  obtain ⟨cq2, kq2, q2a, q2b, q2c⟩ := isOf hZ e1 Ew
  obtain ⟨_, _, ⟨T2, L2, k2, n2⟩, -, X2, ⟨Lc2, hQ2, l2, y2, z2⟩, st2⟩ := X1.virtualBack hx (y := y_5) (z := y_5) hown (mvT hZ (ww78 hw)) (mvT hZ (ww79 hw)) (notFace_of_selects (args := #[]) (mvT hZ (ww81 hw))) (mvT hZ (ww81 hw)) (mvT hZ (ww80 hw)) (by decide) hK2 q2a q2c (g := (mkF m 4 #[.val (.ref o0), .val (.ref o1), .val (.long q2), .second] [(.ref o1), (.ref w_2)])) rfl (by rw [hml]; rfl) (Steps.refl _) (argsL := []) (rest := [(.ref w_2)]) (lenOf pd_6 rfl) rfl (by show 2 * 0 + _ ≤ _; exact Nat.le_of_eq rfl) (hb hby d12_4) (fun _ _ => ⟨rfl, e1, (by decide : 0 + 0 ≤ _), (by decide : 0 + 0 ≤ _)⟩)
  dsimp only [Pt.U, Pt.locs, Pt.cells, Pt.slots] at X2 l2 y2 z2 st2 hQ2
  subst l2 y2 z2
  obtain ⟨rfl, N2q, e2⟩ := hQ2
  have N2 := Fr.app N0 N2q
  obtain ⟨lc2, X2, N2⟩ := own_gen X2 N2
  refine step (fun t k => st2.trans k) ?_
  show G T2 (mkF m 7 #[.val (.ref o0), .val (.ref o1), .val (.long q2), .second] [(.ref (f_ty w_0 w_1 w_2 o1 w_0)), (.ref w_2)])
  have r3 : (f_ty w_0 w_1 w_2 o1 w_0) = w_0 := rfl
  rw [r3]
  show G T2 (mkF m 7 #[.val (.ref o0), .val (.ref o1), .val (.long q2), .second] [(.ref w_0), (.ref w_2)])
  have hK4 := (backOf (R := rr_cnt0_4) (p := p) (e := e) (below := below) (s := s) (args := #[(.ref o0), (.ref o1), (.long q2)]) (len := 3) (W := 1) (rm_od l Z a0 hw [] w_0 w_1 w_2 w_0 (0 : Int32) h0 n0 (own_old_le O0) ST O0 (Fld.ext O0.2 ST.k4)) hZ (ww89 hw) (ww88 hw) (by decide) (by decide))
  obtain ⟨cq4, kq4, q4a, q4b, q4c⟩ := isOf hZ e2 (Exa.ext O0.2 ST.k1)
  obtain ⟨_, _, ⟨T4, L4, k4, n4⟩, -, X4, ⟨Lc4, hQ4, l4, y4, z4⟩, st4⟩ := X2.virtualBackUp hx (x := y_12) (y := y_7) (owner := cn_7) hown (mvT hZ (ww83 hw)) (mvT hZ (ww84 hw)) (mvT hZ (ww85 hw)) (by decide) (mvT hZ (ww87 hw)) (mvT hZ (ww86 hw)) hK4 q4a q4c (g := (mkF m 7 #[.val (.ref o0), .val (.ref o1), .val (.long q2), .second] [(.ref w_0), (.ref w_2)])) rfl (by rw [hml]; rfl) (Steps.refl _) (argsL := []) (rest := [(.ref w_2)]) (lenOf pd_7 rfl) rfl (by show 2 * 0 + _ ≤ _; exact Nat.le_of_eq rfl) (hb hby d12_7) (fun _ _ => ⟨rfl, e2, (by decide : 0 + 0 ≤ _), (by decide : 0 + 0 ≤ _)⟩)
  dsimp only [Pt.U, Pt.locs, Pt.cells, Pt.slots] at X4 l4 y4 z4 st4 hQ4
  subst l4 y4 z4
  obtain ⟨rfl, N4q, e4⟩ := hQ4
  have N4 := Fr.app N2 N4q
  obtain ⟨lc4, X4, N4⟩ := own_gen X4 N4
  refine step (fun t k => st4.trans k) ?_
  show G T4 (mkF m 10 #[.val (.ref o0), .val (.ref o1), .val (.long q2), .second] [(.int (f_od w_0 w_1 w_2 w_0 (0 : Int32))), (.ref w_2)])
  have r5 : (f_od w_0 w_1 w_2 w_0 (0 : Int32)) = (0 : Int32) := rfl
  rw [r5]
  show G T4 (mkF m 10 #[.val (.ref o0), .val (.ref o1), .val (.long q2), .second] [(.int 0), (.ref w_2)])
  obtain ⟨kw6, Vw6⟩ := ST.k7
  have q7 := own_ldI X4 hx hZ e4 (Arv.ext Vw6 O0.2) (j := (0 : Int32)) (v := (.int 1)) (by decide) (own_at (i := 0) rfl rfl) (g := (mkF m 10 #[.val (.ref o0), .val (.ref o1), .val (.long q2), .second] [(.int 0), (.ref w_2)])) rfl rfl (hb hby d12_10)
  refine step q7 ?_
  show G T4 (mkF m 11 #[.val (.ref o0), .val (.ref o1), .val (.long q2), .second] [(.int 1)])
  refine step (fun t k => XS.tswIn X4.here hx rfl (pc0 := 11) (pc' := 36) rfl (hb hby d12_11) rfl (by decide) rfl (by decide) (by decide) k) ?_
  show G T4 (mkF m 36 #[.val (.ref o0), .val (.ref o1), .val (.long q2), .second] [])
  refine step (fun t k => XS.aloadN X4.here hx rfl (hb hby d12_36) rfl rfl k) ?_
  show G T4 (mkF m 37 #[.val (.ref o0), .val (.ref o1), .val (.long q2), .second] [(.ref o0)])
  refine step (fun t k => XS.lloadN X4.here hx rfl (hb hby d12_37) rfl k) ?_
  show G T4 (mkF m 38 #[.val (.ref o0), .val (.ref o1), .val (.long q2), .second] [(.long q2), (.ref o0)])
  refine step (fun t k => XS.aloadN X4.here hx rfl (hb hby d12_38) rfl rfl k) ?_
  show G T4 (mkF m 39 #[.val (.ref o0), .val (.ref o1), .val (.long q2), .second] [(.ref o1), (.long q2), (.ref o0)])
  have hK8 := (backOf (R := rr_cnt0_4) (p := p) (e := e) (below := below) (s := s) (args := #[(.ref o0), (.ref o1), (.long q2)]) (len := 3) (W := 3) (rm_mi l Z a0 hw [] w_0 w_1 w_2 o1 mm h0 n0 (own_old_le O0) ST O0 Fwm) hZ (ww96 hw) (ww11 hw) (by decide) (by decide))
  obtain ⟨cq8, kq8, q8a, q8b, q8c⟩ := isOf hZ e4 Ew
  obtain ⟨_, _, ⟨T8, L8, k8, n8⟩, -, X8, ⟨Lc8, hQ8, l8, y8, z8⟩, st8⟩ := X4.virtualBack hx (y := y_6) (z := y_6) hown (mvT hZ (ww92 hw)) (mvT hZ (ww93 hw)) (notFace_of_selects (args := #[]) (mvT hZ (ww95 hw))) (mvT hZ (ww95 hw)) (mvT hZ (ww94 hw)) (by decide) hK8 q8a q8c (g := (mkF m 39 #[.val (.ref o0), .val (.ref o1), .val (.long q2), .second] [(.ref o1), (.long q2), (.ref o0)])) rfl (by rw [hml]; rfl) (Steps.refl _) (argsL := []) (rest := [(.long q2), (.ref o0)]) (lenOf pd_8 rfl) rfl (by show 2 * 0 + _ ≤ _; exact Nat.le_of_eq rfl) (hb hby d12_39) (fun _ _ => ⟨rfl, e4, (by decide : 0 + 0 ≤ _), (by decide : 0 + 0 ≤ _)⟩)
  dsimp only [Pt.U, Pt.locs, Pt.cells, Pt.slots] at X8 l8 y8 z8 st8 hQ8
  subst l8 y8 z8
  obtain ⟨rfl, N8q, e8⟩ := hQ8
  have N8 := Fr.app N4 N8q
  obtain ⟨lc8, X8, N8⟩ := own_gen X8 N8
  refine step (fun t k => st8.trans k) ?_
  show G T8 (mkF m 42 #[.val (.ref o0), .val (.ref o1), .val (.long q2), .second] [(.long (f_mi w_0 w_1 w_2 o1 mm)), (.long q2), (.ref o0)])
  have r9 : (f_mi w_0 w_1 w_2 o1 mm) = mm := rfl
  rw [r9]
  show G T8 (mkF m 42 #[.val (.ref o0), .val (.ref o1), .val (.long q2), .second] [(.long mm), (.long q2), (.ref o0)])
  refine step (fun t k => XS.lsub X8.here hx rfl (hb hby d12_42) rfl k) ?_
  show G T8 (mkF m 43 #[.val (.ref o0), .val (.ref o1), .val (.long q2), .second] [(.long (q2 - mm)), (.ref o0)])
  have hK10 := (backOf (R := rr_cnt0_4) (p := p) (e := e) (below := below) (s := s) (args := #[(.ref o0), (.ref o1), (.long q2)]) (len := 3) (W := 0) (rm_for0_4 l Z a0 hw [] w_0 w_1 w_2 o0 (q2 - mm) ar ka x0 x1 x2 x3 hd sz h0 n0 (own_old_le O0) ST O0 Ex geo Ft gea Fh Fs Va (hs0 : (0 : Int32) < sz) hin hlt) hZ (ww100 hw) (ww51 hw) (by decide) (by decide))
  obtain ⟨cq10, q10, q10'⟩ := (Ex).cell
  obtain ⟨_, _, ⟨T10, L10, k10, n10⟩, -, X10, ⟨Lc10, hQ10, l10, y10, z10⟩, st10⟩ := X8.privateBack hx (y := y_11) hown (mvT hZ (ww97 hw)) (mvT hZ (ww98 hw)) (own_selpriv hZ (ww99 hw) (ww98 hw) (ww50 hw) (by decide)) (Cond.privateMethod_at (mvP hZ (ww99 hw) (args := #[]))) (mvT hZ (ww100 hw)) (by decide) hK10 (g := (mkF m 43 #[.val (.ref o0), .val (.ref o1), .val (.long q2), .second] [(.long (q2 - mm)), (.ref o0)])) rfl (by rw [hml]; rfl) (Steps.refl _) (a := o0) (by rw [e8]; exact q10) q10' (argsL := [(.long (q2 - mm))]) (rest := []) (lenOf pd_5 rfl) rfl (by show 2 * 0 + _ ≤ _; exact Nat.le_of_eq rfl) (hb hby d12_43) (fun _ _ => ⟨rfl, e8, (by decide : 0 + 0 ≤ _), (by decide : 0 + 0 ≤ _)⟩)
  dsimp only [Pt.U, Pt.locs, Pt.cells, Pt.slots] at X10 l10 y10 z10 st10 hQ10
  subst l10 y10 z10
  obtain ⟨rfl, N10q, K10q, Y10_0, Y10_1, Y10_2, Y10_3⟩ := hQ10
  have N10 := Fr.app N8 N10q
  obtain ⟨lc10, X10, N10⟩ := own_gen X10 N10
  have O10 := O0.keep K10q (allS geo all0)
  have K10 : Keep h0 T10.heap [o0] := K0.trans K10q (allS (Or.inl (List.mem_of_getElem? (i := 0) rfl)) all0)
  refine step (fun t k => st10.trans k) ?_
  show G T10 (mkF m 46 #[.val (.ref o0), .val (.ref o1), .val (.long q2), .second] [])
  refine step (fun t k => XS.goto X10.here hx rfl (pc0 := 46) (pc' := 132) rfl (hb hby d12_46) (by decide) (by decide) k) ?_
  show G T10 (mkF m 132 #[.val (.ref o0), .val (.ref o1), .val (.long q2), .second] [])
  refine step (fun t k => XS.aloadN X10.here hx rfl (hb hby d12_132) rfl rfl k) ?_
  show G T10 (mkF m 133 #[.val (.ref o0), .val (.ref o1), .val (.long q2), .second] [(.ref o0)])
  obtain ⟨T11, X11, e11, st11⟩ := getF X10 hx hZ hown (host := "") (Or.inl (ww64 hw)) Via.refl rfl Y10_3 (g := (mkF m 133 #[.val (.ref o0), .val (.ref o1), .val (.long q2), .second] [(.ref o0)])) rfl rfl (hb hby d12_133)
  refine step st11 ?_
  show G T11 (mkF m 136 #[.val (.ref o0), .val (.ref o1), .val (.long q2), .second] [(.int sz)])
  exact ret (v := some (.int sz)) X11 (fun h => by rw [Bd.returns] at h; cases h) (fun fs hr => retI X11 hx Bd.returns (hb hby d12_136) hr) e11 ⟨rfl, N10, K10, Y10_0, Y10_1, Y10_2, Y10_3⟩ (by decide) (by decide)
theorem ww74 {Z : State} {a0 : Array Value} (hw : ∀ d ∈ tables_1, d.before a0 Z = true) : Jvm.Cond.before (Jvm.Cond.code ({ cls := cn_0, name := "countAt", desc := cn_6 } : Jvm.MethodName) prog_2_method_2_code (4 : Nat) (Option.some Jvm.ClassFile.FieldType.int)) a0 Z = true := hw _ (List.mem_of_getElem? (i := 74) rfl)
theorem pd_9 : parseMethodDescriptor cn_6 = some ⟨[(.object cn_1), .long], some .int⟩ := by decide +kernel
theorem ww71 {Z : State} {a0 : Array Value} (hw : ∀ d ∈ tables_1, d.before a0 Z = true) : Jvm.Cond.before (Jvm.Cond.declares ({ cls := cn_0, name := "countAt", desc := cn_6 } : Jvm.MethodName)) a0 Z = true := hw _ (List.mem_of_getElem? (i := 71) rfl)
theorem ww72 {Z : State} {a0 : Array Value} (hw : ∀ d ∈ tables_1, d.before a0 Z = true) : Jvm.Cond.before (Jvm.Cond.instanceMethod ({ cls := cn_0, name := "countAt", desc := cn_6 } : Jvm.MethodName)) a0 Z = true := hw _ (List.mem_of_getElem? (i := 72) rfl)
theorem ww101 {Z : State} {a0 : Array Value} (hw : ∀ d ∈ tables_1, d.before a0 Z = true) : Jvm.Cond.before (Jvm.Cond.constant cn_3 (49 : Nat) (2147483647 : Int32)) a0 Z = true := hw _ (List.mem_of_getElem? (i := 101) rfl)
theorem ww102 {Z : State} {a0 : Array Value} (hw : ∀ d ∈ tables_1, d.before a0 Z = true) : Jvm.Cond.before (Jvm.Cond.methodLink cn_3 (50 : Nat) ({ cls := cn_0, name := "get", desc := "(I)J" } : Jvm.MethodName)) a0 Z = true := hw _ (List.mem_of_getElem? (i := 102) rfl)
theorem ww105 {Z : State} {a0 : Array Value} (hw : ∀ d ∈ tables_1, d.before a0 Z = true) : Jvm.Cond.before (Jvm.Cond.selects cn_0 ({ cls := cn_0, name := "get", desc := "(I)J" } : Jvm.MethodName) ({ cls := cn_0, name := "get", desc := "(I)J" } : Jvm.MethodName)) a0 Z = true := hw _ (List.mem_of_getElem? (i := 105) rfl)
theorem d13_0 : decode prog_2_method_3_code 0 = .ok (.aload_n 0, 1) := by decide +kernel
theorem d13_1 : decode prog_2_method_3_code 1 = .ok (.getfield 7, 3) := by decide +kernel
theorem d13_4 : decode prog_2_method_3_code 4 = .ok (.aload_n 0, 1) := by decide +kernel
theorem d13_5 : decode prog_2_method_3_code 5 = .ok (.getfield 47, 3) := by decide +kernel
theorem d13_8 : decode prog_2_method_3_code 8 = .ok (.iload_n 1, 1) := by decide +kernel
theorem d13_9 : decode prog_2_method_3_code 9 = .ok (.iadd, 1) := by decide +kernel
theorem d13_10 : decode prog_2_method_3_code 10 = .ok (.aload_n 0, 1) := by decide +kernel
theorem d13_11 : decode prog_2_method_3_code 11 = .ok (.getfield 7, 3) := by decide +kernel
theorem d13_14 : decode prog_2_method_3_code 14 = .ok (.arraylength, 1) := by decide +kernel
theorem d13_15 : decode prog_2_method_3_code 15 = .ok (.irem, 1) := by decide +kernel
theorem d13_16 : decode prog_2_method_3_code 16 = .ok (.laload, 1) := by decide +kernel
theorem d13_17 : decode prog_2_method_3_code 17 = .ok (.lreturn, 1) := by decide +kernel
abbrev rr_get4 : Room := { frames := 0, cells := 0, slots := 0, locals := 0 }
abbrev y_14 : MethodName := ⟨cn_0, "get", "(I)J"⟩
theorem ef_get4 (m : MethodId) (o0 : Addr) (p1 : Int32) : entryFrame m #[(.ref o0), (.int p1)] 2 = mkF m 0 #[.val (.ref o0), .val (.int p1)] [] := by first | (simp [entryFrame, mkF, argsToLocals, Value.category]; done) | rfl
def f_get4 (w_0 : Addr) (w_1 : Addr) (w_2 : Addr) (o0 : Addr) (p1 : Int32) (ar : Addr) (ka : ClassId) (x0 : Int64) (x1 : Int64) (x2 : Int64) (x3 : Int64) (hd : Int32) : Int64 := (own_at4 x0 x1 x2 x3 ((hd + p1) % (4 : Int32)))
def Q_get4 (Z : State) (w_0 : Addr) (w_1 : Addr) (w_2 : Addr) (o0 : Addr) (p1 : Int32) (ar : Addr) (ka : ClassId) (x0 : Int64) (x1 : Int64) (x2 : Int64) (x3 : Int64) (hd : Int32) (h0 : Heap) (n0 : Nat) (v : Option Value) (h : Heap) (L : List Loc) : Prop := v = some (.long (f_get4 w_0 w_1 w_2 o0 p1 ar ka x0 x1 x2 x3 hd)) ∧ Fr n0 L ∧ h = h0
set_option maxRecDepth 65536 in
set_option maxHeartbeats 40000000 in
theorem rm_get4 (l : Launch) (Z : State) (a0 : Array Value) (hw : ∀ d ∈ tables_1, d.before a0 Z = true) (ws : List Jvm.Cond) (w_0 : Addr) (w_1 : Addr) (w_2 : Addr) (o0 : Addr) (p1 : Int32) (ar : Addr) (ka : ClassId) (x0 : Int64) (x1 : Int64) (x2 : Int64) (x3 : Int64) (hd : Int32) (h0 : Heap) (n0 : Nat) (Z0 : n0 ≤ h0.size) (ST : own_St Z w_0 w_1 w_2) (O0 : Old Z n0 h0) (Ft : Fld Z h0 o0 cn_0 "times" "[J" (.ref ar)) (Fh : Fld Z h0 o0 cn_0 "head" "I" (.int hd)) (Va : Arv Z h0 ar ka .long (4 : Int32) [(.long x0), (.long x1), (.long x2), (.long x3)] (.long 0)) (hix : ¬ ((hd + p1) % (4 : Int32)) < 0 ∧ ((hd + p1) % (4 : Int32)) < (4 : Int32)) :
    MetFree l y_14 (head1 (Jvm.Cond.code y_14 prog_2_method_3_code 2 (some .long) :: ws) rr_get4) (fun a U => a = #[(.ref o0), (.int p1)] ∧ Z.Warmed39 U.vm ∧ U.heap = h0) (fun _ _ _ _ _ => True) (fun _ U o U' => ∃ v L, o = .returned v ∧ Q_get4 Z w_0 w_1 w_2 o0 p1 ar ka x0 x1 x2 x3 hd h0 n0 v U'.heap L ∧ FrameEnd U o U' L rr_get4.cells rr_get4.slots) := by
  refine MetFree.of_bodySF (plainFor_of_name pn_3) hisR ?_
  intro p e s m args below meth c s₁ Bd hml0 hP hK
  obtain ⟨rfl, hZ, hh⟩ := hP
  have hx := Bd.exec
  have hby := Bd.bytes
  have hml : c.maxLocals = 2 := hml0
  have hown : s.vm.findClass cn_0 = some m.cls := findClass_of_methodNamed Bd.named
  have hnm := (name_of_methodNamed Bd.named Bd.method).1
  have X0 : Stand p l e rr_get4 s m #[(.ref o0), (.int p1)] below meth c s₁ [] 0 0 := Stand.of_body Bd
  have e0 : s₁.heap = h0 := by rw [← hh, Bd.state]; rfl
  have N0 := Fr.nil n0
  obtain ⟨G, step, ret, fin⟩ := own_open (p := p) (l := l) (e := e) (R := rr_get4) (s := s) (m := m) (args := #[(.ref o0), (.int p1)]) (below := below) (meth := meth) (c := c) (rr_get4.cells) (rr_get4.slots) (Q_get4 Z w_0 w_1 w_2 o0 p1 ar ka x0 x1 x2 x3 hd h0 n0) Bd.notSynchronized
  refine fin (g := entryFrame m #[(.ref o0), (.int p1)] 2) ?_
  rw [ef_get4 m o0 p1]
  show G s₁ (mkF m 0 #[.val (.ref o0), .val (.int p1)] [])
  refine step (fun t k => XS.aloadN X0.here hx rfl (hb hby d13_0) rfl rfl k) ?_
  show G s₁ (mkF m 1 #[.val (.ref o0), .val (.int p1)] [(.ref o0)])
  obtain ⟨T1, X1, e1, st1⟩ := getF X0 hx hZ hown (host := "") (Or.inl (ww57 hw)) Via.refl e0 Ft (g := (mkF m 1 #[.val (.ref o0), .val (.int p1)] [(.ref o0)])) rfl rfl (hb hby d13_1)
  refine step st1 ?_
  show G T1 (mkF m 4 #[.val (.ref o0), .val (.int p1)] [(.ref ar)])
  refine step (fun t k => XS.aloadN X1.here hx rfl (hb hby d13_4) rfl rfl k) ?_
  show G T1 (mkF m 5 #[.val (.ref o0), .val (.int p1)] [(.ref o0), (.ref ar)])
  obtain ⟨T2, X2, e2, st2⟩ := getF X1 hx hZ hown (host := "") (Or.inl (ww66 hw)) Via.refl e1 Fh (g := (mkF m 5 #[.val (.ref o0), .val (.int p1)] [(.ref o0), (.ref ar)])) rfl rfl (hb hby d13_5)
  refine step st2 ?_
  show G T2 (mkF m 8 #[.val (.ref o0), .val (.int p1)] [(.int hd), (.ref ar)])
  refine step (fun t k => XS.iloadN X2.here hx rfl (hb hby d13_8) rfl k) ?_
  show G T2 (mkF m 9 #[.val (.ref o0), .val (.int p1)] [(.int p1), (.int hd), (.ref ar)])
  refine step (fun t k => XS.iadd X2.here hx rfl (hb hby d13_9) rfl k) ?_
  show G T2 (mkF m 10 #[.val (.ref o0), .val (.int p1)] [(.int (hd + p1)), (.ref ar)])
  refine step (fun t k => XS.aloadN X2.here hx rfl (hb hby d13_10) rfl rfl k) ?_
  show G T2 (mkF m 11 #[.val (.ref o0), .val (.int p1)] [(.ref o0), (.int (hd + p1)), (.ref ar)])
  obtain ⟨T3, X3, e3, st3⟩ := getF X2 hx hZ hown (host := "") (Or.inl (ww57 hw)) Via.refl e2 Ft (g := (mkF m 11 #[.val (.ref o0), .val (.int p1)] [(.ref o0), (.int (hd + p1)), (.ref ar)])) rfl rfl (hb hby d13_11)
  refine step st3 ?_
  show G T3 (mkF m 14 #[.val (.ref o0), .val (.int p1)] [(.ref ar), (.int (hd + p1)), (.ref ar)])
  have q4 := own_len X3 hx hZ e3 Va (g := (mkF m 14 #[.val (.ref o0), .val (.int p1)] [(.ref ar), (.int (hd + p1)), (.ref ar)])) rfl rfl (hb hby d13_14)
  refine step q4 ?_
  show G T3 (mkF m 15 #[.val (.ref o0), .val (.int p1)] [(.int 4), (.int (hd + p1)), (.ref ar)])
  refine step (fun t k => iremM X3 hx rfl (hb hby d13_15) rfl (by decide) k) ?_
  show G T3 (mkF m 16 #[.val (.ref o0), .val (.int p1)] [(.int ((hd + p1) % (4 : Int32))), (.ref ar)])
  have q5 := own_ldJ X3 hx hZ e3 Va (j := ((hd + p1) % (4 : Int32))) (v := .long (own_at4 x0 x1 x2 x3 ((hd + p1) % (4 : Int32)))) hix (own_get4 hix) (g := (mkF m 16 #[.val (.ref o0), .val (.int p1)] [(.int ((hd + p1) % (4 : Int32))), (.ref ar)])) rfl rfl (hb hby d13_16)
  refine step q5 ?_
  show G T3 (mkF m 17 #[.val (.ref o0), .val (.int p1)] [(.long (own_at4 x0 x1 x2 x3 ((hd + p1) % (4 : Int32))))])
  exact ret (v := some (.long (own_at4 x0 x1 x2 x3 ((hd + p1) % (4 : Int32))))) X3 (fun h => by rw [Bd.returns] at h; cases h) (fun fs hr => retL X3 hx Bd.returns (hb hby d13_17) hr) e3 ⟨rfl, N0, rfl⟩ (by decide) (by decide)
theorem ww106 {Z : State} {a0 : Array Value} (hw : ∀ d ∈ tables_1, d.before a0 Z = true) : Jvm.Cond.before (Jvm.Cond.code ({ cls := cn_0, name := "get", desc := "(I)J" } : Jvm.MethodName) prog_2_method_3_code (2 : Nat) (Option.some Jvm.ClassFile.FieldType.long)) a0 Z = true := hw _ (List.mem_of_getElem? (i := 106) rfl)
theorem pd_10 : parseMethodDescriptor "(I)J" = some ⟨[.int], some .long⟩ := by decide +kernel
theorem ww103 {Z : State} {a0 : Array Value} (hw : ∀ d ∈ tables_1, d.before a0 Z = true) : Jvm.Cond.before (Jvm.Cond.declares ({ cls := cn_0, name := "get", desc := "(I)J" } : Jvm.MethodName)) a0 Z = true := hw _ (List.mem_of_getElem? (i := 103) rfl)
theorem ww104 {Z : State} {a0 : Array Value} (hw : ∀ d ∈ tables_1, d.before a0 Z = true) : Jvm.Cond.before (Jvm.Cond.instanceMethod ({ cls := cn_0, name := "get", desc := "(I)J" } : Jvm.MethodName)) a0 Z = true := hw _ (List.mem_of_getElem? (i := 104) rfl)
theorem ww107 {Z : State} {a0 : Array Value} (hw : ∀ d ∈ tables_1, d.before a0 Z = true) : Jvm.Cond.before (Jvm.Cond.constantLong cn_3 (43 : Nat) (4 : Int64)) a0 Z = true := hw _ (List.mem_of_getElem? (i := 107) rfl)
theorem d10_12 : decode prog_2_method_4_code 12 = .ok (.aload_n 0, 1) := by decide +kernel
theorem d10_13 : decode prog_2_method_4_code 13 = .ok (.getfield 7, 3) := by decide +kernel
theorem d10_16 : decode prog_2_method_4_code 16 = .ok (.arraylength, 1) := by decide +kernel
theorem d10_17 : decode prog_2_method_4_code 17 = .ok (.iconst 2, 1) := by decide +kernel
theorem d10_18 : decode prog_2_method_4_code 18 = .ok (.imul, 1) := by decide +kernel
theorem d10_19 : decode prog_2_method_4_code 19 = .ok (.newarray .long, 2) := by decide +kernel
theorem d10_21 : decode prog_2_method_4_code 21 = .ok (.astore_n 3, 1) := by decide +kernel
theorem d10_22 : decode prog_2_method_4_code 22 = .ok (.iconst 0, 1) := by decide +kernel
theorem d10_23 : decode prog_2_method_4_code 23 = .ok (.istore 4, 2) := by decide +kernel
theorem d10_25 : decode prog_2_method_4_code 25 = .ok (.iload 4, 2) := by decide +kernel
theorem d10_27 : decode prog_2_method_4_code 27 = .ok (.aload_n 0, 1) := by decide +kernel
theorem d10_28 : decode prog_2_method_4_code 28 = .ok (.getfield 43, 3) := by decide +kernel
theorem d10_31 : decode prog_2_method_4_code 31 = .ok (.if_icmp .ge 31, 3) := by decide +kernel
theorem d10_34 : decode prog_2_method_4_code 34 = .ok (.aload_n 3, 1) := by decide +kernel
theorem d10_35 : decode prog_2_method_4_code 35 = .ok (.iload 4, 2) := by decide +kernel
theorem d10_37 : decode prog_2_method_4_code 37 = .ok (.aload_n 0, 1) := by decide +kernel
theorem d10_38 : decode prog_2_method_4_code 38 = .ok (.getfield 7, 3) := by decide +kernel
theorem d10_41 : decode prog_2_method_4_code 41 = .ok (.aload_n 0, 1) := by decide +kernel
theorem d10_42 : decode prog_2_method_4_code 42 = .ok (.getfield 47, 3) := by decide +kernel
theorem d10_45 : decode prog_2_method_4_code 45 = .ok (.iload 4, 2) := by decide +kernel
theorem d10_47 : decode prog_2_method_4_code 47 = .ok (.iadd, 1) := by decide +kernel
theorem d10_48 : decode prog_2_method_4_code 48 = .ok (.aload_n 0, 1) := by decide +kernel
theorem d10_49 : decode prog_2_method_4_code 49 = .ok (.getfield 7, 3) := by decide +kernel
theorem d10_52 : decode prog_2_method_4_code 52 = .ok (.arraylength, 1) := by decide +kernel
theorem d10_53 : decode prog_2_method_4_code 53 = .ok (.irem, 1) := by decide +kernel
theorem d10_54 : decode prog_2_method_4_code 54 = .ok (.laload, 1) := by decide +kernel
theorem d10_55 : decode prog_2_method_4_code 55 = .ok (.lastore, 1) := by decide +kernel
theorem d10_56 : decode prog_2_method_4_code 56 = .ok (.iinc 4 1, 3) := by decide +kernel
theorem d10_59 : decode prog_2_method_4_code 59 = .ok (.goto (-34), 3) := by decide +kernel
theorem d10_62 : decode prog_2_method_4_code 62 = .ok (.aload_n 0, 1) := by decide +kernel
theorem d10_63 : decode prog_2_method_4_code 63 = .ok (.aload_n 3, 1) := by decide +kernel
theorem d10_64 : decode prog_2_method_4_code 64 = .ok (.putfield 7, 3) := by decide +kernel
theorem d10_67 : decode prog_2_method_4_code 67 = .ok (.aload_n 0, 1) := by decide +kernel
theorem d10_68 : decode prog_2_method_4_code 68 = .ok (.iconst 0, 1) := by decide +kernel
theorem d10_69 : decode prog_2_method_4_code 69 = .ok (.putfield 47, 3) := by decide +kernel
abbrev rr_addg_4_0 : Room := { frames := 0, cells := 1, slots := 8, locals := 0 }
theorem ef_addg_4_0 (m : MethodId) (o0 : Addr) (q1 : Int64) : entryFrame m #[(.ref o0), (.long q1)] 5 = mkF m 0 #[.val (.ref o0), .val (.long q1), .second, .unset, .unset] [] := by first | (simp [entryFrame, mkF, argsToLocals, Value.category]; done) | rfl
def Q_addg_4_0 (Z : State) (w_0 : Addr) (w_1 : Addr) (w_2 : Addr) (o0 : Addr) (q1 : Int64) (ar : Addr) (ka : ClassId) (x0 : Int64) (x1 : Int64) (x2 : Int64) (x3 : Int64) (h0 : Heap) (n0 : Nat) (v : Option Value) (h : Heap) (L : List Loc) : Prop := ∃ b : Addr, ∃ kb : ClassId, v = none ∧ Fr n0 L ∧ Keep h0 h [o0] ∧ h0.size ≤ b ∧ Exa Z h o0 cn_0 ∧ Fld Z h o0 cn_0 "times" "[J" (.ref b) ∧ Fld Z h o0 cn_0 "head" "I" (.int 0) ∧ Fld Z h o0 cn_0 "size" "I" (.int 5) ∧ Arv Z h b kb .long (8 : Int32) [(.long x0), (.long x1), (.long x2), (.long x3), (.long q1), (.long 0), (.long 0), (.long 0)] (.long 0)
set_option maxRecDepth 65536 in
set_option maxHeartbeats 40000000 in
theorem rm_addg_4_0 (l : Launch) (Z : State) (a0 : Array Value) (hw : ∀ d ∈ tables_1, d.before a0 Z = true) (ws : List Jvm.Cond) (w_0 : Addr) (w_1 : Addr) (w_2 : Addr) (o0 : Addr) (q1 : Int64) (ar : Addr) (ka : ClassId) (x0 : Int64) (x1 : Int64) (x2 : Int64) (x3 : Int64) (h0 : Heap) (n0 : Nat) (Z0 : n0 ≤ h0.size) (ST : own_St Z w_0 w_1 w_2) (O0 : Old Z n0 h0) (Ex : Exa Z h0 o0 cn_0) (geo : n0 ≤ o0) (Ft : Fld Z h0 o0 cn_0 "times" "[J" (.ref ar)) (gea : n0 ≤ ar) (Fh : Fld Z h0 o0 cn_0 "head" "I" (.int 0)) (Fs : Fld Z h0 o0 cn_0 "size" "I" (.int 4)) (Va : Arv Z h0 ar ka .long (4 : Int32) [(.long x0), (.long x1), (.long x2), (.long x3)] (.long 0)) :
    MetFree l y_10 (head1 (Jvm.Cond.code y_10 prog_2_method_4_code 5 none :: ws) rr_addg_4_0) (fun a U => a = #[(.ref o0), (.long q1)] ∧ Z.Warmed39 U.vm ∧ U.heap = h0) (fun _ _ _ _ _ => True) (fun _ U o U' => ∃ v L, o = .returned v ∧ Q_addg_4_0 Z w_0 w_1 w_2 o0 q1 ar ka x0 x1 x2 x3 h0 n0 v U'.heap L ∧ FrameEnd U o U' L rr_addg_4_0.cells rr_addg_4_0.slots) := by
  refine MetFree.of_bodySF (plainFor_of_name pn_3) hisR ?_
  intro p e s m args below meth c s₁ Bd hml0 hP hK
  obtain ⟨rfl, hZ, hh⟩ := hP
  have hx := Bd.exec
  have hby := Bd.bytes
  have hml : c.maxLocals = 5 := hml0
  have hown : s.vm.findClass cn_0 = some m.cls := findClass_of_methodNamed Bd.named
  have hnm := (name_of_methodNamed Bd.named Bd.method).1
  have X0 : Stand p l e rr_addg_4_0 s m #[(.ref o0), (.long q1)] below meth c s₁ [] 0 0 := Stand.of_body Bd
  have e0 : s₁.heap = h0 := by rw [← hh, Bd.state]; rfl
  have N0 := Fr.nil n0
  have K0 : Keep h0 h0 [o0] := Keep.refl _ _
  obtain ⟨G, step, ret, fin⟩ := own_open (p := p) (l := l) (e := e) (R := rr_addg_4_0) (s := s) (m := m) (args := #[(.ref o0), (.long q1)]) (below := below) (meth := meth) (c := c) (rr_addg_4_0.cells) (rr_addg_4_0.slots) (Q_addg_4_0 Z w_0 w_1 w_2 o0 q1 ar ka x0 x1 x2 x3 h0 n0) Bd.notSynchronized
  refine fin (g := entryFrame m #[(.ref o0), (.long q1)] 5) ?_
  rw [ef_addg_4_0 m o0 q1]
  have ne_o0_ar : o0 ≠ ar := own_ne_arv Ex (ww50 hw) Va
  show G s₁ (mkF m 0 #[.val (.ref o0), .val (.long q1), .second, .unset, .unset] [])
  refine step (fun t k => XS.aloadN X0.here hx rfl (hb hby d10_0) rfl rfl k) ?_
  show G s₁ (mkF m 1 #[.val (.ref o0), .val (.long q1), .second, .unset, .unset] [(.ref o0)])
  obtain ⟨T1, X1, e1, st1⟩ := getF X0 hx hZ hown (host := "") (Or.inl (ww64 hw)) Via.refl e0 Fs (g := (mkF m 1 #[.val (.ref o0), .val (.long q1), .second, .unset, .unset] [(.ref o0)])) rfl rfl (hb hby d10_1)
  refine step st1 ?_
  show G T1 (mkF m 4 #[.val (.ref o0), .val (.long q1), .second, .unset, .unset] [(.int 4)])
  refine step (fun t k => XS.aloadN X1.here hx rfl (hb hby d10_4) rfl rfl k) ?_
  show G T1 (mkF m 5 #[.val (.ref o0), .val (.long q1), .second, .unset, .unset] [(.ref o0), (.int 4)])
  obtain ⟨T2, X2, e2, st2⟩ := getF X1 hx hZ hown (host := "") (Or.inl (ww57 hw)) Via.refl e1 Ft (g := (mkF m 5 #[.val (.ref o0), .val (.long q1), .second, .unset, .unset] [(.ref o0), (.int 4)])) rfl rfl (hb hby d10_5)
  refine step st2 ?_
  show G T2 (mkF m 8 #[.val (.ref o0), .val (.long q1), .second, .unset, .unset] [(.ref ar), (.int 4)])
  have q3 := own_len X2 hx hZ e2 Va (g := (mkF m 8 #[.val (.ref o0), .val (.long q1), .second, .unset, .unset] [(.ref ar), (.int 4)])) rfl rfl (hb hby d10_8)
  refine step q3 ?_
  show G T2 (mkF m 9 #[.val (.ref o0), .val (.long q1), .second, .unset, .unset] [(.int 4), (.int 4)])
  refine step (fun t k => XS.icmpNo X2.here hx rfl (hb hby d10_9) rfl (teq (by decide : (4 : Int32) = (4 : Int32))).2 k) ?_
  show G T2 (mkF m 12 #[.val (.ref o0), .val (.long q1), .second, .unset, .unset] [])
  refine step (fun t k => XS.aloadN X2.here hx rfl (hb hby d10_12) rfl rfl k) ?_
  show G T2 (mkF m 13 #[.val (.ref o0), .val (.long q1), .second, .unset, .unset] [(.ref o0)])
  obtain ⟨T4, X4, e4, st4⟩ := getF X2 hx hZ hown (host := "") (Or.inl (ww57 hw)) Via.refl e2 Ft (g := (mkF m 13 #[.val (.ref o0), .val (.long q1), .second, .unset, .unset] [(.ref o0)])) rfl rfl (hb hby d10_13)
  refine step st4 ?_
  show G T4 (mkF m 16 #[.val (.ref o0), .val (.long q1), .second, .unset, .unset] [(.ref ar)])
  have q5 := own_len X4 hx hZ e4 Va (g := (mkF m 16 #[.val (.ref o0), .val (.long q1), .second, .unset, .unset] [(.ref ar)])) rfl rfl (hb hby d10_16)
  refine step q5 ?_
  show G T4 (mkF m 17 #[.val (.ref o0), .val (.long q1), .second, .unset, .unset] [(.int 4)])
  refine step (fun t k => XS.iconst X4.here hx rfl (hb hby d10_17) k) ?_
  show G T4 (mkF m 18 #[.val (.ref o0), .val (.long q1), .second, .unset, .unset] [(.int 2), (.int 4)])
  refine step (fun t k => XS.imul X4.here hx rfl (hb hby d10_18) rfl k) ?_
  show G T4 (mkF m 19 #[.val (.ref o0), .val (.long q1), .second, .unset, .unset] [(.int ((4 : Int32) * (2 : Int32)))])
  rw [(by decide : ((4 : Int32) * (2 : Int32)) = (8 : Int32))]
  show G T4 (mkF m 19 #[.val (.ref o0), .val (.long q1), .second, .unset, .unset] [(.int 8)])
  obtain ⟨T6, h6, k6, X6, e6, E6, A6, B6, st6⟩ := newPE (aty := .long) X4 hx hZ (ww56 hw) e4 (g := (mkF m 19 #[.val (.ref o0), .val (.long q1), .second, .unset, .unset] [(.int 8)])) rfl (hb hby d10_19) rfl (by decide) (cap := 8) (by decide) (by decide) (by decide) (by decide) (ad := "[J") (by decide)
  obtain ⟨b6, g6⟩ : ∃ z, z = h0.size := ⟨_, rfl⟩
  rw [← g6] at A6 B6 st6
  have V6 : Arv Z h6 b6 k6 .long (8 : Int32) [(.long 0), (.long 0), (.long 0), (.long 0), (.long 0), (.long 0), (.long 0), (.long 0)] (.long 0) := (Arv.new A6 (by decide)).pad (pad_rep [] (.long 0) 8)
  have ge_b6 : n0 ≤ b6 := Nat.le_trans (own_old_le O0) (Nat.le_of_eq g6.symm)
  have sz_b6 : h0.size ≤ b6 := Nat.le_trans K0.1 (Nat.le_of_eq g6.symm)
  have lt_ar_b6 : ar < b6 := Nat.lt_of_lt_of_le Va.lt (Nat.le_of_eq g6.symm)
  have lt_o0_b6 : o0 < b6 := Nat.lt_of_lt_of_le Ex.lt (Nat.le_of_eq g6.symm)
  have O6 := O0.ext E6
  have K6 : Keep h0 h6 [o0] := K0.ext E6
  refine step st6 ?_
  show G T6 (mkF m 21 #[.val (.ref o0), .val (.long q1), .second, .unset, .unset] [(.ref b6)])
  refine step (fun t k => XS.astoreN X6.here hx rfl (hb hby d10_21) rfl rfl (l' := #[.val (.ref o0), .val (.long q1), .second, .val (.ref b6), .unset]) rfl k) ?_
  show G T6 (mkF m 22 #[.val (.ref o0), .val (.long q1), .second, .val (.ref b6), .unset] [])
  refine step (fun t k => XS.iconst X6.here hx rfl (hb hby d10_22) k) ?_
  show G T6 (mkF m 23 #[.val (.ref o0), .val (.long q1), .second, .val (.ref b6), .unset] [(.int 0)])
  refine step (fun t k => XS.istore X6.here hx rfl (hb hby d10_23) rfl (l' := #[.val (.ref o0), .val (.long q1), .second, .val (.ref b6), .val (.int 0)]) rfl k) ?_
  show G T6 (mkF m 25 #[.val (.ref o0), .val (.long q1), .second, .val (.ref b6), .val (.int 0)] [])
  refine step (fun t k => XS.iload X6.here hx rfl (hb hby d10_25) rfl k) ?_
  show G T6 (mkF m 27 #[.val (.ref o0), .val (.long q1), .second, .val (.ref b6), .val (.int 0)] [(.int 0)])
  refine step (fun t k => XS.aloadN X6.here hx rfl (hb hby d10_27) rfl rfl k) ?_
  show G T6 (mkF m 28 #[.val (.ref o0), .val (.long q1), .second, .val (.ref b6), .val (.int 0)] [(.ref o0), (.int 0)])
  have f8 := (Fld.ext E6 Fs)
  obtain ⟨T7, X7, e7, st7⟩ := getF X6 hx hZ hown (host := "") (Or.inl (ww64 hw)) Via.refl e6 f8 (g := (mkF m 28 #[.val (.ref o0), .val (.long q1), .second, .val (.ref b6), .val (.int 0)] [(.ref o0), (.int 0)])) rfl rfl (hb hby d10_28)
  refine step st7 ?_
  show G T7 (mkF m 31 #[.val (.ref o0), .val (.long q1), .second, .val (.ref b6), .val (.int 0)] [(.int 4), (.int 0)])
  refine step (fun t k => XS.icmpNo X7.here hx rfl (hb hby d10_31) rfl (tlt (by decide : (0 : Int32) < (4 : Int32))).2.1 k) ?_
  show G T7 (mkF m 34 #[.val (.ref o0), .val (.long q1), .second, .val (.ref b6), .val (.int 0)] [])
  refine step (fun t k => XS.aloadN X7.here hx rfl (hb hby d10_34) rfl rfl k) ?_
  show G T7 (mkF m 35 #[.val (.ref o0), .val (.long q1), .second, .val (.ref b6), .val (.int 0)] [(.ref b6)])
  refine step (fun t k => XS.iload X7.here hx rfl (hb hby d10_35) rfl k) ?_
  show G T7 (mkF m 37 #[.val (.ref o0), .val (.long q1), .second, .val (.ref b6), .val (.int 0)] [(.int 0), (.ref b6)])
  refine step (fun t k => XS.aloadN X7.here hx rfl (hb hby d10_37) rfl rfl k) ?_
  show G T7 (mkF m 38 #[.val (.ref o0), .val (.long q1), .second, .val (.ref b6), .val (.int 0)] [(.ref o0), (.int 0), (.ref b6)])
  have f10 := (Fld.ext E6 Ft)
  obtain ⟨T9, X9, e9, st9⟩ := getF X7 hx hZ hown (host := "") (Or.inl (ww57 hw)) Via.refl e7 f10 (g := (mkF m 38 #[.val (.ref o0), .val (.long q1), .second, .val (.ref b6), .val (.int 0)] [(.ref o0), (.int 0), (.ref b6)])) rfl rfl (hb hby d10_38)
  refine step st9 ?_
  show G T9 (mkF m 41 #[.val (.ref o0), .val (.long q1), .second, .val (.ref b6), .val (.int 0)] [(.ref ar), (.int 0), (.ref b6)])
  refine step (fun t k => XS.aloadN X9.here hx rfl (hb hby d10_41) rfl rfl k) ?_
  show G T9 (mkF m 42 #[.val (.ref o0), .val (.long q1), .second, .val (.ref b6), .val (.int 0)] [(.ref o0), (.ref ar), (.int 0), (.ref b6)])
  have f12 := (Fld.ext E6 Fh)
  obtain ⟨T11, X11, e11, st11⟩ := getF X9 hx hZ hown (host := "") (Or.inl (ww66 hw)) Via.refl e9 f12 (g := (mkF m 42 #[.val (.ref o0), .val (.long q1), .second, .val (.ref b6), .val (.int 0)] [(.ref o0), (.ref ar), (.int 0), (.ref b6)])) rfl rfl (hb hby d10_42)
  refine step st11 ?_
  show G T11 (mkF m 45 #[.val (.ref o0), .val (.long q1), .second, .val (.ref b6), .val (.int 0)] [(.int 0), (.ref ar), (.int 0), (.ref b6)])
  refine step (fun t k => XS.iload X11.here hx rfl (hb hby d10_45) rfl k) ?_
  show G T11 (mkF m 47 #[.val (.ref o0), .val (.long q1), .second, .val (.ref b6), .val (.int 0)] [(.int 0), (.int 0), (.ref ar), (.int 0), (.ref b6)])
  refine step (fun t k => XS.iadd X11.here hx rfl (hb hby d10_47) rfl k) ?_
  show G T11 (mkF m 48 #[.val (.ref o0), .val (.long q1), .second, .val (.ref b6), .val (.int 0)] [(.int ((0 : Int32) + (0 : Int32))), (.ref ar), (.int 0), (.ref b6)])
  rw [(by decide : ((0 : Int32) + (0 : Int32)) = (0 : Int32))]
  show G T11 (mkF m 48 #[.val (.ref o0), .val (.long q1), .second, .val (.ref b6), .val (.int 0)] [(.int 0), (.ref ar), (.int 0), (.ref b6)])
  refine step (fun t k => XS.aloadN X11.here hx rfl (hb hby d10_48) rfl rfl k) ?_
  show G T11 (mkF m 49 #[.val (.ref o0), .val (.long q1), .second, .val (.ref b6), .val (.int 0)] [(.ref o0), (.int 0), (.ref ar), (.int 0), (.ref b6)])
  obtain ⟨T13, X13, e13, st13⟩ := getF X11 hx hZ hown (host := "") (Or.inl (ww57 hw)) Via.refl e11 f10 (g := (mkF m 49 #[.val (.ref o0), .val (.long q1), .second, .val (.ref b6), .val (.int 0)] [(.ref o0), (.int 0), (.ref ar), (.int 0), (.ref b6)])) rfl rfl (hb hby d10_49)
  refine step st13 ?_
  show G T13 (mkF m 52 #[.val (.ref o0), .val (.long q1), .second, .val (.ref b6), .val (.int 0)] [(.ref ar), (.int 0), (.ref ar), (.int 0), (.ref b6)])
  have f14 := (Va.ext E6)
  have q15 := own_len X13 hx hZ e13 f14 (g := (mkF m 52 #[.val (.ref o0), .val (.long q1), .second, .val (.ref b6), .val (.int 0)] [(.ref ar), (.int 0), (.ref ar), (.int 0), (.ref b6)])) rfl rfl (hb hby d10_52)
  refine step q15 ?_
  show G T13 (mkF m 53 #[.val (.ref o0), .val (.long q1), .second, .val (.ref b6), .val (.int 0)] [(.int 4), (.int 0), (.ref ar), (.int 0), (.ref b6)])
  refine step (fun t k => iremM X13 hx rfl (hb hby d10_53) rfl (by decide) k) ?_
  show G T13 (mkF m 54 #[.val (.ref o0), .val (.long q1), .second, .val (.ref b6), .val (.int 0)] [(.int ((0 : Int32) % (4 : Int32))), (.ref ar), (.int 0), (.ref b6)])
  rw [(by decide : ((0 : Int32) % (4 : Int32)) = (0 : Int32))]
  show G T13 (mkF m 54 #[.val (.ref o0), .val (.long q1), .second, .val (.ref b6), .val (.int 0)] [(.int 0), (.ref ar), (.int 0), (.ref b6)])
  have q16 := own_ldJ X13 hx hZ e13 f14 (j := (0 : Int32)) (v := (.long x0)) (by decide) (own_at (i := 0) rfl rfl) (g := (mkF m 54 #[.val (.ref o0), .val (.long q1), .second, .val (.ref b6), .val (.int 0)] [(.int 0), (.ref ar), (.int 0), (.ref b6)])) rfl rfl (hb hby d10_54)
  refine step q16 ?_
  show G T13 (mkF m 55 #[.val (.ref o0), .val (.long q1), .second, .val (.ref b6), .val (.int 0)] [(.long x0), (.int 0), (.ref b6)])
  obtain ⟨T17, h17, X17, e17, W17, V17, st17⟩ := own_stJ X13 hx hZ e13 V6 (j := (0 : Int32)) (by decide) (i := 0) rfl (by show 0 < 8; decide) (g := (mkF m 55 #[.val (.ref o0), .val (.long q1), .second, .val (.ref b6), .val (.int 0)] [(.long x0), (.int 0), (.ref b6)])) rfl rfl (hb hby d10_55)
  replace V17 : Arv Z h17 b6 k6 .long (8 : Int32) [(.long x0), (.long 0), (.long 0), (.long 0), (.long 0), (.long 0), (.long 0), (.long 0)] (.long 0) := V17
  have N17 := Fr.snoc X17 N0 ge_b6
  obtain ⟨lc17, X17, N17⟩ := own_gen X17 N17
  have O17 := O6.wr W17 ge_b6
  have K17 : Keep h0 h17 [o0] := K6.wr W17 (Or.inr sz_b6)
  refine step st17 ?_
  show G T17 (mkF m 56 #[.val (.ref o0), .val (.long q1), .second, .val (.ref b6), .val (.int 0)] [])
  refine step (fun t k => XS.iinc X17.here hx rfl (hb hby d10_56) rfl (l' := #[.val (.ref o0), .val (.long q1), .second, .val (.ref b6), .val (.int ((0 : Int32) + (1 : Int32)))]) rfl k) ?_
  show G T17 (mkF m 59 #[.val (.ref o0), .val (.long q1), .second, .val (.ref b6), .val (.int ((0 : Int32) + (1 : Int32)))] [])
  rw [(by decide : ((0 : Int32) + (1 : Int32)) = (1 : Int32))]
  show G T17 (mkF m 59 #[.val (.ref o0), .val (.long q1), .second, .val (.ref b6), .val (.int 1)] [])
  refine step (fun t k => XS.goto X17.here hx rfl (pc0 := 59) (pc' := 25) rfl (hb hby d10_59) (by decide) (by decide) k) ?_
  show G T17 (mkF m 25 #[.val (.ref o0), .val (.long q1), .second, .val (.ref b6), .val (.int 1)] [])
  refine step (fun t k => XS.iload X17.here hx rfl (hb hby d10_25) rfl k) ?_
  show G T17 (mkF m 27 #[.val (.ref o0), .val (.long q1), .second, .val (.ref b6), .val (.int 1)] [(.int 1)])
  refine step (fun t k => XS.aloadN X17.here hx rfl (hb hby d10_27) rfl rfl k) ?_
  show G T17 (mkF m 28 #[.val (.ref o0), .val (.long q1), .second, .val (.ref b6), .val (.int 1)] [(.ref o0), (.int 1)])
  have f19 := (Fld.other W17 f8 (Or.inl (Nat.ne_of_lt lt_o0_b6)))
  obtain ⟨T18, X18, e18, st18⟩ := getF X17 hx hZ hown (host := "") (Or.inl (ww64 hw)) Via.refl e17 f19 (g := (mkF m 28 #[.val (.ref o0), .val (.long q1), .second, .val (.ref b6), .val (.int 1)] [(.ref o0), (.int 1)])) rfl rfl (hb hby d10_28)
  refine step st18 ?_
  show G T18 (mkF m 31 #[.val (.ref o0), .val (.long q1), .second, .val (.ref b6), .val (.int 1)] [(.int 4), (.int 1)])
  refine step (fun t k => XS.icmpNo X18.here hx rfl (hb hby d10_31) rfl (tlt (by decide : (1 : Int32) < (4 : Int32))).2.1 k) ?_
  show G T18 (mkF m 34 #[.val (.ref o0), .val (.long q1), .second, .val (.ref b6), .val (.int 1)] [])
  refine step (fun t k => XS.aloadN X18.here hx rfl (hb hby d10_34) rfl rfl k) ?_
  show G T18 (mkF m 35 #[.val (.ref o0), .val (.long q1), .second, .val (.ref b6), .val (.int 1)] [(.ref b6)])
  refine step (fun t k => XS.iload X18.here hx rfl (hb hby d10_35) rfl k) ?_
  show G T18 (mkF m 37 #[.val (.ref o0), .val (.long q1), .second, .val (.ref b6), .val (.int 1)] [(.int 1), (.ref b6)])
  refine step (fun t k => XS.aloadN X18.here hx rfl (hb hby d10_37) rfl rfl k) ?_
  show G T18 (mkF m 38 #[.val (.ref o0), .val (.long q1), .second, .val (.ref b6), .val (.int 1)] [(.ref o0), (.int 1), (.ref b6)])
  have f21 := (Fld.other W17 f10 (Or.inl (Nat.ne_of_lt lt_o0_b6)))
  obtain ⟨T20, X20, e20, st20⟩ := getF X18 hx hZ hown (host := "") (Or.inl (ww57 hw)) Via.refl e18 f21 (g := (mkF m 38 #[.val (.ref o0), .val (.long q1), .second, .val (.ref b6), .val (.int 1)] [(.ref o0), (.int 1), (.ref b6)])) rfl rfl (hb hby d10_38)
  refine step st20 ?_
  show G T20 (mkF m 41 #[.val (.ref o0), .val (.long q1), .second, .val (.ref b6), .val (.int 1)] [(.ref ar), (.int 1), (.ref b6)])
  refine step (fun t k => XS.aloadN X20.here hx rfl (hb hby d10_41) rfl rfl k) ?_
  show G T20 (mkF m 42 #[.val (.ref o0), .val (.long q1), .second, .val (.ref b6), .val (.int 1)] [(.ref o0), (.ref ar), (.int 1), (.ref b6)])
  have f23 := (Fld.other W17 f12 (Or.inl (Nat.ne_of_lt lt_o0_b6)))
  obtain ⟨T22, X22, e22, st22⟩ := getF X20 hx hZ hown (host := "") (Or.inl (ww66 hw)) Via.refl e20 f23 (g := (mkF m 42 #[.val (.ref o0), .val (.long q1), .second, .val (.ref b6), .val (.int 1)] [(.ref o0), (.ref ar), (.int 1), (.ref b6)])) rfl rfl (hb hby d10_42)
  refine step st22 ?_
  show G T22 (mkF m 45 #[.val (.ref o0), .val (.long q1), .second, .val (.ref b6), .val (.int 1)] [(.int 0), (.ref ar), (.int 1), (.ref b6)])
  refine step (fun t k => XS.iload X22.here hx rfl (hb hby d10_45) rfl k) ?_
  show G T22 (mkF m 47 #[.val (.ref o0), .val (.long q1), .second, .val (.ref b6), .val (.int 1)] [(.int 1), (.int 0), (.ref ar), (.int 1), (.ref b6)])
  refine step (fun t k => XS.iadd X22.here hx rfl (hb hby d10_47) rfl k) ?_
  show G T22 (mkF m 48 #[.val (.ref o0), .val (.long q1), .second, .val (.ref b6), .val (.int 1)] [(.int ((0 : Int32) + (1 : Int32))), (.ref ar), (.int 1), (.ref b6)])
  rw [(by decide : ((0 : Int32) + (1 : Int32)) = (1 : Int32))]
  show G T22 (mkF m 48 #[.val (.ref o0), .val (.long q1), .second, .val (.ref b6), .val (.int 1)] [(.int 1), (.ref ar), (.int 1), (.ref b6)])
  refine step (fun t k => XS.aloadN X22.here hx rfl (hb hby d10_48) rfl rfl k) ?_
  show G T22 (mkF m 49 #[.val (.ref o0), .val (.long q1), .second, .val (.ref b6), .val (.int 1)] [(.ref o0), (.int 1), (.ref ar), (.int 1), (.ref b6)])
  obtain ⟨T24, X24, e24, st24⟩ := getF X22 hx hZ hown (host := "") (Or.inl (ww57 hw)) Via.refl e22 f21 (g := (mkF m 49 #[.val (.ref o0), .val (.long q1), .second, .val (.ref b6), .val (.int 1)] [(.ref o0), (.int 1), (.ref ar), (.int 1), (.ref b6)])) rfl rfl (hb hby d10_49)
  refine step st24 ?_
  show G T24 (mkF m 52 #[.val (.ref o0), .val (.long q1), .second, .val (.ref b6), .val (.int 1)] [(.ref ar), (.int 1), (.ref ar), (.int 1), (.ref b6)])
  have f25 := (Arv.other f14 W17 (Nat.ne_of_lt lt_ar_b6))
  have q26 := own_len X24 hx hZ e24 f25 (g := (mkF m 52 #[.val (.ref o0), .val (.long q1), .second, .val (.ref b6), .val (.int 1)] [(.ref ar), (.int 1), (.ref ar), (.int 1), (.ref b6)])) rfl rfl (hb hby d10_52)
  refine step q26 ?_
  show G T24 (mkF m 53 #[.val (.ref o0), .val (.long q1), .second, .val (.ref b6), .val (.int 1)] [(.int 4), (.int 1), (.ref ar), (.int 1), (.ref b6)])
  refine step (fun t k => iremM X24 hx rfl (hb hby d10_53) rfl (by decide) k) ?_
  show G T24 (mkF m 54 #[.val (.ref o0), .val (.long q1), .second, .val (.ref b6), .val (.int 1)] [(.int ((1 : Int32) % (4 : Int32))), (.ref ar), (.int 1), (.ref b6)])
  rw [(by decide : ((1 : Int32) % (4 : Int32)) = (1 : Int32))]
  show G T24 (mkF m 54 #[.val (.ref o0), .val (.long q1), .second, .val (.ref b6), .val (.int 1)] [(.int 1), (.ref ar), (.int 1), (.ref b6)])
  have q27 := own_ldJ X24 hx hZ e24 f25 (j := (1 : Int32)) (v := (.long x1)) (by decide) (own_at (i := 1) rfl rfl) (g := (mkF m 54 #[.val (.ref o0), .val (.long q1), .second, .val (.ref b6), .val (.int 1)] [(.int 1), (.ref ar), (.int 1), (.ref b6)])) rfl rfl (hb hby d10_54)
  refine step q27 ?_
  show G T24 (mkF m 55 #[.val (.ref o0), .val (.long q1), .second, .val (.ref b6), .val (.int 1)] [(.long x1), (.int 1), (.ref b6)])
  obtain ⟨T28, h28, X28, e28, W28, V28, st28⟩ := own_stJ X24 hx hZ e24 V17 (j := (1 : Int32)) (by decide) (i := 1) rfl (by show 1 < 8; decide) (g := (mkF m 55 #[.val (.ref o0), .val (.long q1), .second, .val (.ref b6), .val (.int 1)] [(.long x1), (.int 1), (.ref b6)])) rfl rfl (hb hby d10_55)
  replace V28 : Arv Z h28 b6 k6 .long (8 : Int32) [(.long x0), (.long x1), (.long 0), (.long 0), (.long 0), (.long 0), (.long 0), (.long 0)] (.long 0) := V28
  have N28 := Fr.snoc X28 N17 ge_b6
  obtain ⟨lc28, X28, N28⟩ := own_gen X28 N28
  have O28 := O17.wr W28 ge_b6
  have K28 : Keep h0 h28 [o0] := K17.wr W28 (Or.inr sz_b6)
  refine step st28 ?_
  show G T28 (mkF m 56 #[.val (.ref o0), .val (.long q1), .second, .val (.ref b6), .val (.int 1)] [])
  refine step (fun t k => XS.iinc X28.here hx rfl (hb hby d10_56) rfl (l' := #[.val (.ref o0), .val (.long q1), .second, .val (.ref b6), .val (.int ((1 : Int32) + (1 : Int32)))]) rfl k) ?_
  show G T28 (mkF m 59 #[.val (.ref o0), .val (.long q1), .second, .val (.ref b6), .val (.int ((1 : Int32) + (1 : Int32)))] [])
  rw [(by decide : ((1 : Int32) + (1 : Int32)) = (2 : Int32))]
  show G T28 (mkF m 59 #[.val (.ref o0), .val (.long q1), .second, .val (.ref b6), .val (.int 2)] [])
  refine step (fun t k => XS.goto X28.here hx rfl (pc0 := 59) (pc' := 25) rfl (hb hby d10_59) (by decide) (by decide) k) ?_
  show G T28 (mkF m 25 #[.val (.ref o0), .val (.long q1), .second, .val (.ref b6), .val (.int 2)] [])
  refine step (fun t k => XS.iload X28.here hx rfl (hb hby d10_25) rfl k) ?_
  show G T28 (mkF m 27 #[.val (.ref o0), .val (.long q1), .second, .val (.ref b6), .val (.int 2)] [(.int 2)])
  refine step (fun t k => XS.aloadN X28.here hx rfl (hb hby d10_27) rfl rfl k) ?_
  show G T28 (mkF m 28 #[.val (.ref o0), .val (.long q1), .second, .val (.ref b6), .val (.int 2)] [(.ref o0), (.int 2)])
  have f30 := (Fld.other W28 f19 (Or.inl (Nat.ne_of_lt lt_o0_b6)))
  obtain ⟨T29, X29, e29, st29⟩ := getF X28 hx hZ hown (host := "") (Or.inl (ww64 hw)) Via.refl e28 f30 (g := (mkF m 28 #[.val (.ref o0), .val (.long q1), .second, .val (.ref b6), .val (.int 2)] [(.ref o0), (.int 2)])) rfl rfl (hb hby d10_28)
  refine step st29 ?_
  show G T29 (mkF m 31 #[.val (.ref o0), .val (.long q1), .second, .val (.ref b6), .val (.int 2)] [(.int 4), (.int 2)])
  refine step (fun t k => XS.icmpNo X29.here hx rfl (hb hby d10_31) rfl (tlt (by decide : (2 : Int32) < (4 : Int32))).2.1 k) ?_
  show G T29 (mkF m 34 #[.val (.ref o0), .val (.long q1), .second, .val (.ref b6), .val (.int 2)] [])
  refine step (fun t k => XS.aloadN X29.here hx rfl (hb hby d10_34) rfl rfl k) ?_
  show G T29 (mkF m 35 #[.val (.ref o0), .val (.long q1), .second, .val (.ref b6), .val (.int 2)] [(.ref b6)])
  refine step (fun t k => XS.iload X29.here hx rfl (hb hby d10_35) rfl k) ?_
  show G T29 (mkF m 37 #[.val (.ref o0), .val (.long q1), .second, .val (.ref b6), .val (.int 2)] [(.int 2), (.ref b6)])
  refine step (fun t k => XS.aloadN X29.here hx rfl (hb hby d10_37) rfl rfl k) ?_
  show G T29 (mkF m 38 #[.val (.ref o0), .val (.long q1), .second, .val (.ref b6), .val (.int 2)] [(.ref o0), (.int 2), (.ref b6)])
  have f32 := (Fld.other W28 f21 (Or.inl (Nat.ne_of_lt lt_o0_b6)))
  obtain ⟨T31, X31, e31, st31⟩ := getF X29 hx hZ hown (host := "") (Or.inl (ww57 hw)) Via.refl e29 f32 (g := (mkF m 38 #[.val (.ref o0), .val (.long q1), .second, .val (.ref b6), .val (.int 2)] [(.ref o0), (.int 2), (.ref b6)])) rfl rfl (hb hby d10_38)
  refine step st31 ?_
  show G T31 (mkF m 41 #[.val (.ref o0), .val (.long q1), .second, .val (.ref b6), .val (.int 2)] [(.ref ar), (.int 2), (.ref b6)])
  refine step (fun t k => XS.aloadN X31.here hx rfl (hb hby d10_41) rfl rfl k) ?_
  show G T31 (mkF m 42 #[.val (.ref o0), .val (.long q1), .second, .val (.ref b6), .val (.int 2)] [(.ref o0), (.ref ar), (.int 2), (.ref b6)])
  have f34 := (Fld.other W28 f23 (Or.inl (Nat.ne_of_lt lt_o0_b6)))
  obtain ⟨T33, X33, e33, st33⟩ := getF X31 hx hZ hown (host := "") (Or.inl (ww66 hw)) Via.refl e31 f34 (g := (mkF m 42 #[.val (.ref o0), .val (.long q1), .second, .val (.ref b6), .val (.int 2)] [(.ref o0), (.ref ar), (.int 2), (.ref b6)])) rfl rfl (hb hby d10_42)
  refine step st33 ?_
  show G T33 (mkF m 45 #[.val (.ref o0), .val (.long q1), .second, .val (.ref b6), .val (.int 2)] [(.int 0), (.ref ar), (.int 2), (.ref b6)])
  refine step (fun t k => XS.iload X33.here hx rfl (hb hby d10_45) rfl k) ?_
  show G T33 (mkF m 47 #[.val (.ref o0), .val (.long q1), .second, .val (.ref b6), .val (.int 2)] [(.int 2), (.int 0), (.ref ar), (.int 2), (.ref b6)])
  refine step (fun t k => XS.iadd X33.here hx rfl (hb hby d10_47) rfl k) ?_
  show G T33 (mkF m 48 #[.val (.ref o0), .val (.long q1), .second, .val (.ref b6), .val (.int 2)] [(.int ((0 : Int32) + (2 : Int32))), (.ref ar), (.int 2), (.ref b6)])
  rw [(by decide : ((0 : Int32) + (2 : Int32)) = (2 : Int32))]
  show G T33 (mkF m 48 #[.val (.ref o0), .val (.long q1), .second, .val (.ref b6), .val (.int 2)] [(.int 2), (.ref ar), (.int 2), (.ref b6)])
  refine step (fun t k => XS.aloadN X33.here hx rfl (hb hby d10_48) rfl rfl k) ?_
  show G T33 (mkF m 49 #[.val (.ref o0), .val (.long q1), .second, .val (.ref b6), .val (.int 2)] [(.ref o0), (.int 2), (.ref ar), (.int 2), (.ref b6)])
  obtain ⟨T35, X35, e35, st35⟩ := getF X33 hx hZ hown (host := "") (Or.inl (ww57 hw)) Via.refl e33 f32 (g := (mkF m 49 #[.val (.ref o0), .val (.long q1), .second, .val (.ref b6), .val (.int 2)] [(.ref o0), (.int 2), (.ref ar), (.int 2), (.ref b6)])) rfl rfl (hb hby d10_49)
  refine step st35 ?_
  show G T35 (mkF m 52 #[.val (.ref o0), .val (.long q1), .second, .val (.ref b6), .val (.int 2)] [(.ref ar), (.int 2), (.ref ar), (.int 2), (.ref b6)])
  have f36 := (Arv.other f25 W28 (Nat.ne_of_lt lt_ar_b6))
  have q37 := own_len X35 hx hZ e35 f36 (g := (mkF m 52 #[.val (.ref o0), .val (.long q1), .second, .val (.ref b6), .val (.int 2)] [(.ref ar), (.int 2), (.ref ar), (.int 2), (.ref b6)])) rfl rfl (hb hby d10_52)
  refine step q37 ?_
  show G T35 (mkF m 53 #[.val (.ref o0), .val (.long q1), .second, .val (.ref b6), .val (.int 2)] [(.int 4), (.int 2), (.ref ar), (.int 2), (.ref b6)])
  refine step (fun t k => iremM X35 hx rfl (hb hby d10_53) rfl (by decide) k) ?_
  show G T35 (mkF m 54 #[.val (.ref o0), .val (.long q1), .second, .val (.ref b6), .val (.int 2)] [(.int ((2 : Int32) % (4 : Int32))), (.ref ar), (.int 2), (.ref b6)])
  rw [(by decide : ((2 : Int32) % (4 : Int32)) = (2 : Int32))]
  show G T35 (mkF m 54 #[.val (.ref o0), .val (.long q1), .second, .val (.ref b6), .val (.int 2)] [(.int 2), (.ref ar), (.int 2), (.ref b6)])
  have q38 := own_ldJ X35 hx hZ e35 f36 (j := (2 : Int32)) (v := (.long x2)) (by decide) (own_at (i := 2) rfl rfl) (g := (mkF m 54 #[.val (.ref o0), .val (.long q1), .second, .val (.ref b6), .val (.int 2)] [(.int 2), (.ref ar), (.int 2), (.ref b6)])) rfl rfl (hb hby d10_54)
  refine step q38 ?_
  show G T35 (mkF m 55 #[.val (.ref o0), .val (.long q1), .second, .val (.ref b6), .val (.int 2)] [(.long x2), (.int 2), (.ref b6)])
  obtain ⟨T39, h39, X39, e39, W39, V39, st39⟩ := own_stJ X35 hx hZ e35 V28 (j := (2 : Int32)) (by decide) (i := 2) rfl (by show 2 < 8; decide) (g := (mkF m 55 #[.val (.ref o0), .val (.long q1), .second, .val (.ref b6), .val (.int 2)] [(.long x2), (.int 2), (.ref b6)])) rfl rfl (hb hby d10_55)
  replace V39 : Arv Z h39 b6 k6 .long (8 : Int32) [(.long x0), (.long x1), (.long x2), (.long 0), (.long 0), (.long 0), (.long 0), (.long 0)] (.long 0) := V39
  have N39 := Fr.snoc X39 N28 ge_b6
  obtain ⟨lc39, X39, N39⟩ := own_gen X39 N39
  have O39 := O28.wr W39 ge_b6
  have K39 : Keep h0 h39 [o0] := K28.wr W39 (Or.inr sz_b6)
  refine step st39 ?_
  show G T39 (mkF m 56 #[.val (.ref o0), .val (.long q1), .second, .val (.ref b6), .val (.int 2)] [])
  refine step (fun t k => XS.iinc X39.here hx rfl (hb hby d10_56) rfl (l' := #[.val (.ref o0), .val (.long q1), .second, .val (.ref b6), .val (.int ((2 : Int32) + (1 : Int32)))]) rfl k) ?_
  show G T39 (mkF m 59 #[.val (.ref o0), .val (.long q1), .second, .val (.ref b6), .val (.int ((2 : Int32) + (1 : Int32)))] [])
  rw [(by decide : ((2 : Int32) + (1 : Int32)) = (3 : Int32))]
  show G T39 (mkF m 59 #[.val (.ref o0), .val (.long q1), .second, .val (.ref b6), .val (.int 3)] [])
  refine step (fun t k => XS.goto X39.here hx rfl (pc0 := 59) (pc' := 25) rfl (hb hby d10_59) (by decide) (by decide) k) ?_
  show G T39 (mkF m 25 #[.val (.ref o0), .val (.long q1), .second, .val (.ref b6), .val (.int 3)] [])
  refine step (fun t k => XS.iload X39.here hx rfl (hb hby d10_25) rfl k) ?_
  show G T39 (mkF m 27 #[.val (.ref o0), .val (.long q1), .second, .val (.ref b6), .val (.int 3)] [(.int 3)])
  refine step (fun t k => XS.aloadN X39.here hx rfl (hb hby d10_27) rfl rfl k) ?_
  show G T39 (mkF m 28 #[.val (.ref o0), .val (.long q1), .second, .val (.ref b6), .val (.int 3)] [(.ref o0), (.int 3)])
  have f41 := (Fld.other W39 f30 (Or.inl (Nat.ne_of_lt lt_o0_b6)))
  obtain ⟨T40, X40, e40, st40⟩ := getF X39 hx hZ hown (host := "") (Or.inl (ww64 hw)) Via.refl e39 f41 (g := (mkF m 28 #[.val (.ref o0), .val (.long q1), .second, .val (.ref b6), .val (.int 3)] [(.ref o0), (.int 3)])) rfl rfl (hb hby d10_28)
  refine step st40 ?_
  show G T40 (mkF m 31 #[.val (.ref o0), .val (.long q1), .second, .val (.ref b6), .val (.int 3)] [(.int 4), (.int 3)])
  refine step (fun t k => XS.icmpNo X40.here hx rfl (hb hby d10_31) rfl (tlt (by decide : (3 : Int32) < (4 : Int32))).2.1 k) ?_
  show G T40 (mkF m 34 #[.val (.ref o0), .val (.long q1), .second, .val (.ref b6), .val (.int 3)] [])
  refine step (fun t k => XS.aloadN X40.here hx rfl (hb hby d10_34) rfl rfl k) ?_
  show G T40 (mkF m 35 #[.val (.ref o0), .val (.long q1), .second, .val (.ref b6), .val (.int 3)] [(.ref b6)])
  refine step (fun t k => XS.iload X40.here hx rfl (hb hby d10_35) rfl k) ?_
  show G T40 (mkF m 37 #[.val (.ref o0), .val (.long q1), .second, .val (.ref b6), .val (.int 3)] [(.int 3), (.ref b6)])
  refine step (fun t k => XS.aloadN X40.here hx rfl (hb hby d10_37) rfl rfl k) ?_
  show G T40 (mkF m 38 #[.val (.ref o0), .val (.long q1), .second, .val (.ref b6), .val (.int 3)] [(.ref o0), (.int 3), (.ref b6)])
  have f43 := (Fld.other W39 f32 (Or.inl (Nat.ne_of_lt lt_o0_b6)))
  obtain ⟨T42, X42, e42, st42⟩ := getF X40 hx hZ hown (host := "") (Or.inl (ww57 hw)) Via.refl e40 f43 (g := (mkF m 38 #[.val (.ref o0), .val (.long q1), .second, .val (.ref b6), .val (.int 3)] [(.ref o0), (.int 3), (.ref b6)])) rfl rfl (hb hby d10_38)
  refine step st42 ?_
  show G T42 (mkF m 41 #[.val (.ref o0), .val (.long q1), .second, .val (.ref b6), .val (.int 3)] [(.ref ar), (.int 3), (.ref b6)])
  refine step (fun t k => XS.aloadN X42.here hx rfl (hb hby d10_41) rfl rfl k) ?_
  show G T42 (mkF m 42 #[.val (.ref o0), .val (.long q1), .second, .val (.ref b6), .val (.int 3)] [(.ref o0), (.ref ar), (.int 3), (.ref b6)])
  have f45 := (Fld.other W39 f34 (Or.inl (Nat.ne_of_lt lt_o0_b6)))
  obtain ⟨T44, X44, e44, st44⟩ := getF X42 hx hZ hown (host := "") (Or.inl (ww66 hw)) Via.refl e42 f45 (g := (mkF m 42 #[.val (.ref o0), .val (.long q1), .second, .val (.ref b6), .val (.int 3)] [(.ref o0), (.ref ar), (.int 3), (.ref b6)])) rfl rfl (hb hby d10_42)
  refine step st44 ?_
  show G T44 (mkF m 45 #[.val (.ref o0), .val (.long q1), .second, .val (.ref b6), .val (.int 3)] [(.int 0), (.ref ar), (.int 3), (.ref b6)])
  refine step (fun t k => XS.iload X44.here hx rfl (hb hby d10_45) rfl k) ?_
  show G T44 (mkF m 47 #[.val (.ref o0), .val (.long q1), .second, .val (.ref b6), .val (.int 3)] [(.int 3), (.int 0), (.ref ar), (.int 3), (.ref b6)])
  refine step (fun t k => XS.iadd X44.here hx rfl (hb hby d10_47) rfl k) ?_
  show G T44 (mkF m 48 #[.val (.ref o0), .val (.long q1), .second, .val (.ref b6), .val (.int 3)] [(.int ((0 : Int32) + (3 : Int32))), (.ref ar), (.int 3), (.ref b6)])
  rw [(by decide : ((0 : Int32) + (3 : Int32)) = (3 : Int32))]
  show G T44 (mkF m 48 #[.val (.ref o0), .val (.long q1), .second, .val (.ref b6), .val (.int 3)] [(.int 3), (.ref ar), (.int 3), (.ref b6)])
  refine step (fun t k => XS.aloadN X44.here hx rfl (hb hby d10_48) rfl rfl k) ?_
  show G T44 (mkF m 49 #[.val (.ref o0), .val (.long q1), .second, .val (.ref b6), .val (.int 3)] [(.ref o0), (.int 3), (.ref ar), (.int 3), (.ref b6)])
  obtain ⟨T46, X46, e46, st46⟩ := getF X44 hx hZ hown (host := "") (Or.inl (ww57 hw)) Via.refl e44 f43 (g := (mkF m 49 #[.val (.ref o0), .val (.long q1), .second, .val (.ref b6), .val (.int 3)] [(.ref o0), (.int 3), (.ref ar), (.int 3), (.ref b6)])) rfl rfl (hb hby d10_49)
  refine step st46 ?_
  show G T46 (mkF m 52 #[.val (.ref o0), .val (.long q1), .second, .val (.ref b6), .val (.int 3)] [(.ref ar), (.int 3), (.ref ar), (.int 3), (.ref b6)])
  have f47 := (Arv.other f36 W39 (Nat.ne_of_lt lt_ar_b6))
  have q48 := own_len X46 hx hZ e46 f47 (g := (mkF m 52 #[.val (.ref o0), .val (.long q1), .second, .val (.ref b6), .val (.int 3)] [(.ref ar), (.int 3), (.ref ar), (.int 3), (.ref b6)])) rfl rfl (hb hby d10_52)
  refine step q48 ?_
  show G T46 (mkF m 53 #[.val (.ref o0), .val (.long q1), .second, .val (.ref b6), .val (.int 3)] [(.int 4), (.int 3), (.ref ar), (.int 3), (.ref b6)])
  refine step (fun t k => iremM X46 hx rfl (hb hby d10_53) rfl (by decide) k) ?_
  show G T46 (mkF m 54 #[.val (.ref o0), .val (.long q1), .second, .val (.ref b6), .val (.int 3)] [(.int ((3 : Int32) % (4 : Int32))), (.ref ar), (.int 3), (.ref b6)])
  rw [(by decide : ((3 : Int32) % (4 : Int32)) = (3 : Int32))]
  show G T46 (mkF m 54 #[.val (.ref o0), .val (.long q1), .second, .val (.ref b6), .val (.int 3)] [(.int 3), (.ref ar), (.int 3), (.ref b6)])
  have q49 := own_ldJ X46 hx hZ e46 f47 (j := (3 : Int32)) (v := (.long x3)) (by decide) (own_at (i := 3) rfl rfl) (g := (mkF m 54 #[.val (.ref o0), .val (.long q1), .second, .val (.ref b6), .val (.int 3)] [(.int 3), (.ref ar), (.int 3), (.ref b6)])) rfl rfl (hb hby d10_54)
  refine step q49 ?_
  show G T46 (mkF m 55 #[.val (.ref o0), .val (.long q1), .second, .val (.ref b6), .val (.int 3)] [(.long x3), (.int 3), (.ref b6)])
  obtain ⟨T50, h50, X50, e50, W50, V50, st50⟩ := own_stJ X46 hx hZ e46 V39 (j := (3 : Int32)) (by decide) (i := 3) rfl (by show 3 < 8; decide) (g := (mkF m 55 #[.val (.ref o0), .val (.long q1), .second, .val (.ref b6), .val (.int 3)] [(.long x3), (.int 3), (.ref b6)])) rfl rfl (hb hby d10_55)
  replace V50 : Arv Z h50 b6 k6 .long (8 : Int32) [(.long x0), (.long x1), (.long x2), (.long x3), (.long 0), (.long 0), (.long 0), (.long 0)] (.long 0) := V50
  have N50 := Fr.snoc X50 N39 ge_b6
  obtain ⟨lc50, X50, N50⟩ := own_gen X50 N50
  have O50 := O39.wr W50 ge_b6
  have K50 : Keep h0 h50 [o0] := K39.wr W50 (Or.inr sz_b6)
  refine step st50 ?_
  show G T50 (mkF m 56 #[.val (.ref o0), .val (.long q1), .second, .val (.ref b6), .val (.int 3)] [])
  refine step (fun t k => XS.iinc X50.here hx rfl (hb hby d10_56) rfl (l' := #[.val (.ref o0), .val (.long q1), .second, .val (.ref b6), .val (.int ((3 : Int32) + (1 : Int32)))]) rfl k) ?_
  show G T50 (mkF m 59 #[.val (.ref o0), .val (.long q1), .second, .val (.ref b6), .val (.int ((3 : Int32) + (1 : Int32)))] [])
  rw [(by decide : ((3 : Int32) + (1 : Int32)) = (4 : Int32))]
  show G T50 (mkF m 59 #[.val (.ref o0), .val (.long q1), .second, .val (.ref b6), .val (.int 4)] [])
  refine step (fun t k => XS.goto X50.here hx rfl (pc0 := 59) (pc' := 25) rfl (hb hby d10_59) (by decide) (by decide) k) ?_
  show G T50 (mkF m 25 #[.val (.ref o0), .val (.long q1), .second, .val (.ref b6), .val (.int 4)] [])
  refine step (fun t k => XS.iload X50.here hx rfl (hb hby d10_25) rfl k) ?_
  show G T50 (mkF m 27 #[.val (.ref o0), .val (.long q1), .second, .val (.ref b6), .val (.int 4)] [(.int 4)])
  refine step (fun t k => XS.aloadN X50.here hx rfl (hb hby d10_27) rfl rfl k) ?_
  show G T50 (mkF m 28 #[.val (.ref o0), .val (.long q1), .second, .val (.ref b6), .val (.int 4)] [(.ref o0), (.int 4)])
  have f52 := (Fld.other W50 f41 (Or.inl (Nat.ne_of_lt lt_o0_b6)))
  obtain ⟨T51, X51, e51, st51⟩ := getF X50 hx hZ hown (host := "") (Or.inl (ww64 hw)) Via.refl e50 f52 (g := (mkF m 28 #[.val (.ref o0), .val (.long q1), .second, .val (.ref b6), .val (.int 4)] [(.ref o0), (.int 4)])) rfl rfl (hb hby d10_28)
  refine step st51 ?_
  show G T51 (mkF m 31 #[.val (.ref o0), .val (.long q1), .second, .val (.ref b6), .val (.int 4)] [(.int 4), (.int 4)])
  refine step (fun t k => XS.icmpYes X51.here hx rfl (pc0 := 31) (pc' := 62) rfl (hb hby d10_31) rfl (flt (by decide : ¬ ((4 : Int32) < (4 : Int32)))).2.1 (by decide) (by decide) k) ?_
  show G T51 (mkF m 62 #[.val (.ref o0), .val (.long q1), .second, .val (.ref b6), .val (.int 4)] [])
  refine step (fun t k => XS.aloadN X51.here hx rfl (hb hby d10_62) rfl rfl k) ?_
  show G T51 (mkF m 63 #[.val (.ref o0), .val (.long q1), .second, .val (.ref b6), .val (.int 4)] [(.ref o0)])
  refine step (fun t k => XS.aloadN X51.here hx rfl (hb hby d10_63) rfl rfl k) ?_
  show G T51 (mkF m 64 #[.val (.ref o0), .val (.long q1), .second, .val (.ref b6), .val (.int 4)] [(.ref b6), (.ref o0)])
  have f54 := (Fld.other W50 f43 (Or.inl (Nat.ne_of_lt lt_o0_b6)))
  have f55 := (Exa.wr W50 (Exa.wr W39 (Exa.wr W28 (Exa.wr W17 (Exa.ext E6 Ex)))))
  obtain ⟨T53, h53, X53, e53, W53, st53⟩ := putF X51 hx hZ hown (host := "") (Or.inl (ww57 hw)) Via.refl e51 f54 f55 (Or.inl (ww58 hw)) (ww50 hw) (ty := (.array .long)) (by decide) rfl rfl (g := (mkF m 64 #[.val (.ref o0), .val (.long q1), .second, .val (.ref b6), .val (.int 4)] [(.ref b6), (.ref o0)])) rfl rfl (hb hby d10_64)
  have F53 : Fld Z h53 o0 cn_0 "times" "[J" (.ref b6) := Fld.same W53 f54
  have N53 := Fr.snoc X53 N50 geo
  obtain ⟨lc53, X53, N53⟩ := own_gen X53 N53
  have O53 := O50.wr W53 geo
  have K53 : Keep h0 h53 [o0] := K50.wr W53 (Or.inl (List.mem_of_getElem? (i := 0) rfl))
  refine step st53 ?_
  show G T53 (mkF m 67 #[.val (.ref o0), .val (.long q1), .second, .val (.ref b6), .val (.int 4)] [])
  refine step (fun t k => XS.aloadN X53.here hx rfl (hb hby d10_67) rfl rfl k) ?_
  show G T53 (mkF m 68 #[.val (.ref o0), .val (.long q1), .second, .val (.ref b6), .val (.int 4)] [(.ref o0)])
  refine step (fun t k => XS.iconst X53.here hx rfl (hb hby d10_68) k) ?_
  show G T53 (mkF m 69 #[.val (.ref o0), .val (.long q1), .second, .val (.ref b6), .val (.int 4)] [(.int 0), (.ref o0)])
  have f57 := (Fld.other W53 (Fld.other W50 f45 (Or.inl (Nat.ne_of_lt lt_o0_b6))) (Or.inr (slot_ne (Or.inl (ww67 hw)) (Or.inl (ww58 hw)) (by decide) (t := .int) (t' := (.array .long)) (by decide) (by decide))))
  have f58 := (Exa.wr W53 f55)
  obtain ⟨T56, h56, X56, e56, W56, st56⟩ := putF X53 hx hZ hown (host := "") (Or.inl (ww66 hw)) Via.refl e53 f57 f58 (Or.inl (ww67 hw)) (ww50 hw) (ty := .int) (by decide) rfl rfl (g := (mkF m 69 #[.val (.ref o0), .val (.long q1), .second, .val (.ref b6), .val (.int 4)] [(.int 0), (.ref o0)])) rfl rfl (hb hby d10_69)
  have F56 : Fld Z h56 o0 cn_0 "head" "I" (.int 0) := Fld.same W56 f57
  have N56 := Fr.snoc X56 N53 geo
  obtain ⟨lc56, X56, N56⟩ := own_gen X56 N56
  have O56 := O53.wr W56 geo
  have K56 : Keep h0 h56 [o0] := K53.wr W56 (Or.inl (List.mem_of_getElem? (i := 0) rfl))
  refine step st56 ?_
  show G T56 (mkF m 72 #[.val (.ref o0), .val (.long q1), .second, .val (.ref b6), .val (.int 4)] [])
  refine step (fun t k => XS.aloadN X56.here hx rfl (hb hby d10_72) rfl rfl k) ?_
  show G T56 (mkF m 73 #[.val (.ref o0), .val (.long q1), .second, .val (.ref b6), .val (.int 4)] [(.ref o0)])
  have f60 := (Fld.other W56 F53 (Or.inr (slot_ne (Or.inl (ww58 hw)) (Or.inl (ww67 hw)) (by decide) (t := (.array .long)) (t' := .int) (by decide) (by decide))))
  obtain ⟨T59, X59, e59, st59⟩ := getF X56 hx hZ hown (host := "") (Or.inl (ww57 hw)) Via.refl e56 f60 (g := (mkF m 73 #[.val (.ref o0), .val (.long q1), .second, .val (.ref b6), .val (.int 4)] [(.ref o0)])) rfl rfl (hb hby d10_73)
  refine step st59 ?_
  show G T59 (mkF m 76 #[.val (.ref o0), .val (.long q1), .second, .val (.ref b6), .val (.int 4)] [(.ref b6)])
  refine step (fun t k => XS.aloadN X59.here hx rfl (hb hby d10_76) rfl rfl k) ?_
  show G T59 (mkF m 77 #[.val (.ref o0), .val (.long q1), .second, .val (.ref b6), .val (.int 4)] [(.ref o0), (.ref b6)])
  obtain ⟨T61, X61, e61, st61⟩ := getF X59 hx hZ hown (host := "") (Or.inl (ww66 hw)) Via.refl e59 F56 (g := (mkF m 77 #[.val (.ref o0), .val (.long q1), .second, .val (.ref b6), .val (.int 4)] [(.ref o0), (.ref b6)])) rfl rfl (hb hby d10_77)
  refine step st61 ?_
  show G T61 (mkF m 80 #[.val (.ref o0), .val (.long q1), .second, .val (.ref b6), .val (.int 4)] [(.int 0), (.ref b6)])
  refine step (fun t k => XS.aloadN X61.here hx rfl (hb hby d10_80) rfl rfl k) ?_
  show G T61 (mkF m 81 #[.val (.ref o0), .val (.long q1), .second, .val (.ref b6), .val (.int 4)] [(.ref o0), (.int 0), (.ref b6)])
  have f63 := (Fld.other W56 (Fld.other W53 f52 (Or.inr (slot_ne (Or.inl (ww65 hw)) (Or.inl (ww58 hw)) (by decide) (t := .int) (t' := (.array .long)) (by decide) (by decide)))) (Or.inr (slot_ne (Or.inl (ww65 hw)) (Or.inl (ww67 hw)) (by decide) (t := .int) (t' := .int) (by decide) (by decide))))
  obtain ⟨T62, X62, e62, st62⟩ := getF X61 hx hZ hown (host := "") (Or.inl (ww64 hw)) Via.refl e61 f63 (g := (mkF m 81 #[.val (.ref o0), .val (.long q1), .second, .val (.ref b6), .val (.int 4)] [(.ref o0), (.int 0), (.ref b6)])) rfl rfl (hb hby d10_81)
  refine step st62 ?_
  show G T62 (mkF m 84 #[.val (.ref o0), .val (.long q1), .second, .val (.ref b6), .val (.int 4)] [(.int 4), (.int 0), (.ref b6)])
  refine step (fun t k => XS.iadd X62.here hx rfl (hb hby d10_84) rfl k) ?_
  show G T62 (mkF m 85 #[.val (.ref o0), .val (.long q1), .second, .val (.ref b6), .val (.int 4)] [(.int ((0 : Int32) + (4 : Int32))), (.ref b6)])
  rw [(by decide : ((0 : Int32) + (4 : Int32)) = (4 : Int32))]
  show G T62 (mkF m 85 #[.val (.ref o0), .val (.long q1), .second, .val (.ref b6), .val (.int 4)] [(.int 4), (.ref b6)])
  refine step (fun t k => XS.aloadN X62.here hx rfl (hb hby d10_85) rfl rfl k) ?_
  show G T62 (mkF m 86 #[.val (.ref o0), .val (.long q1), .second, .val (.ref b6), .val (.int 4)] [(.ref o0), (.int 4), (.ref b6)])
  obtain ⟨T64, X64, e64, st64⟩ := getF X62 hx hZ hown (host := "") (Or.inl (ww57 hw)) Via.refl e62 f60 (g := (mkF m 86 #[.val (.ref o0), .val (.long q1), .second, .val (.ref b6), .val (.int 4)] [(.ref o0), (.int 4), (.ref b6)])) rfl rfl (hb hby d10_86)
  refine step st64 ?_
  show G T64 (mkF m 89 #[.val (.ref o0), .val (.long q1), .second, .val (.ref b6), .val (.int 4)] [(.ref b6), (.int 4), (.ref b6)])
  have f65 := (Arv.other (Arv.other V50 W53 (Nat.ne_of_gt lt_o0_b6)) W56 (Nat.ne_of_gt lt_o0_b6))
  have q66 := own_len X64 hx hZ e64 f65 (g := (mkF m 89 #[.val (.ref o0), .val (.long q1), .second, .val (.ref b6), .val (.int 4)] [(.ref b6), (.int 4), (.ref b6)])) rfl rfl (hb hby d10_89)
  refine step q66 ?_
  show G T64 (mkF m 90 #[.val (.ref o0), .val (.long q1), .second, .val (.ref b6), .val (.int 4)] [(.int 8), (.int 4), (.ref b6)])
  refine step (fun t k => iremM X64 hx rfl (hb hby d10_90) rfl (by decide) k) ?_
  show G T64 (mkF m 91 #[.val (.ref o0), .val (.long q1), .second, .val (.ref b6), .val (.int 4)] [(.int ((4 : Int32) % (8 : Int32))), (.ref b6)])
  rw [(by decide : ((4 : Int32) % (8 : Int32)) = (4 : Int32))]
  show G T64 (mkF m 91 #[.val (.ref o0), .val (.long q1), .second, .val (.ref b6), .val (.int 4)] [(.int 4), (.ref b6)])
  refine step (fun t k => XS.lloadN X64.here hx rfl (hb hby d10_91) rfl k) ?_
  show G T64 (mkF m 92 #[.val (.ref o0), .val (.long q1), .second, .val (.ref b6), .val (.int 4)] [(.long q1), (.int 4), (.ref b6)])
  obtain ⟨T67, h67, X67, e67, W67, V67, st67⟩ := own_stJ X64 hx hZ e64 f65 (j := (4 : Int32)) (by decide) (i := 4) rfl (by show 4 < 8; decide) (g := (mkF m 92 #[.val (.ref o0), .val (.long q1), .second, .val (.ref b6), .val (.int 4)] [(.long q1), (.int 4), (.ref b6)])) rfl rfl (hb hby d10_92)
  replace V67 : Arv Z h67 b6 k6 .long (8 : Int32) [(.long x0), (.long x1), (.long x2), (.long x3), (.long q1), (.long 0), (.long 0), (.long 0)] (.long 0) := V67
  have N67 := Fr.snoc X67 N56 ge_b6
  obtain ⟨lc67, X67, N67⟩ := own_gen X67 N67
  have O67 := O56.wr W67 ge_b6
  have K67 : Keep h0 h67 [o0] := K56.wr W67 (Or.inr sz_b6)
  refine step st67 ?_
  show G T67 (mkF m 93 #[.val (.ref o0), .val (.long q1), .second, .val (.ref b6), .val (.int 4)] [])
  refine step (fun t k => XS.aloadN X67.here hx rfl (hb hby d10_93) rfl rfl k) ?_
  show G T67 (mkF m 94 #[.val (.ref o0), .val (.long q1), .second, .val (.ref b6), .val (.int 4)] [(.ref o0)])
  refine step (fun t k => XS.dup X67.here hx rfl (hb hby d10_94) rfl rfl k) ?_
  show G T67 (mkF m 95 #[.val (.ref o0), .val (.long q1), .second, .val (.ref b6), .val (.int 4)] [(.ref o0), (.ref o0)])
  have f69 := (Fld.other W67 f63 (Or.inl (Nat.ne_of_lt lt_o0_b6)))
  obtain ⟨T68, X68, e68, st68⟩ := getF X67 hx hZ hown (host := "") (Or.inl (ww64 hw)) Via.refl e67 f69 (g := (mkF m 95 #[.val (.ref o0), .val (.long q1), .second, .val (.ref b6), .val (.int 4)] [(.ref o0), (.ref o0)])) rfl rfl (hb hby d10_95)
  refine step st68 ?_
  show G T68 (mkF m 98 #[.val (.ref o0), .val (.long q1), .second, .val (.ref b6), .val (.int 4)] [(.int 4), (.ref o0)])
  refine step (fun t k => XS.iconst X68.here hx rfl (hb hby d10_98) k) ?_
  show G T68 (mkF m 99 #[.val (.ref o0), .val (.long q1), .second, .val (.ref b6), .val (.int 4)] [(.int 1), (.int 4), (.ref o0)])
  refine step (fun t k => XS.iadd X68.here hx rfl (hb hby d10_99) rfl k) ?_
  show G T68 (mkF m 100 #[.val (.ref o0), .val (.long q1), .second, .val (.ref b6), .val (.int 4)] [(.int ((4 : Int32) + (1 : Int32))), (.ref o0)])
  rw [(by decide : ((4 : Int32) + (1 : Int32)) = (5 : Int32))]
  show G T68 (mkF m 100 #[.val (.ref o0), .val (.long q1), .second, .val (.ref b6), .val (.int 4)] [(.int 5), (.ref o0)])
  have f71 := (Exa.wr W67 (Exa.wr W56 f58))
  obtain ⟨T70, h70, X70, e70, W70, st70⟩ := putF X68 hx hZ hown (host := "") (Or.inl (ww64 hw)) Via.refl e68 f69 f71 (Or.inl (ww65 hw)) (ww50 hw) (ty := .int) (by decide) rfl rfl (g := (mkF m 100 #[.val (.ref o0), .val (.long q1), .second, .val (.ref b6), .val (.int 4)] [(.int 5), (.ref o0)])) rfl rfl (hb hby d10_100)
  have F70 : Fld Z h70 o0 cn_0 "size" "I" (.int 5) := Fld.same W70 f69
  have N70 := Fr.snoc X70 N67 geo
  obtain ⟨lc70, X70, N70⟩ := own_gen X70 N70
  have O70 := O67.wr W70 geo
  have K70 : Keep h0 h70 [o0] := K67.wr W70 (Or.inl (List.mem_of_getElem? (i := 0) rfl))
  refine step st70 ?_
  show G T70 (mkF m 103 #[.val (.ref o0), .val (.long q1), .second, .val (.ref b6), .val (.int 4)] [])
  have f72 := (Exa.wr W70 f71)
  have f73 := (Fld.other W70 (Fld.other W67 f60 (Or.inl (Nat.ne_of_lt lt_o0_b6))) (Or.inr (slot_ne (Or.inl (ww58 hw)) (Or.inl (ww65 hw)) (by decide) (t := (.array .long)) (t' := .int) (by decide) (by decide))))
  have f74 := (Fld.other W70 (Fld.other W67 F56 (Or.inl (Nat.ne_of_lt lt_o0_b6))) (Or.inr (slot_ne (Or.inl (ww67 hw)) (Or.inl (ww65 hw)) (by decide) (t := .int) (t' := .int) (by decide) (by decide))))
  have f75 := (Arv.other V67 W70 (Nat.ne_of_gt lt_o0_b6))
  exact ret (v := none) X70 (fun _ => rfl) (fun fs hr => X70.returnOut hx Bd.returns (hb hby d10_103) hr) e70 ⟨b6, k6, rfl, N70, K70, sz_b6, f72, f73, f74, F70, f75⟩ (by decide) (by decide)
abbrev rr_for0_8 : Room := { frames := 0, cells := 0, slots := 0, locals := 0 }
theorem ef_for0_8 (m : MethodId) (o0 : Addr) (q1 : Int64) : entryFrame m #[(.ref o0), (.long q1)] 3 = mkF m 0 #[.val (.ref o0), .val (.long q1), .second] [] := by first | (simp [entryFrame, mkF, argsToLocals, Value.category]; done) | rfl
def Q_for0_8 (Z : State) (w_0 : Addr) (w_1 : Addr) (w_2 : Addr) (o0 : Addr) (q1 : Int64) (ar : Addr) (ka : ClassId) (x0 : Int64) (x1 : Int64) (x2 : Int64) (x3 : Int64) (x4 : Int64) (x5 : Int64) (x6 : Int64) (x7 : Int64) (hd : Int32) (sz : Int32) (h0 : Heap) (n0 : Nat) (v : Option Value) (h : Heap) (L : List Loc) : Prop := v = none ∧ Fr n0 L ∧ Keep h0 h [o0] ∧ Exa Z h o0 cn_0 ∧ Fld Z h o0 cn_0 "times" "[J" (.ref ar) ∧ Fld Z h o0 cn_0 "head" "I" (.int hd) ∧ Fld Z h o0 cn_0 "size" "I" (.int sz)
set_option maxRecDepth 65536 in
set_option maxHeartbeats 40000000 in
theorem rm_for0_8 (l : Launch) (Z : State) (a0 : Array Value) (hw : ∀ d ∈ tables_1, d.before a0 Z = true) (ws : List Jvm.Cond) (w_0 : Addr) (w_1 : Addr) (w_2 : Addr) (o0 : Addr) (q1 : Int64) (ar : Addr) (ka : ClassId) (x0 : Int64) (x1 : Int64) (x2 : Int64) (x3 : Int64) (x4 : Int64) (x5 : Int64) (x6 : Int64) (x7 : Int64) (hd : Int32) (sz : Int32) (h0 : Heap) (n0 : Nat) (Z0 : n0 ≤ h0.size) (ST : own_St Z w_0 w_1 w_2) (O0 : Old Z n0 h0) (Ex : Exa Z h0 o0 cn_0) (geo : n0 ≤ o0) (Ft : Fld Z h0 o0 cn_0 "times" "[J" (.ref ar)) (gea : n0 ≤ ar) (Fh : Fld Z h0 o0 cn_0 "head" "I" (.int hd)) (Fs : Fld Z h0 o0 cn_0 "size" "I" (.int sz)) (Va : Arv Z h0 ar ka .long (8 : Int32) [(.long x0), (.long x1), (.long x2), (.long x3), (.long x4), (.long x5), (.long x6), (.long x7)] (.long 0)) (hs0 : (0 : Int32) < sz) (hin : ¬ hd < 0 ∧ hd < (8 : Int32)) (hlt : q1 < (own_at8 x0 x1 x2 x3 x4 x5 x6 x7 hd)) :
    MetFree l y_11 (head1 (Jvm.Cond.code y_11 prog_2_method_5_code 3 none :: ws) rr_for0_8) (fun a U => a = #[(.ref o0), (.long q1)] ∧ Z.Warmed39 U.vm ∧ U.heap = h0) (fun _ _ _ _ _ => True) (fun _ U o U' => ∃ v L, o = .returned v ∧ Q_for0_8 Z w_0 w_1 w_2 o0 q1 ar ka x0 x1 x2 x3 x4 x5 x6 x7 hd sz h0 n0 v U'.heap L ∧ FrameEnd U o U' L rr_for0_8.cells rr_for0_8.slots) := by
  refine MetFree.of_bodySF (plainFor_of_name pn_3) hisR ?_
  intro p e s m args below meth c s₁ Bd hml0 hP hK
  obtain ⟨rfl, hZ, hh⟩ := hP
  have hx := Bd.exec
  have hby := Bd.bytes
  have hml : c.maxLocals = 3 := hml0
  have hown : s.vm.findClass cn_0 = some m.cls := findClass_of_methodNamed Bd.named
  have hnm := (name_of_methodNamed Bd.named Bd.method).1
  have X0 : Stand p l e rr_for0_8 s m #[(.ref o0), (.long q1)] below meth c s₁ [] 0 0 := Stand.of_body Bd
  have e0 : s₁.heap = h0 := by rw [← hh, Bd.state]; rfl
  have N0 := Fr.nil n0
  have K0 : Keep h0 h0 [o0] := Keep.refl _ _
  obtain ⟨G, step, ret, fin⟩ := own_open (p := p) (l := l) (e := e) (R := rr_for0_8) (s := s) (m := m) (args := #[(.ref o0), (.long q1)]) (below := below) (meth := meth) (c := c) (rr_for0_8.cells) (rr_for0_8.slots) (Q_for0_8 Z w_0 w_1 w_2 o0 q1 ar ka x0 x1 x2 x3 x4 x5 x6 x7 hd sz h0 n0) Bd.notSynchronized
  refine fin (g := entryFrame m #[(.ref o0), (.long q1)] 3) ?_
  rw [ef_for0_8 m o0 q1]
  have ne_o0_ar : o0 ≠ ar := own_ne_arv Ex (ww50 hw) Va
  show G s₁ (mkF m 0 #[.val (.ref o0), .val (.long q1), .second] [])
  refine step (fun t k => XS.aloadN X0.here hx rfl (hb hby d11_0) rfl rfl k) ?_
  show G s₁ (mkF m 1 #[.val (.ref o0), .val (.long q1), .second] [(.ref o0)])
  obtain ⟨T1, X1, e1, st1⟩ := getF X0 hx hZ hown (host := "") (Or.inl (ww64 hw)) Via.refl e0 Fs (g := (mkF m 1 #[.val (.ref o0), .val (.long q1), .second] [(.ref o0)])) rfl rfl (hb hby d11_1)
  refine step st1 ?_
  show G T1 (mkF m 4 #[.val (.ref o0), .val (.long q1), .second] [(.int sz)])
  refine step (fun t k => XS.ifNo X1.here hx rfl (hb hby d11_4) rfl ((if0 _ _).trans (tlt hs0).2.2.2) k) ?_
  show G T1 (mkF m 7 #[.val (.ref o0), .val (.long q1), .second] [])
  refine step (fun t k => XS.aloadN X1.here hx rfl (hb hby d11_7) rfl rfl k) ?_
  show G T1 (mkF m 8 #[.val (.ref o0), .val (.long q1), .second] [(.ref o0)])
  obtain ⟨T2, X2, e2, st2⟩ := getF X1 hx hZ hown (host := "") (Or.inl (ww57 hw)) Via.refl e1 Ft (g := (mkF m 8 #[.val (.ref o0), .val (.long q1), .second] [(.ref o0)])) rfl rfl (hb hby d11_8)
  refine step st2 ?_
  show G T2 (mkF m 11 #[.val (.ref o0), .val (.long q1), .second] [(.ref ar)])
  refine step (fun t k => XS.aloadN X2.here hx rfl (hb hby d11_11) rfl rfl k) ?_
  show G T2 (mkF m 12 #[.val (.ref o0), .val (.long q1), .second] [(.ref o0), (.ref ar)])
  obtain ⟨T3, X3, e3, st3⟩ := getF X2 hx hZ hown (host := "") (Or.inl (ww66 hw)) Via.refl e2 Fh (g := (mkF m 12 #[.val (.ref o0), .val (.long q1), .second] [(.ref o0), (.ref ar)])) rfl rfl (hb hby d11_12)
  refine step st3 ?_
  show G T3 (mkF m 15 #[.val (.ref o0), .val (.long q1), .second] [(.int hd), (.ref ar)])
  have q4 := own_ldJ X3 hx hZ e3 Va (j := hd) (v := .long (own_at8 x0 x1 x2 x3 x4 x5 x6 x7 hd)) hin (own_get8 hin) (g := (mkF m 15 #[.val (.ref o0), .val (.long q1), .second] [(.int hd), (.ref ar)])) rfl rfl (hb hby d11_15)
  refine step q4 ?_
  show G T3 (mkF m 16 #[.val (.ref o0), .val (.long q1), .second] [(.long (own_at8 x0 x1 x2 x3 x4 x5 x6 x7 hd))])
  refine step (fun t k => XS.lloadN X3.here hx rfl (hb hby d11_16) rfl k) ?_
  show G T3 (mkF m 17 #[.val (.ref o0), .val (.long q1), .second] [(.long q1), (.long (own_at8 x0 x1 x2 x3 x4 x5 x6 x7 hd))])
  refine step (fun t k => XS.lcmp X3.here hx rfl (hb hby d11_17) rfl k) ?_
  show G T3 (mkF m 18 #[.val (.ref o0), .val (.long q1), .second] [(.int (lcmpW (own_at8 x0 x1 x2 x3 x4 x5 x6 x7 hd) q1))])
  refine step (fun t k => XS.ifYes X3.here hx rfl (pc0 := 18) (pc' := 50) rfl (hb hby d11_18) rfl ((if0 _ _).trans (tlt ((lw_gt _ _).mpr hlt)).2.2.1) (by decide) (by decide) k) ?_
  show G T3 (mkF m 50 #[.val (.ref o0), .val (.long q1), .second] [])
  exact ret (v := none) X3 (fun _ => rfl) (fun fs hr => X3.returnOut hx Bd.returns (hb hby d11_50) hr) e3 ⟨rfl, N0, K0, Ex, Ft, Fh, Fs⟩ (by decide) (by decide)
abbrev rr_cnt0_8 : Room := { frames := 1, cells := 0, slots := 0, locals := 15 }
theorem ef_cnt0_8 (m : MethodId) (o0 : Addr) (o1 : Addr) (q2 : Int64) : entryFrame m #[(.ref o0), (.ref o1), (.long q2)] 4 = mkF m 0 #[.val (.ref o0), .val (.ref o1), .val (.long q2), .second] [] := by first | (simp [entryFrame, mkF, argsToLocals, Value.category]; done) | rfl
def Q_cnt0_8 (Z : State) (w_0 : Addr) (w_1 : Addr) (w_2 : Addr) (o0 : Addr) (o1 : Addr) (q2 : Int64) (ar : Addr) (ka : ClassId) (x0 : Int64) (x1 : Int64) (x2 : Int64) (x3 : Int64) (x4 : Int64) (x5 : Int64) (x6 : Int64) (x7 : Int64) (hd : Int32) (sz : Int32) (mm : Int64) (h0 : Heap) (n0 : Nat) (v : Option Value) (h : Heap) (L : List Loc) : Prop := v = some (.int sz) ∧ Fr n0 L ∧ Keep h0 h [o0] ∧ Exa Z h o0 cn_0 ∧ Fld Z h o0 cn_0 "times" "[J" (.ref ar) ∧ Fld Z h o0 cn_0 "head" "I" (.int hd) ∧ Fld Z h o0 cn_0 "size" "I" (.int sz)
set_option maxRecDepth 65536 in
set_option maxHeartbeats 40000000 in
theorem rm_cnt0_8 (l : Launch) (Z : State) (a0 : Array Value) (hw : ∀ d ∈ tables_1, d.before a0 Z = true) (ws : List Jvm.Cond) (w_0 : Addr) (w_1 : Addr) (w_2 : Addr) (o0 : Addr) (o1 : Addr) (q2 : Int64) (ar : Addr) (ka : ClassId) (x0 : Int64) (x1 : Int64) (x2 : Int64) (x3 : Int64) (x4 : Int64) (x5 : Int64) (x6 : Int64) (x7 : Int64) (hd : Int32) (sz : Int32) (mm : Int64) (h0 : Heap) (n0 : Nat) (Z0 : n0 ≤ h0.size) (ST : own_St Z w_0 w_1 w_2) (O0 : Old Z n0 h0) (Ex : Exa Z h0 o0 cn_0) (geo : n0 ≤ o0) (Ft : Fld Z h0 o0 cn_0 "times" "[J" (.ref ar)) (gea : n0 ≤ ar) (Fh : Fld Z h0 o0 cn_0 "head" "I" (.int hd)) (Fs : Fld Z h0 o0 cn_0 "size" "I" (.int sz)) (Va : Arv Z h0 ar ka .long (8 : Int32) [(.long x0), (.long x1), (.long x2), (.long x3), (.long x4), (.long x5), (.long x6), (.long x7)] (.long 0)) (hs0 : (0 : Int32) < sz) (hin : ¬ hd < 0 ∧ hd < (8 : Int32)) (Ew : Exa Z h0 o1 cn_1) (Fwt : Fld Z h0 o1 cn_1 "type" cn_4 (.ref w_0)) (Fwm : Fld Z h0 o1 cn_1 "millis" "J" (.long mm)) (hlt : (q2 - mm) < (own_at8 x0 x1 x2 x3 x4 x5 x6 x7 hd)) :
    MetFree l y_13 (head1 (Jvm.Cond.code y_13 prog_2_method_2_code 4 (some .int) :: ws) rr_cnt0_8) (fun a U => a = #[(.ref o0), (.ref o1), (.long q2)] ∧ Z.Warmed39 U.vm ∧ U.heap = h0) (fun _ _ _ _ _ => True) (fun _ U o U' => ∃ v L, o = .returned v ∧ Q_cnt0_8 Z w_0 w_1 w_2 o0 o1 q2 ar ka x0 x1 x2 x3 x4 x5 x6 x7 hd sz mm h0 n0 v U'.heap L ∧ FrameEnd U o U' L rr_cnt0_8.cells rr_cnt0_8.slots) := by
  refine MetFree.of_bodySF (plainFor_of_name pn_3) hisR ?_
  intro p e s m args below meth c s₁ Bd hml0 hP hK
  obtain ⟨rfl, hZ, hh⟩ := hP
  have hx := Bd.exec
  have hby := Bd.bytes
  have hml : c.maxLocals = 4 := hml0
  have hown : s.vm.findClass cn_0 = some m.cls := findClass_of_methodNamed Bd.named
  have hnm := (name_of_methodNamed Bd.named Bd.method).1
  have X0 : Stand p l e rr_cnt0_8 s m #[(.ref o0), (.ref o1), (.long q2)] below meth c s₁ [] 0 0 := Stand.of_body Bd
  have e0 : s₁.heap = h0 := by rw [← hh, Bd.state]; rfl
  have N0 := Fr.nil n0
  have K0 : Keep h0 h0 [o0] := Keep.refl _ _
  obtain ⟨G, step, ret, fin⟩ := own_open (p := p) (l := l) (e := e) (R := rr_cnt0_8) (s := s) (m := m) (args := #[(.ref o0), (.ref o1), (.long q2)]) (below := below) (meth := meth) (c := c) (rr_cnt0_8.cells) (rr_cnt0_8.slots) (Q_cnt0_8 Z w_0 w_1 w_2 o0 o1 q2 ar ka x0 x1 x2 x3 x4 x5 x6 x7 hd sz mm h0 n0) Bd.notSynchronized
  refine fin (g := entryFrame m #[(.ref o0), (.ref o1), (.long q2)] 4) ?_
  rw [ef_cnt0_8 m o0 o1 q2]
  have ne_o0_o1 : o0 ≠ o1 := ne_exa Ex Ew (by decide)
  have ne_o0_ar : o0 ≠ ar := own_ne_arv Ex (ww50 hw) Va
  have ne_o1_ar : o1 ≠ ar := own_ne_arv Ew (ww14 hw) Va
  show G s₁ (mkF m 0 #[.val (.ref o0), .val (.ref o1), .val (.long q2), .second] [])
  obtain ⟨T1, X1, e1, st1⟩ := getS2 X0 hx hZ hown (host := "") (Or.inl (ww75 hw)) Via.refl e0 (Sta.ext O0.2 ST.k6) (g := (mkF m 0 #[.val (.ref o0), .val (.ref o1), .val (.long q2), .second] [])) rfl (hb hby d12_0)
  refine step st1 ?_
  show G T1 (mkF m 3 #[.val (.ref o0), .val (.ref o1), .val (.long q2), .second] [(.ref w_2)])
  refine step (fun t k => XS.aloadN X1.here hx rfl (hb hby d12_3) rfl rfl k) ?_
  show G T1 (mkF m 4 #[.val (.ref o0), .val (.ref o1), .val (.long q2), .second] [(.ref o1), (.ref w_2)])
  have hK2 := (backOf (R := rr_cnt0_8) (p := p) (e := e) (below := below) (s := s) (args := #[(.ref o0), (.ref o1), (.long q2)]) (len := 3) (W := 1) (rm_ty l Z a0 hw [] w_0 w_1 w_2 o1 w_0 h0 n0 (own_old_le O0) ST O0 Fwt) hZ (ww82 hw) (ww11 hw) (by decide) (by decide))
  obtain ⟨cq2, kq2, q2a, q2b, q2c⟩ := isOf hZ e1 Ew
  obtain ⟨_, _, ⟨T2, L2, k2, n2⟩, -, X2, ⟨Lc2, hQ2, l2, y2, z2⟩, st2⟩ := X1.virtualBack hx (y := y_5) (z := y_5) hown (mvT hZ (ww78 hw)) (mvT hZ (ww79 hw)) (notFace_of_selects (args := #[]) (mvT hZ (ww81 hw))) (mvT hZ (ww81 hw)) (mvT hZ (ww80 hw)) (by decide) hK2 q2a q2c (g := (mkF m 4 #[.val (.ref o0), .val (.ref o1), .val (.long q2), .second] [(.ref o1), (.ref w_2)])) rfl (by rw [hml]; rfl) (Steps.refl _) (argsL := []) (rest := [(.ref w_2)]) (lenOf pd_6 rfl) rfl (by show 2 * 0 + _ ≤ _; exact Nat.le_of_eq rfl) (hb hby d12_4) (fun _ _ => ⟨rfl, e1, (by decide : 0 + 0 ≤ _), (by decide : 0 + 0 ≤ _)⟩)
  dsimp only [Pt.U, Pt.locs, Pt.cells, Pt.slots] at X2 l2 y2 z2 st2 hQ2
  subst l2 y2 z2
  obtain ⟨rfl, N2q, e2⟩ := hQ2
  have N2 := Fr.app N0 N2q
  obtain ⟨lc2, X2, N2⟩ := own_gen X2 N2
  refine step (fun t k => st2.trans k) ?_
  show G T2 (mkF m 7 #[.val (.ref o0), .val (.ref o1), .val (.long q2), .second] [(.ref (f_ty w_0 w_1 w_2 o1 w_0)), (.ref w_2)])
  have r3 : (f_ty w_0 w_1 w_2 o1 w_0) = w_0 := rfl
  rw [r3]
  show G T2 (mkF m 7 #[.val (.ref o0), .val (.ref o1), .val (.long q2), .second] [(.ref w_0), (.ref w_2)])
  have hK4 := (backOf (R := rr_cnt0_8) (p := p) (e := e) (below := below) (s := s) (args := #[(.ref o0), (.ref o1), (.long q2)]) (len := 3) (W := 1) (rm_od l Z a0 hw [] w_0 w_1 w_2 w_0 (0 : Int32) h0 n0 (own_old_le O0) ST O0 (Fld.ext O0.2 ST.k4)) hZ (ww89 hw) (ww88 hw) (by decide) (by decide))
  obtain ⟨cq4, kq4, q4a, q4b, q4c⟩ := isOf hZ e2 (Exa.ext O0.2 ST.k1)
  obtain ⟨_, _, ⟨T4, L4, k4, n4⟩, -, X4, ⟨Lc4, hQ4, l4, y4, z4⟩, st4⟩ := X2.virtualBackUp hx (x := y_12) (y := y_7) (owner := cn_7) hown (mvT hZ (ww83 hw)) (mvT hZ (ww84 hw)) (mvT hZ (ww85 hw)) (by decide) (mvT hZ (ww87 hw)) (mvT hZ (ww86 hw)) hK4 q4a q4c (g := (mkF m 7 #[.val (.ref o0), .val (.ref o1), .val (.long q2), .second] [(.ref w_0), (.ref w_2)])) rfl (by rw [hml]; rfl) (Steps.refl _) (argsL := []) (rest := [(.ref w_2)]) (lenOf pd_7 rfl) rfl (by show 2 * 0 + _ ≤ _; exact Nat.le_of_eq rfl) (hb hby d12_7) (fun _ _ => ⟨rfl, e2, (by decide : 0 + 0 ≤ _), (by decide : 0 + 0 ≤ _)⟩)
  dsimp only [Pt.U, Pt.locs, Pt.cells, Pt.slots] at X4 l4 y4 z4 st4 hQ4
  subst l4 y4 z4
  obtain ⟨rfl, N4q, e4⟩ := hQ4
  have N4 := Fr.app N2 N4q
  obtain ⟨lc4, X4, N4⟩ := own_gen X4 N4
  refine step (fun t k => st4.trans k) ?_
  show G T4 (mkF m 10 #[.val (.ref o0), .val (.ref o1), .val (.long q2), .second] [(.int (f_od w_0 w_1 w_2 w_0 (0 : Int32))), (.ref w_2)])
  have r5 : (f_od w_0 w_1 w_2 w_0 (0 : Int32)) = (0 : Int32) := rfl
  rw [r5]
  show G T4 (mkF m 10 #[.val (.ref o0), .val (.ref o1), .val (.long q2), .second] [(.int 0), (.ref w_2)])
  obtain ⟨kw6, Vw6⟩ := ST.k7
  have q7 := own_ldI X4 hx hZ e4 (Arv.ext Vw6 O0.2) (j := (0 : Int32)) (v := (.int 1)) (by decide) (own_at (i := 0) rfl rfl) (g := (mkF m 10 #[.val (.ref o0), .val (.ref o1), .val (.long q2), .second] [(.int 0), (.ref w_2)])) rfl rfl (hb hby d12_10)
  refine step q7 ?_
  show G T4 (mkF m 11 #[.val (.ref o0), .val (.ref o1), .val (.long q2), .second] [(.int 1)])
  refine step (fun t k => XS.tswIn X4.here hx rfl (pc0 := 11) (pc' := 36) rfl (hb hby d12_11) rfl (by decide) rfl (by decide) (by decide) k) ?_
  show G T4 (mkF m 36 #[.val (.ref o0), .val (.ref o1), .val (.long q2), .second] [])
  refine step (fun t k => XS.aloadN X4.here hx rfl (hb hby d12_36) rfl rfl k) ?_
  show G T4 (mkF m 37 #[.val (.ref o0), .val (.ref o1), .val (.long q2), .second] [(.ref o0)])
  refine step (fun t k => XS.lloadN X4.here hx rfl (hb hby d12_37) rfl k) ?_
  show G T4 (mkF m 38 #[.val (.ref o0), .val (.ref o1), .val (.long q2), .second] [(.long q2), (.ref o0)])
  refine step (fun t k => XS.aloadN X4.here hx rfl (hb hby d12_38) rfl rfl k) ?_
  show G T4 (mkF m 39 #[.val (.ref o0), .val (.ref o1), .val (.long q2), .second] [(.ref o1), (.long q2), (.ref o0)])
  have hK8 := (backOf (R := rr_cnt0_8) (p := p) (e := e) (below := below) (s := s) (args := #[(.ref o0), (.ref o1), (.long q2)]) (len := 3) (W := 3) (rm_mi l Z a0 hw [] w_0 w_1 w_2 o1 mm h0 n0 (own_old_le O0) ST O0 Fwm) hZ (ww96 hw) (ww11 hw) (by decide) (by decide))
  obtain ⟨cq8, kq8, q8a, q8b, q8c⟩ := isOf hZ e4 Ew
  obtain ⟨_, _, ⟨T8, L8, k8, n8⟩, -, X8, ⟨Lc8, hQ8, l8, y8, z8⟩, st8⟩ := X4.virtualBack hx (y := y_6) (z := y_6) hown (mvT hZ (ww92 hw)) (mvT hZ (ww93 hw)) (notFace_of_selects (args := #[]) (mvT hZ (ww95 hw))) (mvT hZ (ww95 hw)) (mvT hZ (ww94 hw)) (by decide) hK8 q8a q8c (g := (mkF m 39 #[.val (.ref o0), .val (.ref o1), .val (.long q2), .second] [(.ref o1), (.long q2), (.ref o0)])) rfl (by rw [hml]; rfl) (Steps.refl _) (argsL := []) (rest := [(.long q2), (.ref o0)]) (lenOf pd_8 rfl) rfl (by show 2 * 0 + _ ≤ _; exact Nat.le_of_eq rfl) (hb hby d12_39) (fun _ _ => ⟨rfl, e4, (by decide : 0 + 0 ≤ _), (by decide : 0 + 0 ≤ _)⟩)
  dsimp only [Pt.U, Pt.locs, Pt.cells, Pt.slots] at X8 l8 y8 z8 st8 hQ8
  subst l8 y8 z8
  obtain ⟨rfl, N8q, e8⟩ := hQ8
  have N8 := Fr.app N4 N8q
  obtain ⟨lc8, X8, N8⟩ := own_gen X8 N8
  refine step (fun t k => st8.trans k) ?_
  show G T8 (mkF m 42 #[.val (.ref o0), .val (.ref o1), .val (.long q2), .second] [(.long (f_mi w_0 w_1 w_2 o1 mm)), (.long q2), (.ref o0)])
  have r9 : (f_mi w_0 w_1 w_2 o1 mm) = mm := rfl
  rw [r9]
  show G T8 (mkF m 42 #[.val (.ref o0), .val (.ref o1), .val (.long q2), .second] [(.long mm), (.long q2), (.ref o0)])
  refine step (fun t k => XS.lsub X8.here hx rfl (hb hby d12_42) rfl k) ?_
  show G T8 (mkF m 43 #[.val (.ref o0), .val (.ref o1), .val (.long q2), .second] [(.long (q2 - mm)), (.ref o0)])
  have hK10 := (backOf (R := rr_cnt0_8) (p := p) (e := e) (below := below) (s := s) (args := #[(.ref o0), (.ref o1), (.long q2)]) (len := 3) (W := 0) (rm_for0_8 l Z a0 hw [] w_0 w_1 w_2 o0 (q2 - mm) ar ka x0 x1 x2 x3 x4 x5 x6 x7 hd sz h0 n0 (own_old_le O0) ST O0 Ex geo Ft gea Fh Fs Va (hs0 : (0 : Int32) < sz) hin hlt) hZ (ww100 hw) (ww51 hw) (by decide) (by decide))
  obtain ⟨cq10, q10, q10'⟩ := (Ex).cell
  obtain ⟨_, _, ⟨T10, L10, k10, n10⟩, -, X10, ⟨Lc10, hQ10, l10, y10, z10⟩, st10⟩ := X8.privateBack hx (y := y_11) hown (mvT hZ (ww97 hw)) (mvT hZ (ww98 hw)) (own_selpriv hZ (ww99 hw) (ww98 hw) (ww50 hw) (by decide)) (Cond.privateMethod_at (mvP hZ (ww99 hw) (args := #[]))) (mvT hZ (ww100 hw)) (by decide) hK10 (g := (mkF m 43 #[.val (.ref o0), .val (.ref o1), .val (.long q2), .second] [(.long (q2 - mm)), (.ref o0)])) rfl (by rw [hml]; rfl) (Steps.refl _) (a := o0) (by rw [e8]; exact q10) q10' (argsL := [(.long (q2 - mm))]) (rest := []) (lenOf pd_5 rfl) rfl (by show 2 * 0 + _ ≤ _; exact Nat.le_of_eq rfl) (hb hby d12_43) (fun _ _ => ⟨rfl, e8, (by decide : 0 + 0 ≤ _), (by decide : 0 + 0 ≤ _)⟩)
  dsimp only [Pt.U, Pt.locs, Pt.cells, Pt.slots] at X10 l10 y10 z10 st10 hQ10
  subst l10 y10 z10
  obtain ⟨rfl, N10q, K10q, Y10_0, Y10_1, Y10_2, Y10_3⟩ := hQ10
  have N10 := Fr.app N8 N10q
  obtain ⟨lc10, X10, N10⟩ := own_gen X10 N10
  have O10 := O0.keep K10q (allS geo all0)
  have K10 : Keep h0 T10.heap [o0] := K0.trans K10q (allS (Or.inl (List.mem_of_getElem? (i := 0) rfl)) all0)
  refine step (fun t k => st10.trans k) ?_
  show G T10 (mkF m 46 #[.val (.ref o0), .val (.ref o1), .val (.long q2), .second] [])
  refine step (fun t k => XS.goto X10.here hx rfl (pc0 := 46) (pc' := 132) rfl (hb hby d12_46) (by decide) (by decide) k) ?_
  show G T10 (mkF m 132 #[.val (.ref o0), .val (.ref o1), .val (.long q2), .second] [])
  refine step (fun t k => XS.aloadN X10.here hx rfl (hb hby d12_132) rfl rfl k) ?_
  show G T10 (mkF m 133 #[.val (.ref o0), .val (.ref o1), .val (.long q2), .second] [(.ref o0)])
  obtain ⟨T11, X11, e11, st11⟩ := getF X10 hx hZ hown (host := "") (Or.inl (ww64 hw)) Via.refl rfl Y10_3 (g := (mkF m 133 #[.val (.ref o0), .val (.ref o1), .val (.long q2), .second] [(.ref o0)])) rfl rfl (hb hby d12_133)
  refine step st11 ?_
  show G T11 (mkF m 136 #[.val (.ref o0), .val (.ref o1), .val (.long q2), .second] [(.int sz)])
  exact ret (v := some (.int sz)) X11 (fun h => by rw [Bd.returns] at h; cases h) (fun fs hr => retI X11 hx Bd.returns (hb hby d12_136) hr) e11 ⟨rfl, N10, K10, Y10_0, Y10_1, Y10_2, Y10_3⟩ (by decide) (by decide)
abbrev rr_get8 : Room := { frames := 0, cells := 0, slots := 0, locals := 0 }
theorem ef_get8 (m : MethodId) (o0 : Addr) (p1 : Int32) : entryFrame m #[(.ref o0), (.int p1)] 2 = mkF m 0 #[.val (.ref o0), .val (.int p1)] [] := by first | (simp [entryFrame, mkF, argsToLocals, Value.category]; done) | rfl
def f_get8 (w_0 : Addr) (w_1 : Addr) (w_2 : Addr) (o0 : Addr) (p1 : Int32) (ar : Addr) (ka : ClassId) (x0 : Int64) (x1 : Int64) (x2 : Int64) (x3 : Int64) (x4 : Int64) (x5 : Int64) (x6 : Int64) (x7 : Int64) (hd : Int32) : Int64 := (own_at8 x0 x1 x2 x3 x4 x5 x6 x7 ((hd + p1) % (8 : Int32)))
def Q_get8 (Z : State) (w_0 : Addr) (w_1 : Addr) (w_2 : Addr) (o0 : Addr) (p1 : Int32) (ar : Addr) (ka : ClassId) (x0 : Int64) (x1 : Int64) (x2 : Int64) (x3 : Int64) (x4 : Int64) (x5 : Int64) (x6 : Int64) (x7 : Int64) (hd : Int32) (h0 : Heap) (n0 : Nat) (v : Option Value) (h : Heap) (L : List Loc) : Prop := v = some (.long (f_get8 w_0 w_1 w_2 o0 p1 ar ka x0 x1 x2 x3 x4 x5 x6 x7 hd)) ∧ Fr n0 L ∧ h = h0
set_option maxRecDepth 65536 in
set_option maxHeartbeats 40000000 in
theorem rm_get8 (l : Launch) (Z : State) (a0 : Array Value) (hw : ∀ d ∈ tables_1, d.before a0 Z = true) (ws : List Jvm.Cond) (w_0 : Addr) (w_1 : Addr) (w_2 : Addr) (o0 : Addr) (p1 : Int32) (ar : Addr) (ka : ClassId) (x0 : Int64) (x1 : Int64) (x2 : Int64) (x3 : Int64) (x4 : Int64) (x5 : Int64) (x6 : Int64) (x7 : Int64) (hd : Int32) (h0 : Heap) (n0 : Nat) (Z0 : n0 ≤ h0.size) (ST : own_St Z w_0 w_1 w_2) (O0 : Old Z n0 h0) (Ft : Fld Z h0 o0 cn_0 "times" "[J" (.ref ar)) (Fh : Fld Z h0 o0 cn_0 "head" "I" (.int hd)) (Va : Arv Z h0 ar ka .long (8 : Int32) [(.long x0), (.long x1), (.long x2), (.long x3), (.long x4), (.long x5), (.long x6), (.long x7)] (.long 0)) (hix : ¬ ((hd + p1) % (8 : Int32)) < 0 ∧ ((hd + p1) % (8 : Int32)) < (8 : Int32)) :
    MetFree l y_14 (head1 (Jvm.Cond.code y_14 prog_2_method_3_code 2 (some .long) :: ws) rr_get8) (fun a U => a = #[(.ref o0), (.int p1)] ∧ Z.Warmed39 U.vm ∧ U.heap = h0) (fun _ _ _ _ _ => True) (fun _ U o U' => ∃ v L, o = .returned v ∧ Q_get8 Z w_0 w_1 w_2 o0 p1 ar ka x0 x1 x2 x3 x4 x5 x6 x7 hd h0 n0 v U'.heap L ∧ FrameEnd U o U' L rr_get8.cells rr_get8.slots) := by
  refine MetFree.of_bodySF (plainFor_of_name pn_3) hisR ?_
  intro p e s m args below meth c s₁ Bd hml0 hP hK
  obtain ⟨rfl, hZ, hh⟩ := hP
  have hx := Bd.exec
  have hby := Bd.bytes
  have hml : c.maxLocals = 2 := hml0
  have hown : s.vm.findClass cn_0 = some m.cls := findClass_of_methodNamed Bd.named
  have hnm := (name_of_methodNamed Bd.named Bd.method).1
  have X0 : Stand p l e rr_get8 s m #[(.ref o0), (.int p1)] below meth c s₁ [] 0 0 := Stand.of_body Bd
  have e0 : s₁.heap = h0 := by rw [← hh, Bd.state]; rfl
  have N0 := Fr.nil n0
  obtain ⟨G, step, ret, fin⟩ := own_open (p := p) (l := l) (e := e) (R := rr_get8) (s := s) (m := m) (args := #[(.ref o0), (.int p1)]) (below := below) (meth := meth) (c := c) (rr_get8.cells) (rr_get8.slots) (Q_get8 Z w_0 w_1 w_2 o0 p1 ar ka x0 x1 x2 x3 x4 x5 x6 x7 hd h0 n0) Bd.notSynchronized
  refine fin (g := entryFrame m #[(.ref o0), (.int p1)] 2) ?_
  rw [ef_get8 m o0 p1]
  show G s₁ (mkF m 0 #[.val (.ref o0), .val (.int p1)] [])
  refine step (fun t k => XS.aloadN X0.here hx rfl (hb hby d13_0) rfl rfl k) ?_
  show G s₁ (mkF m 1 #[.val (.ref o0), .val (.int p1)] [(.ref o0)])
  obtain ⟨T1, X1, e1, st1⟩ := getF X0 hx hZ hown (host := "") (Or.inl (ww57 hw)) Via.refl e0 Ft (g := (mkF m 1 #[.val (.ref o0), .val (.int p1)] [(.ref o0)])) rfl rfl (hb hby d13_1)
  refine step st1 ?_
  show G T1 (mkF m 4 #[.val (.ref o0), .val (.int p1)] [(.ref ar)])
  refine step (fun t k => XS.aloadN X1.here hx rfl (hb hby d13_4) rfl rfl k) ?_
  show G T1 (mkF m 5 #[.val (.ref o0), .val (.int p1)] [(.ref o0), (.ref ar)])
  obtain ⟨T2, X2, e2, st2⟩ := getF X1 hx hZ hown (host := "") (Or.inl (ww66 hw)) Via.refl e1 Fh (g := (mkF m 5 #[.val (.ref o0), .val (.int p1)] [(.ref o0), (.ref ar)])) rfl rfl (hb hby d13_5)
  refine step st2 ?_
  show G T2 (mkF m 8 #[.val (.ref o0), .val (.int p1)] [(.int hd), (.ref ar)])
  refine step (fun t k => XS.iloadN X2.here hx rfl (hb hby d13_8) rfl k) ?_
  show G T2 (mkF m 9 #[.val (.ref o0), .val (.int p1)] [(.int p1), (.int hd), (.ref ar)])
  refine step (fun t k => XS.iadd X2.here hx rfl (hb hby d13_9) rfl k) ?_
  show G T2 (mkF m 10 #[.val (.ref o0), .val (.int p1)] [(.int (hd + p1)), (.ref ar)])
  refine step (fun t k => XS.aloadN X2.here hx rfl (hb hby d13_10) rfl rfl k) ?_
  show G T2 (mkF m 11 #[.val (.ref o0), .val (.int p1)] [(.ref o0), (.int (hd + p1)), (.ref ar)])
  obtain ⟨T3, X3, e3, st3⟩ := getF X2 hx hZ hown (host := "") (Or.inl (ww57 hw)) Via.refl e2 Ft (g := (mkF m 11 #[.val (.ref o0), .val (.int p1)] [(.ref o0), (.int (hd + p1)), (.ref ar)])) rfl rfl (hb hby d13_11)
  refine step st3 ?_
  show G T3 (mkF m 14 #[.val (.ref o0), .val (.int p1)] [(.ref ar), (.int (hd + p1)), (.ref ar)])
  have q4 := own_len X3 hx hZ e3 Va (g := (mkF m 14 #[.val (.ref o0), .val (.int p1)] [(.ref ar), (.int (hd + p1)), (.ref ar)])) rfl rfl (hb hby d13_14)
  refine step q4 ?_
  show G T3 (mkF m 15 #[.val (.ref o0), .val (.int p1)] [(.int 8), (.int (hd + p1)), (.ref ar)])
  refine step (fun t k => iremM X3 hx rfl (hb hby d13_15) rfl (by decide) k) ?_
  show G T3 (mkF m 16 #[.val (.ref o0), .val (.int p1)] [(.int ((hd + p1) % (8 : Int32))), (.ref ar)])
  have q5 := own_ldJ X3 hx hZ e3 Va (j := ((hd + p1) % (8 : Int32))) (v := .long (own_at8 x0 x1 x2 x3 x4 x5 x6 x7 ((hd + p1) % (8 : Int32)))) hix (own_get8 hix) (g := (mkF m 16 #[.val (.ref o0), .val (.int p1)] [(.int ((hd + p1) % (8 : Int32))), (.ref ar)])) rfl rfl (hb hby d13_16)
  refine step q5 ?_
  show G T3 (mkF m 17 #[.val (.ref o0), .val (.int p1)] [(.long (own_at8 x0 x1 x2 x3 x4 x5 x6 x7 ((hd + p1) % (8 : Int32))))])
  exact ret (v := some (.long (own_at8 x0 x1 x2 x3 x4 x5 x6 x7 ((hd + p1) % (8 : Int32))))) X3 (fun h => by rw [Bd.returns] at h; cases h) (fun fs hr => retL X3 hx Bd.returns (hb hby d13_17) hr) e3 ⟨rfl, N0, rfl⟩ (by decide) (by decide)
theorem ww108 {Z : State} {a0 : Array Value} (hw : ∀ d ∈ tables_1, d.before a0 Z = true) : Jvm.Cond.before (Jvm.Cond.constantLong cn_3 (45 : Nat) (5 : Int64)) a0 Z = true := hw _ (List.mem_of_getElem? (i := 108) rfl)
abbrev rr_add_8_5 : Room := { frames := 0, cells := 0, slots := 0, locals := 0 }
theorem ef_add_8_5 (m : MethodId) (o0 : Addr) (q1 : Int64) : entryFrame m #[(.ref o0), (.long q1)] 5 = mkF m 0 #[.val (.ref o0), .val (.long q1), .second, .unset, .unset] [] := by first | (simp [entryFrame, mkF, argsToLocals, Value.category]; done) | rfl
def Q_add_8_5 (Z : State) (w_0 : Addr) (w_1 : Addr) (w_2 : Addr) (o0 : Addr) (q1 : Int64) (ar : Addr) (ka : ClassId) (x0 : Int64) (x1 : Int64) (x2 : Int64) (x3 : Int64) (x4 : Int64) (x5 : Int64) (x6 : Int64) (x7 : Int64) (hd : Int32) (sz : Int32) (sz1 : Int32) (h0 : Heap) (n0 : Nat) (v : Option Value) (h : Heap) (L : List Loc) : Prop := v = none ∧ Fr n0 L ∧ Keep h0 h [o0, ar] ∧ Exa Z h o0 cn_0 ∧ Fld Z h o0 cn_0 "times" "[J" (.ref ar) ∧ Fld Z h o0 cn_0 "head" "I" (.int hd) ∧ Fld Z h o0 cn_0 "size" "I" (.int sz1) ∧ Arv Z h ar ka .long (8 : Int32) [(.long x0), (.long x1), (.long x2), (.long x3), (.long x4), (.long q1), (.long x6), (.long x7)] (.long 0)
set_option maxRecDepth 65536 in
set_option maxHeartbeats 40000000 in
theorem rm_add_8_5 (l : Launch) (Z : State) (a0 : Array Value) (hw : ∀ d ∈ tables_1, d.before a0 Z = true) (ws : List Jvm.Cond) (w_0 : Addr) (w_1 : Addr) (w_2 : Addr) (o0 : Addr) (q1 : Int64) (ar : Addr) (ka : ClassId) (x0 : Int64) (x1 : Int64) (x2 : Int64) (x3 : Int64) (x4 : Int64) (x5 : Int64) (x6 : Int64) (x7 : Int64) (hd : Int32) (sz : Int32) (sz1 : Int32) (h0 : Heap) (n0 : Nat) (Z0 : n0 ≤ h0.size) (ST : own_St Z w_0 w_1 w_2) (O0 : Old Z n0 h0) (Ex : Exa Z h0 o0 cn_0) (geo : n0 ≤ o0) (Ft : Fld Z h0 o0 cn_0 "times" "[J" (.ref ar)) (gea : n0 ≤ ar) (Fh : Fld Z h0 o0 cn_0 "head" "I" (.int hd)) (Fs : Fld Z h0 o0 cn_0 "size" "I" (.int sz)) (Va : Arv Z h0 ar ka .long (8 : Int32) [(.long x0), (.long x1), (.long x2), (.long x3), (.long x4), (.long x5), (.long x6), (.long x7)] (.long 0)) (hne : ¬ (sz = (8 : Int32))) (hs1 : (sz + (1 : Int32)) = sz1) (hix : ((hd + sz) % (8 : Int32)) = (5 : Int32)) :
    MetFree l y_10 (head1 (Jvm.Cond.code y_10 prog_2_method_4_code 5 none :: ws) rr_add_8_5) (fun a U => a = #[(.ref o0), (.long q1)] ∧ Z.Warmed39 U.vm ∧ U.heap = h0) (fun _ _ _ _ _ => True) (fun _ U o U' => ∃ v L, o = .returned v ∧ Q_add_8_5 Z w_0 w_1 w_2 o0 q1 ar ka x0 x1 x2 x3 x4 x5 x6 x7 hd sz sz1 h0 n0 v U'.heap L ∧ FrameEnd U o U' L rr_add_8_5.cells rr_add_8_5.slots) := by
  refine MetFree.of_bodySF (plainFor_of_name pn_3) hisR ?_
  intro p e s m args below meth c s₁ Bd hml0 hP hK
  obtain ⟨rfl, hZ, hh⟩ := hP
  have hx := Bd.exec
  have hby := Bd.bytes
  have hml : c.maxLocals = 5 := hml0
  have hown : s.vm.findClass cn_0 = some m.cls := findClass_of_methodNamed Bd.named
  have hnm := (name_of_methodNamed Bd.named Bd.method).1
  have X0 : Stand p l e rr_add_8_5 s m #[(.ref o0), (.long q1)] below meth c s₁ [] 0 0 := Stand.of_body Bd
  have e0 : s₁.heap = h0 := by rw [← hh, Bd.state]; rfl
  have N0 := Fr.nil n0
  have K0 : Keep h0 h0 [o0, ar] := Keep.refl _ _
  obtain ⟨G, step, ret, fin⟩ := own_open (p := p) (l := l) (e := e) (R := rr_add_8_5) (s := s) (m := m) (args := #[(.ref o0), (.long q1)]) (below := below) (meth := meth) (c := c) (rr_add_8_5.cells) (rr_add_8_5.slots) (Q_add_8_5 Z w_0 w_1 w_2 o0 q1 ar ka x0 x1 x2 x3 x4 x5 x6 x7 hd sz sz1 h0 n0) Bd.notSynchronized
  refine fin (g := entryFrame m #[(.ref o0), (.long q1)] 5) ?_
  rw [ef_add_8_5 m o0 q1]
  have ne_o0_ar : o0 ≠ ar := own_ne_arv Ex (ww50 hw) Va
  show G s₁ (mkF m 0 #[.val (.ref o0), .val (.long q1), .second, .unset, .unset] [])
  refine step (fun t k => XS.aloadN X0.here hx rfl (hb hby d10_0) rfl rfl k) ?_
  show G s₁ (mkF m 1 #[.val (.ref o0), .val (.long q1), .second, .unset, .unset] [(.ref o0)])
  obtain ⟨T1, X1, e1, st1⟩ := getF X0 hx hZ hown (host := "") (Or.inl (ww64 hw)) Via.refl e0 Fs (g := (mkF m 1 #[.val (.ref o0), .val (.long q1), .second, .unset, .unset] [(.ref o0)])) rfl rfl (hb hby d10_1)
  refine step st1 ?_
  show G T1 (mkF m 4 #[.val (.ref o0), .val (.long q1), .second, .unset, .unset] [(.int sz)])
  refine step (fun t k => XS.aloadN X1.here hx rfl (hb hby d10_4) rfl rfl k) ?_
  show G T1 (mkF m 5 #[.val (.ref o0), .val (.long q1), .second, .unset, .unset] [(.ref o0), (.int sz)])
  obtain ⟨T2, X2, e2, st2⟩ := getF X1 hx hZ hown (host := "") (Or.inl (ww57 hw)) Via.refl e1 Ft (g := (mkF m 5 #[.val (.ref o0), .val (.long q1), .second, .unset, .unset] [(.ref o0), (.int sz)])) rfl rfl (hb hby d10_5)
  refine step st2 ?_
  show G T2 (mkF m 8 #[.val (.ref o0), .val (.long q1), .second, .unset, .unset] [(.ref ar), (.int sz)])
  have q3 := own_len X2 hx hZ e2 Va (g := (mkF m 8 #[.val (.ref o0), .val (.long q1), .second, .unset, .unset] [(.ref ar), (.int sz)])) rfl rfl (hb hby d10_8)
  refine step q3 ?_
  show G T2 (mkF m 9 #[.val (.ref o0), .val (.long q1), .second, .unset, .unset] [(.int 8), (.int sz)])
  refine step (fun t k => XS.icmpYes X2.here hx rfl (pc0 := 9) (pc' := 72) rfl (hb hby d10_9) rfl (feq hne).2 (by decide) (by decide) k) ?_
  show G T2 (mkF m 72 #[.val (.ref o0), .val (.long q1), .second, .unset, .unset] [])
  refine step (fun t k => XS.aloadN X2.here hx rfl (hb hby d10_72) rfl rfl k) ?_
  show G T2 (mkF m 73 #[.val (.ref o0), .val (.long q1), .second, .unset, .unset] [(.ref o0)])
  obtain ⟨T4, X4, e4, st4⟩ := getF X2 hx hZ hown (host := "") (Or.inl (ww57 hw)) Via.refl e2 Ft (g := (mkF m 73 #[.val (.ref o0), .val (.long q1), .second, .unset, .unset] [(.ref o0)])) rfl rfl (hb hby d10_73)
  refine step st4 ?_
  show G T4 (mkF m 76 #[.val (.ref o0), .val (.long q1), .second, .unset, .unset] [(.ref ar)])
  refine step (fun t k => XS.aloadN X4.here hx rfl (hb hby d10_76) rfl rfl k) ?_
  show G T4 (mkF m 77 #[.val (.ref o0), .val (.long q1), .second, .unset, .unset] [(.ref o0), (.ref ar)])
  obtain ⟨T5, X5, e5, st5⟩ := getF X4 hx hZ hown (host := "") (Or.inl (ww66 hw)) Via.refl e4 Fh (g := (mkF m 77 #[.val (.ref o0), .val (.long q1), .second, .unset, .unset] [(.ref o0), (.ref ar)])) rfl rfl (hb hby d10_77)
  refine step st5 ?_
  show G T5 (mkF m 80 #[.val (.ref o0), .val (.long q1), .second, .unset, .unset] [(.int hd), (.ref ar)])
  refine step (fun t k => XS.aloadN X5.here hx rfl (hb hby d10_80) rfl rfl k) ?_
  show G T5 (mkF m 81 #[.val (.ref o0), .val (.long q1), .second, .unset, .unset] [(.ref o0), (.int hd), (.ref ar)])
  obtain ⟨T6, X6, e6, st6⟩ := getF X5 hx hZ hown (host := "") (Or.inl (ww64 hw)) Via.refl e5 Fs (g := (mkF m 81 #[.val (.ref o0), .val (.long q1), .second, .unset, .unset] [(.ref o0), (.int hd), (.ref ar)])) rfl rfl (hb hby d10_81)
  refine step st6 ?_
  show G T6 (mkF m 84 #[.val (.ref o0), .val (.long q1), .second, .unset, .unset] [(.int sz), (.int hd), (.ref ar)])
  refine step (fun t k => XS.iadd X6.here hx rfl (hb hby d10_84) rfl k) ?_
  show G T6 (mkF m 85 #[.val (.ref o0), .val (.long q1), .second, .unset, .unset] [(.int (hd + sz)), (.ref ar)])
  refine step (fun t k => XS.aloadN X6.here hx rfl (hb hby d10_85) rfl rfl k) ?_
  show G T6 (mkF m 86 #[.val (.ref o0), .val (.long q1), .second, .unset, .unset] [(.ref o0), (.int (hd + sz)), (.ref ar)])
  obtain ⟨T7, X7, e7, st7⟩ := getF X6 hx hZ hown (host := "") (Or.inl (ww57 hw)) Via.refl e6 Ft (g := (mkF m 86 #[.val (.ref o0), .val (.long q1), .second, .unset, .unset] [(.ref o0), (.int (hd + sz)), (.ref ar)])) rfl rfl (hb hby d10_86)
  refine step st7 ?_
  show G T7 (mkF m 89 #[.val (.ref o0), .val (.long q1), .second, .unset, .unset] [(.ref ar), (.int (hd + sz)), (.ref ar)])
  have q8 := own_len X7 hx hZ e7 Va (g := (mkF m 89 #[.val (.ref o0), .val (.long q1), .second, .unset, .unset] [(.ref ar), (.int (hd + sz)), (.ref ar)])) rfl rfl (hb hby d10_89)
  refine step q8 ?_
  show G T7 (mkF m 90 #[.val (.ref o0), .val (.long q1), .second, .unset, .unset] [(.int 8), (.int (hd + sz)), (.ref ar)])
  refine step (fun t k => iremM X7 hx rfl (hb hby d10_90) rfl (by decide) k) ?_
  show G T7 (mkF m 91 #[.val (.ref o0), .val (.long q1), .second, .unset, .unset] [(.int ((hd + sz) % (8 : Int32))), (.ref ar)])
  rw [hix]
  show G T7 (mkF m 91 #[.val (.ref o0), .val (.long q1), .second, .unset, .unset] [(.int 5), (.ref ar)])
  refine step (fun t k => XS.lloadN X7.here hx rfl (hb hby d10_91) rfl k) ?_
  show G T7 (mkF m 92 #[.val (.ref o0), .val (.long q1), .second, .unset, .unset] [(.long q1), (.int 5), (.ref ar)])
  obtain ⟨T9, h9, X9, e9, W9, V9, st9⟩ := own_stJ X7 hx hZ e7 Va (j := (5 : Int32)) (by decide) (i := 5) rfl (by show 5 < 8; decide) (g := (mkF m 92 #[.val (.ref o0), .val (.long q1), .second, .unset, .unset] [(.long q1), (.int 5), (.ref ar)])) rfl rfl (hb hby d10_92)
  replace V9 : Arv Z h9 ar ka .long (8 : Int32) [(.long x0), (.long x1), (.long x2), (.long x3), (.long x4), (.long q1), (.long x6), (.long x7)] (.long 0) := V9
  have N9 := Fr.snoc X9 N0 gea
  obtain ⟨lc9, X9, N9⟩ := own_gen X9 N9
  have O9 := O0.wr W9 gea
  have K9 : Keep h0 h9 [o0, ar] := K0.wr W9 (Or.inl (List.mem_of_getElem? (i := 1) rfl))
  refine step st9 ?_
  show G T9 (mkF m 93 #[.val (.ref o0), .val (.long q1), .second, .unset, .unset] [])
  refine step (fun t k => XS.aloadN X9.here hx rfl (hb hby d10_93) rfl rfl k) ?_
  show G T9 (mkF m 94 #[.val (.ref o0), .val (.long q1), .second, .unset, .unset] [(.ref o0)])
  refine step (fun t k => XS.dup X9.here hx rfl (hb hby d10_94) rfl rfl k) ?_
  show G T9 (mkF m 95 #[.val (.ref o0), .val (.long q1), .second, .unset, .unset] [(.ref o0), (.ref o0)])
  have f11 := (Fld.other W9 Fs (Or.inl ne_o0_ar))
  obtain ⟨T10, X10, e10, st10⟩ := getF X9 hx hZ hown (host := "") (Or.inl (ww64 hw)) Via.refl e9 f11 (g := (mkF m 95 #[.val (.ref o0), .val (.long q1), .second, .unset, .unset] [(.ref o0), (.ref o0)])) rfl rfl (hb hby d10_95)
  refine step st10 ?_
  show G T10 (mkF m 98 #[.val (.ref o0), .val (.long q1), .second, .unset, .unset] [(.int sz), (.ref o0)])
  refine step (fun t k => XS.iconst X10.here hx rfl (hb hby d10_98) k) ?_
  show G T10 (mkF m 99 #[.val (.ref o0), .val (.long q1), .second, .unset, .unset] [(.int 1), (.int sz), (.ref o0)])
  refine step (fun t k => XS.iadd X10.here hx rfl (hb hby d10_99) rfl k) ?_
  show G T10 (mkF m 100 #[.val (.ref o0), .val (.long q1), .second, .unset, .unset] [(.int (sz + (1 : Int32))), (.ref o0)])
  rw [hs1]
  show G T10 (mkF m 100 #[.val (.ref o0), .val (.long q1), .second, .unset, .unset] [(.int sz1), (.ref o0)])
  have f13 := (Exa.wr W9 Ex)
  obtain ⟨T12, h12, X12, e12, W12, st12⟩ := putF X10 hx hZ hown (host := "") (Or.inl (ww64 hw)) Via.refl e10 f11 f13 (Or.inl (ww65 hw)) (ww50 hw) (ty := .int) (by decide) rfl rfl (g := (mkF m 100 #[.val (.ref o0), .val (.long q1), .second, .unset, .unset] [(.int sz1), (.ref o0)])) rfl rfl (hb hby d10_100)
  have F12 : Fld Z h12 o0 cn_0 "size" "I" (.int sz1) := Fld.same W12 f11
  have N12 := Fr.snoc X12 N9 geo
  obtain ⟨lc12, X12, N12⟩ := own_gen X12 N12
  have O12 := O9.wr W12 geo
  have K12 : Keep h0 h12 [o0, ar] := K9.wr W12 (Or.inl (List.mem_of_getElem? (i := 0) rfl))
  refine step st12 ?_
  show G T12 (mkF m 103 #[.val (.ref o0), .val (.long q1), .second, .unset, .unset] [])
  have f14 := (Exa.wr W12 f13)
  have f15 := (Fld.other W12 (Fld.other W9 Ft (Or.inl ne_o0_ar)) (Or.inr (slot_ne (Or.inl (ww58 hw)) (Or.inl (ww65 hw)) (by decide) (t := (.array .long)) (t' := .int) (by decide) (by decide))))
  have f16 := (Fld.other W12 (Fld.other W9 Fh (Or.inl ne_o0_ar)) (Or.inr (slot_ne (Or.inl (ww67 hw)) (Or.inl (ww65 hw)) (by decide) (t := .int) (t' := .int) (by decide) (by decide))))
  have f17 := (Arv.other V9 W12 (Ne.symm ne_o0_ar))
  exact ret (v := none) X12 (fun _ => rfl) (fun fs hr => X12.returnOut hx Bd.returns (hb hby d10_103) hr) e12 ⟨rfl, N12, K12, f14, f15, f16, F12, f17⟩ (by decide) (by decide)
theorem ww109 {Z : State} {a0 : Array Value} (hw : ∀ d ∈ tables_1, d.before a0 Z = true) : Jvm.Cond.before (Jvm.Cond.constantLong cn_3 (47 : Nat) (6 : Int64)) a0 Z = true := hw _ (List.mem_of_getElem? (i := 109) rfl)
abbrev rr_add_8_6 : Room := { frames := 0, cells := 0, slots := 0, locals := 0 }
theorem ef_add_8_6 (m : MethodId) (o0 : Addr) (q1 : Int64) : entryFrame m #[(.ref o0), (.long q1)] 5 = mkF m 0 #[.val (.ref o0), .val (.long q1), .second, .unset, .unset] [] := by first | (simp [entryFrame, mkF, argsToLocals, Value.category]; done) | rfl
def Q_add_8_6 (Z : State) (w_0 : Addr) (w_1 : Addr) (w_2 : Addr) (o0 : Addr) (q1 : Int64) (ar : Addr) (ka : ClassId) (x0 : Int64) (x1 : Int64) (x2 : Int64) (x3 : Int64) (x4 : Int64) (x5 : Int64) (x6 : Int64) (x7 : Int64) (hd : Int32) (sz : Int32) (sz1 : Int32) (h0 : Heap) (n0 : Nat) (v : Option Value) (h : Heap) (L : List Loc) : Prop := v = none ∧ Fr n0 L ∧ Keep h0 h [o0, ar] ∧ Exa Z h o0 cn_0 ∧ Fld Z h o0 cn_0 "times" "[J" (.ref ar) ∧ Fld Z h o0 cn_0 "head" "I" (.int hd) ∧ Fld Z h o0 cn_0 "size" "I" (.int sz1) ∧ Arv Z h ar ka .long (8 : Int32) [(.long x0), (.long x1), (.long x2), (.long x3), (.long x4), (.long x5), (.long q1), (.long x7)] (.long 0)
set_option maxRecDepth 65536 in
set_option maxHeartbeats 40000000 in
theorem rm_add_8_6 (l : Launch) (Z : State) (a0 : Array Value) (hw : ∀ d ∈ tables_1, d.before a0 Z = true) (ws : List Jvm.Cond) (w_0 : Addr) (w_1 : Addr) (w_2 : Addr) (o0 : Addr) (q1 : Int64) (ar : Addr) (ka : ClassId) (x0 : Int64) (x1 : Int64) (x2 : Int64) (x3 : Int64) (x4 : Int64) (x5 : Int64) (x6 : Int64) (x7 : Int64) (hd : Int32) (sz : Int32) (sz1 : Int32) (h0 : Heap) (n0 : Nat) (Z0 : n0 ≤ h0.size) (ST : own_St Z w_0 w_1 w_2) (O0 : Old Z n0 h0) (Ex : Exa Z h0 o0 cn_0) (geo : n0 ≤ o0) (Ft : Fld Z h0 o0 cn_0 "times" "[J" (.ref ar)) (gea : n0 ≤ ar) (Fh : Fld Z h0 o0 cn_0 "head" "I" (.int hd)) (Fs : Fld Z h0 o0 cn_0 "size" "I" (.int sz)) (Va : Arv Z h0 ar ka .long (8 : Int32) [(.long x0), (.long x1), (.long x2), (.long x3), (.long x4), (.long x5), (.long x6), (.long x7)] (.long 0)) (hne : ¬ (sz = (8 : Int32))) (hs1 : (sz + (1 : Int32)) = sz1) (hix : ((hd + sz) % (8 : Int32)) = (6 : Int32)) :
    MetFree l y_10 (head1 (Jvm.Cond.code y_10 prog_2_method_4_code 5 none :: ws) rr_add_8_6) (fun a U => a = #[(.ref o0), (.long q1)] ∧ Z.Warmed39 U.vm ∧ U.heap = h0) (fun _ _ _ _ _ => True) (fun _ U o U' => ∃ v L, o = .returned v ∧ Q_add_8_6 Z w_0 w_1 w_2 o0 q1 ar ka x0 x1 x2 x3 x4 x5 x6 x7 hd sz sz1 h0 n0 v U'.heap L ∧ FrameEnd U o U' L rr_add_8_6.cells rr_add_8_6.slots) := by
  refine MetFree.of_bodySF (plainFor_of_name pn_3) hisR ?_
  intro p e s m args below meth c s₁ Bd hml0 hP hK
  obtain ⟨rfl, hZ, hh⟩ := hP
  have hx := Bd.exec
  have hby := Bd.bytes
  have hml : c.maxLocals = 5 := hml0
  have hown : s.vm.findClass cn_0 = some m.cls := findClass_of_methodNamed Bd.named
  have hnm := (name_of_methodNamed Bd.named Bd.method).1
  have X0 : Stand p l e rr_add_8_6 s m #[(.ref o0), (.long q1)] below meth c s₁ [] 0 0 := Stand.of_body Bd
  have e0 : s₁.heap = h0 := by rw [← hh, Bd.state]; rfl
  have N0 := Fr.nil n0
  have K0 : Keep h0 h0 [o0, ar] := Keep.refl _ _
  obtain ⟨G, step, ret, fin⟩ := own_open (p := p) (l := l) (e := e) (R := rr_add_8_6) (s := s) (m := m) (args := #[(.ref o0), (.long q1)]) (below := below) (meth := meth) (c := c) (rr_add_8_6.cells) (rr_add_8_6.slots) (Q_add_8_6 Z w_0 w_1 w_2 o0 q1 ar ka x0 x1 x2 x3 x4 x5 x6 x7 hd sz sz1 h0 n0) Bd.notSynchronized
  refine fin (g := entryFrame m #[(.ref o0), (.long q1)] 5) ?_
  rw [ef_add_8_6 m o0 q1]
  have ne_o0_ar : o0 ≠ ar := own_ne_arv Ex (ww50 hw) Va
  show G s₁ (mkF m 0 #[.val (.ref o0), .val (.long q1), .second, .unset, .unset] [])
  refine step (fun t k => XS.aloadN X0.here hx rfl (hb hby d10_0) rfl rfl k) ?_
  show G s₁ (mkF m 1 #[.val (.ref o0), .val (.long q1), .second, .unset, .unset] [(.ref o0)])
  obtain ⟨T1, X1, e1, st1⟩ := getF X0 hx hZ hown (host := "") (Or.inl (ww64 hw)) Via.refl e0 Fs (g := (mkF m 1 #[.val (.ref o0), .val (.long q1), .second, .unset, .unset] [(.ref o0)])) rfl rfl (hb hby d10_1)
  refine step st1 ?_
  show G T1 (mkF m 4 #[.val (.ref o0), .val (.long q1), .second, .unset, .unset] [(.int sz)])
  refine step (fun t k => XS.aloadN X1.here hx rfl (hb hby d10_4) rfl rfl k) ?_
  show G T1 (mkF m 5 #[.val (.ref o0), .val (.long q1), .second, .unset, .unset] [(.ref o0), (.int sz)])
  obtain ⟨T2, X2, e2, st2⟩ := getF X1 hx hZ hown (host := "") (Or.inl (ww57 hw)) Via.refl e1 Ft (g := (mkF m 5 #[.val (.ref o0), .val (.long q1), .second, .unset, .unset] [(.ref o0), (.int sz)])) rfl rfl (hb hby d10_5)
  refine step st2 ?_
  show G T2 (mkF m 8 #[.val (.ref o0), .val (.long q1), .second, .unset, .unset] [(.ref ar), (.int sz)])
  have q3 := own_len X2 hx hZ e2 Va (g := (mkF m 8 #[.val (.ref o0), .val (.long q1), .second, .unset, .unset] [(.ref ar), (.int sz)])) rfl rfl (hb hby d10_8)
  refine step q3 ?_
  show G T2 (mkF m 9 #[.val (.ref o0), .val (.long q1), .second, .unset, .unset] [(.int 8), (.int sz)])
  refine step (fun t k => XS.icmpYes X2.here hx rfl (pc0 := 9) (pc' := 72) rfl (hb hby d10_9) rfl (feq hne).2 (by decide) (by decide) k) ?_
  show G T2 (mkF m 72 #[.val (.ref o0), .val (.long q1), .second, .unset, .unset] [])
  refine step (fun t k => XS.aloadN X2.here hx rfl (hb hby d10_72) rfl rfl k) ?_
  show G T2 (mkF m 73 #[.val (.ref o0), .val (.long q1), .second, .unset, .unset] [(.ref o0)])
  obtain ⟨T4, X4, e4, st4⟩ := getF X2 hx hZ hown (host := "") (Or.inl (ww57 hw)) Via.refl e2 Ft (g := (mkF m 73 #[.val (.ref o0), .val (.long q1), .second, .unset, .unset] [(.ref o0)])) rfl rfl (hb hby d10_73)
  refine step st4 ?_
  show G T4 (mkF m 76 #[.val (.ref o0), .val (.long q1), .second, .unset, .unset] [(.ref ar)])
  refine step (fun t k => XS.aloadN X4.here hx rfl (hb hby d10_76) rfl rfl k) ?_
  show G T4 (mkF m 77 #[.val (.ref o0), .val (.long q1), .second, .unset, .unset] [(.ref o0), (.ref ar)])
  obtain ⟨T5, X5, e5, st5⟩ := getF X4 hx hZ hown (host := "") (Or.inl (ww66 hw)) Via.refl e4 Fh (g := (mkF m 77 #[.val (.ref o0), .val (.long q1), .second, .unset, .unset] [(.ref o0), (.ref ar)])) rfl rfl (hb hby d10_77)
  refine step st5 ?_
  show G T5 (mkF m 80 #[.val (.ref o0), .val (.long q1), .second, .unset, .unset] [(.int hd), (.ref ar)])
  refine step (fun t k => XS.aloadN X5.here hx rfl (hb hby d10_80) rfl rfl k) ?_
  show G T5 (mkF m 81 #[.val (.ref o0), .val (.long q1), .second, .unset, .unset] [(.ref o0), (.int hd), (.ref ar)])
  obtain ⟨T6, X6, e6, st6⟩ := getF X5 hx hZ hown (host := "") (Or.inl (ww64 hw)) Via.refl e5 Fs (g := (mkF m 81 #[.val (.ref o0), .val (.long q1), .second, .unset, .unset] [(.ref o0), (.int hd), (.ref ar)])) rfl rfl (hb hby d10_81)
  refine step st6 ?_
  show G T6 (mkF m 84 #[.val (.ref o0), .val (.long q1), .second, .unset, .unset] [(.int sz), (.int hd), (.ref ar)])
  refine step (fun t k => XS.iadd X6.here hx rfl (hb hby d10_84) rfl k) ?_
  show G T6 (mkF m 85 #[.val (.ref o0), .val (.long q1), .second, .unset, .unset] [(.int (hd + sz)), (.ref ar)])
  refine step (fun t k => XS.aloadN X6.here hx rfl (hb hby d10_85) rfl rfl k) ?_
  show G T6 (mkF m 86 #[.val (.ref o0), .val (.long q1), .second, .unset, .unset] [(.ref o0), (.int (hd + sz)), (.ref ar)])
  obtain ⟨T7, X7, e7, st7⟩ := getF X6 hx hZ hown (host := "") (Or.inl (ww57 hw)) Via.refl e6 Ft (g := (mkF m 86 #[.val (.ref o0), .val (.long q1), .second, .unset, .unset] [(.ref o0), (.int (hd + sz)), (.ref ar)])) rfl rfl (hb hby d10_86)
  refine step st7 ?_
  show G T7 (mkF m 89 #[.val (.ref o0), .val (.long q1), .second, .unset, .unset] [(.ref ar), (.int (hd + sz)), (.ref ar)])
  have q8 := own_len X7 hx hZ e7 Va (g := (mkF m 89 #[.val (.ref o0), .val (.long q1), .second, .unset, .unset] [(.ref ar), (.int (hd + sz)), (.ref ar)])) rfl rfl (hb hby d10_89)
  refine step q8 ?_
  show G T7 (mkF m 90 #[.val (.ref o0), .val (.long q1), .second, .unset, .unset] [(.int 8), (.int (hd + sz)), (.ref ar)])
  refine step (fun t k => iremM X7 hx rfl (hb hby d10_90) rfl (by decide) k) ?_
  show G T7 (mkF m 91 #[.val (.ref o0), .val (.long q1), .second, .unset, .unset] [(.int ((hd + sz) % (8 : Int32))), (.ref ar)])
  rw [hix]
  show G T7 (mkF m 91 #[.val (.ref o0), .val (.long q1), .second, .unset, .unset] [(.int 6), (.ref ar)])
  refine step (fun t k => XS.lloadN X7.here hx rfl (hb hby d10_91) rfl k) ?_
  show G T7 (mkF m 92 #[.val (.ref o0), .val (.long q1), .second, .unset, .unset] [(.long q1), (.int 6), (.ref ar)])
  obtain ⟨T9, h9, X9, e9, W9, V9, st9⟩ := own_stJ X7 hx hZ e7 Va (j := (6 : Int32)) (by decide) (i := 6) rfl (by show 6 < 8; decide) (g := (mkF m 92 #[.val (.ref o0), .val (.long q1), .second, .unset, .unset] [(.long q1), (.int 6), (.ref ar)])) rfl rfl (hb hby d10_92)
  replace V9 : Arv Z h9 ar ka .long (8 : Int32) [(.long x0), (.long x1), (.long x2), (.long x3), (.long x4), (.long x5), (.long q1), (.long x7)] (.long 0) := V9
  have N9 := Fr.snoc X9 N0 gea
  obtain ⟨lc9, X9, N9⟩ := own_gen X9 N9
  have O9 := O0.wr W9 gea
  have K9 : Keep h0 h9 [o0, ar] := K0.wr W9 (Or.inl (List.mem_of_getElem? (i := 1) rfl))
  refine step st9 ?_
  show G T9 (mkF m 93 #[.val (.ref o0), .val (.long q1), .second, .unset, .unset] [])
  refine step (fun t k => XS.aloadN X9.here hx rfl (hb hby d10_93) rfl rfl k) ?_
  show G T9 (mkF m 94 #[.val (.ref o0), .val (.long q1), .second, .unset, .unset] [(.ref o0)])
  refine step (fun t k => XS.dup X9.here hx rfl (hb hby d10_94) rfl rfl k) ?_
  show G T9 (mkF m 95 #[.val (.ref o0), .val (.long q1), .second, .unset, .unset] [(.ref o0), (.ref o0)])
  have f11 := (Fld.other W9 Fs (Or.inl ne_o0_ar))
  obtain ⟨T10, X10, e10, st10⟩ := getF X9 hx hZ hown (host := "") (Or.inl (ww64 hw)) Via.refl e9 f11 (g := (mkF m 95 #[.val (.ref o0), .val (.long q1), .second, .unset, .unset] [(.ref o0), (.ref o0)])) rfl rfl (hb hby d10_95)
  refine step st10 ?_
  show G T10 (mkF m 98 #[.val (.ref o0), .val (.long q1), .second, .unset, .unset] [(.int sz), (.ref o0)])
  refine step (fun t k => XS.iconst X10.here hx rfl (hb hby d10_98) k) ?_
  show G T10 (mkF m 99 #[.val (.ref o0), .val (.long q1), .second, .unset, .unset] [(.int 1), (.int sz), (.ref o0)])
  refine step (fun t k => XS.iadd X10.here hx rfl (hb hby d10_99) rfl k) ?_
  show G T10 (mkF m 100 #[.val (.ref o0), .val (.long q1), .second, .unset, .unset] [(.int (sz + (1 : Int32))), (.ref o0)])
  rw [hs1]
  show G T10 (mkF m 100 #[.val (.ref o0), .val (.long q1), .second, .unset, .unset] [(.int sz1), (.ref o0)])
  have f13 := (Exa.wr W9 Ex)
  obtain ⟨T12, h12, X12, e12, W12, st12⟩ := putF X10 hx hZ hown (host := "") (Or.inl (ww64 hw)) Via.refl e10 f11 f13 (Or.inl (ww65 hw)) (ww50 hw) (ty := .int) (by decide) rfl rfl (g := (mkF m 100 #[.val (.ref o0), .val (.long q1), .second, .unset, .unset] [(.int sz1), (.ref o0)])) rfl rfl (hb hby d10_100)
  have F12 : Fld Z h12 o0 cn_0 "size" "I" (.int sz1) := Fld.same W12 f11
  have N12 := Fr.snoc X12 N9 geo
  obtain ⟨lc12, X12, N12⟩ := own_gen X12 N12
  have O12 := O9.wr W12 geo
  have K12 : Keep h0 h12 [o0, ar] := K9.wr W12 (Or.inl (List.mem_of_getElem? (i := 0) rfl))
  refine step st12 ?_
  show G T12 (mkF m 103 #[.val (.ref o0), .val (.long q1), .second, .unset, .unset] [])
  have f14 := (Exa.wr W12 f13)
  have f15 := (Fld.other W12 (Fld.other W9 Ft (Or.inl ne_o0_ar)) (Or.inr (slot_ne (Or.inl (ww58 hw)) (Or.inl (ww65 hw)) (by decide) (t := (.array .long)) (t' := .int) (by decide) (by decide))))
  have f16 := (Fld.other W12 (Fld.other W9 Fh (Or.inl ne_o0_ar)) (Or.inr (slot_ne (Or.inl (ww67 hw)) (Or.inl (ww65 hw)) (by decide) (t := .int) (t' := .int) (by decide) (by decide))))
  have f17 := (Arv.other V9 W12 (Ne.symm ne_o0_ar))
  exact ret (v := none) X12 (fun _ => rfl) (fun fs hr => X12.returnOut hx Bd.returns (hb hby d10_103) hr) e12 ⟨rfl, N12, K12, f14, f15, f16, F12, f17⟩ (by decide) (by decide)
theorem d11_21 : decode prog_2_method_5_code 21 = .ok (.aload_n 0, 1) := by decide +kernel
theorem d11_22 : decode prog_2_method_5_code 22 = .ok (.aload_n 0, 1) := by decide +kernel
theorem d11_23 : decode prog_2_method_5_code 23 = .ok (.getfield 47, 3) := by decide +kernel
theorem d11_26 : decode prog_2_method_5_code 26 = .ok (.iconst 1, 1) := by decide +kernel
theorem d11_27 : decode prog_2_method_5_code 27 = .ok (.iadd, 1) := by decide +kernel
theorem d11_28 : decode prog_2_method_5_code 28 = .ok (.aload_n 0, 1) := by decide +kernel
theorem d11_29 : decode prog_2_method_5_code 29 = .ok (.getfield 7, 3) := by decide +kernel
theorem d11_32 : decode prog_2_method_5_code 32 = .ok (.arraylength, 1) := by decide +kernel
theorem d11_33 : decode prog_2_method_5_code 33 = .ok (.irem, 1) := by decide +kernel
theorem d11_34 : decode prog_2_method_5_code 34 = .ok (.putfield 47, 3) := by decide +kernel
theorem d11_37 : decode prog_2_method_5_code 37 = .ok (.aload_n 0, 1) := by decide +kernel
theorem d11_38 : decode prog_2_method_5_code 38 = .ok (.dup, 1) := by decide +kernel
theorem d11_39 : decode prog_2_method_5_code 39 = .ok (.getfield 43, 3) := by decide +kernel
theorem d11_42 : decode prog_2_method_5_code 42 = .ok (.iconst 1, 1) := by decide +kernel
theorem d11_43 : decode prog_2_method_5_code 43 = .ok (.isub, 1) := by decide +kernel
theorem d11_44 : decode prog_2_method_5_code 44 = .ok (.putfield 43, 3) := by decide +kernel
theorem d11_47 : decode prog_2_method_5_code 47 = .ok (.goto (-47), 3) := by decide +kernel
abbrev rr_for_4_0_4_1 : Room := { frames := 0, cells := 0, slots := 0, locals := 0 }
theorem ef_for_4_0_4_1 (m : MethodId) (o0 : Addr) (q1 : Int64) : entryFrame m #[(.ref o0), (.long q1)] 3 = mkF m 0 #[.val (.ref o0), .val (.long q1), .second] [] := by first | (simp [entryFrame, mkF, argsToLocals, Value.category]; done) | rfl
def Q_for_4_0_4_1 (Z : State) (w_0 : Addr) (w_1 : Addr) (w_2 : Addr) (o0 : Addr) (q1 : Int64) (ar : Addr) (ka : ClassId) (x0 : Int64) (x1 : Int64) (x2 : Int64) (x3 : Int64) (h0 : Heap) (n0 : Nat) (v : Option Value) (h : Heap) (L : List Loc) : Prop := v = none ∧ Fr n0 L ∧ Keep h0 h [o0] ∧ Exa Z h o0 cn_0 ∧ Fld Z h o0 cn_0 "times" "[J" (.ref ar) ∧ Fld Z h o0 cn_0 "head" "I" (.int 1) ∧ Fld Z h o0 cn_0 "size" "I" (.int 3)
set_option maxRecDepth 65536 in
set_option maxHeartbeats 40000000 in
theorem rm_for_4_0_4_1 (l : Launch) (Z : State) (a0 : Array Value) (hw : ∀ d ∈ tables_1, d.before a0 Z = true) (ws : List Jvm.Cond) (w_0 : Addr) (w_1 : Addr) (w_2 : Addr) (o0 : Addr) (q1 : Int64) (ar : Addr) (ka : ClassId) (x0 : Int64) (x1 : Int64) (x2 : Int64) (x3 : Int64) (h0 : Heap) (n0 : Nat) (Z0 : n0 ≤ h0.size) (ST : own_St Z w_0 w_1 w_2) (O0 : Old Z n0 h0) (Ex : Exa Z h0 o0 cn_0) (geo : n0 ≤ o0) (Ft : Fld Z h0 o0 cn_0 "times" "[J" (.ref ar)) (gea : n0 ≤ ar) (Fh : Fld Z h0 o0 cn_0 "head" "I" (.int 0)) (Fs : Fld Z h0 o0 cn_0 "size" "I" (.int 4)) (Va : Arv Z h0 ar ka .long (4 : Int32) [(.long x0), (.long x1), (.long x2), (.long x3)] (.long 0)) (hp0 : ¬ (q1 < x0)) (hp1 : q1 < x1) :
    MetFree l y_11 (head1 (Jvm.Cond.code y_11 prog_2_method_5_code 3 none :: ws) rr_for_4_0_4_1) (fun a U => a = #[(.ref o0), (.long q1)] ∧ Z.Warmed39 U.vm ∧ U.heap = h0) (fun _ _ _ _ _ => True) (fun _ U o U' => ∃ v L, o = .returned v ∧ Q_for_4_0_4_1 Z w_0 w_1 w_2 o0 q1 ar ka x0 x1 x2 x3 h0 n0 v U'.heap L ∧ FrameEnd U o U' L rr_for_4_0_4_1.cells rr_for_4_0_4_1.slots) := by
  refine MetFree.of_bodySF (plainFor_of_name pn_3) hisR ?_
  intro p e s m args below meth c s₁ Bd hml0 hP hK
  obtain ⟨rfl, hZ, hh⟩ := hP
  have hx := Bd.exec
  have hby := Bd.bytes
  have hml : c.maxLocals = 3 := hml0
  have hown : s.vm.findClass cn_0 = some m.cls := findClass_of_methodNamed Bd.named
  have hnm := (name_of_methodNamed Bd.named Bd.method).1
  have X0 : Stand p l e rr_for_4_0_4_1 s m #[(.ref o0), (.long q1)] below meth c s₁ [] 0 0 := Stand.of_body Bd
  have e0 : s₁.heap = h0 := by rw [← hh, Bd.state]; rfl
  have N0 := Fr.nil n0
  have K0 : Keep h0 h0 [o0] := Keep.refl _ _
  obtain ⟨G, step, ret, fin⟩ := own_open (p := p) (l := l) (e := e) (R := rr_for_4_0_4_1) (s := s) (m := m) (args := #[(.ref o0), (.long q1)]) (below := below) (meth := meth) (c := c) (rr_for_4_0_4_1.cells) (rr_for_4_0_4_1.slots) (Q_for_4_0_4_1 Z w_0 w_1 w_2 o0 q1 ar ka x0 x1 x2 x3 h0 n0) Bd.notSynchronized
  refine fin (g := entryFrame m #[(.ref o0), (.long q1)] 3) ?_
  rw [ef_for_4_0_4_1 m o0 q1]
  have ne_o0_ar : o0 ≠ ar := own_ne_arv Ex (ww50 hw) Va
  show G s₁ (mkF m 0 #[.val (.ref o0), .val (.long q1), .second] [])
  refine step (fun t k => XS.aloadN X0.here hx rfl (hb hby d11_0) rfl rfl k) ?_
  show G s₁ (mkF m 1 #[.val (.ref o0), .val (.long q1), .second] [(.ref o0)])
  obtain ⟨T1, X1, e1, st1⟩ := getF X0 hx hZ hown (host := "") (Or.inl (ww64 hw)) Via.refl e0 Fs (g := (mkF m 1 #[.val (.ref o0), .val (.long q1), .second] [(.ref o0)])) rfl rfl (hb hby d11_1)
  refine step st1 ?_
  show G T1 (mkF m 4 #[.val (.ref o0), .val (.long q1), .second] [(.int 4)])
  refine step (fun t k => XS.ifNo X1.here hx rfl (hb hby d11_4) rfl ((if0 _ _).trans (tlt (by decide : (0 : Int32) < (4 : Int32))).2.2.2) k) ?_
  show G T1 (mkF m 7 #[.val (.ref o0), .val (.long q1), .second] [])
  refine step (fun t k => XS.aloadN X1.here hx rfl (hb hby d11_7) rfl rfl k) ?_
  show G T1 (mkF m 8 #[.val (.ref o0), .val (.long q1), .second] [(.ref o0)])
  obtain ⟨T2, X2, e2, st2⟩ := getF X1 hx hZ hown (host := "") (Or.inl (ww57 hw)) Via.refl e1 Ft (g := (mkF m 8 #[.val (.ref o0), .val (.long q1), .second] [(.ref o0)])) rfl rfl (hb hby d11_8)
  refine step st2 ?_
  show G T2 (mkF m 11 #[.val (.ref o0), .val (.long q1), .second] [(.ref ar)])
  refine step (fun t k => XS.aloadN X2.here hx rfl (hb hby d11_11) rfl rfl k) ?_
  show G T2 (mkF m 12 #[.val (.ref o0), .val (.long q1), .second] [(.ref o0), (.ref ar)])
  obtain ⟨T3, X3, e3, st3⟩ := getF X2 hx hZ hown (host := "") (Or.inl (ww66 hw)) Via.refl e2 Fh (g := (mkF m 12 #[.val (.ref o0), .val (.long q1), .second] [(.ref o0), (.ref ar)])) rfl rfl (hb hby d11_12)
  refine step st3 ?_
  show G T3 (mkF m 15 #[.val (.ref o0), .val (.long q1), .second] [(.int 0), (.ref ar)])
  have q4 := own_ldJ X3 hx hZ e3 Va (j := (0 : Int32)) (v := (.long x0)) (by decide) (own_at (i := 0) rfl rfl) (g := (mkF m 15 #[.val (.ref o0), .val (.long q1), .second] [(.int 0), (.ref ar)])) rfl rfl (hb hby d11_15)
  refine step q4 ?_
  show G T3 (mkF m 16 #[.val (.ref o0), .val (.long q1), .second] [(.long x0)])
  refine step (fun t k => XS.lloadN X3.here hx rfl (hb hby d11_16) rfl k) ?_
  show G T3 (mkF m 17 #[.val (.ref o0), .val (.long q1), .second] [(.long q1), (.long x0)])
  refine step (fun t k => XS.lcmp X3.here hx rfl (hb hby d11_17) rfl k) ?_
  show G T3 (mkF m 18 #[.val (.ref o0), .val (.long q1), .second] [(.int (lcmpW x0 q1))])
  refine step (fun t k => XS.ifNo X3.here hx rfl (hb hby d11_18) rfl ((if0 _ _).trans (flt (fun q => hp0 ((lw_gt _ _).mp q))).2.2.1) k) ?_
  show G T3 (mkF m 21 #[.val (.ref o0), .val (.long q1), .second] [])
  refine step (fun t k => XS.aloadN X3.here hx rfl (hb hby d11_21) rfl rfl k) ?_
  show G T3 (mkF m 22 #[.val (.ref o0), .val (.long q1), .second] [(.ref o0)])
  refine step (fun t k => XS.aloadN X3.here hx rfl (hb hby d11_22) rfl rfl k) ?_
  show G T3 (mkF m 23 #[.val (.ref o0), .val (.long q1), .second] [(.ref o0), (.ref o0)])
  obtain ⟨T5, X5, e5, st5⟩ := getF X3 hx hZ hown (host := "") (Or.inl (ww66 hw)) Via.refl e3 Fh (g := (mkF m 23 #[.val (.ref o0), .val (.long q1), .second] [(.ref o0), (.ref o0)])) rfl rfl (hb hby d11_23)
  refine step st5 ?_
  show G T5 (mkF m 26 #[.val (.ref o0), .val (.long q1), .second] [(.int 0), (.ref o0)])
  refine step (fun t k => XS.iconst X5.here hx rfl (hb hby d11_26) k) ?_
  show G T5 (mkF m 27 #[.val (.ref o0), .val (.long q1), .second] [(.int 1), (.int 0), (.ref o0)])
  refine step (fun t k => XS.iadd X5.here hx rfl (hb hby d11_27) rfl k) ?_
  show G T5 (mkF m 28 #[.val (.ref o0), .val (.long q1), .second] [(.int ((0 : Int32) + (1 : Int32))), (.ref o0)])
  rw [(by decide : ((0 : Int32) + (1 : Int32)) = (1 : Int32))]
  show G T5 (mkF m 28 #[.val (.ref o0), .val (.long q1), .second] [(.int 1), (.ref o0)])
  refine step (fun t k => XS.aloadN X5.here hx rfl (hb hby d11_28) rfl rfl k) ?_
  show G T5 (mkF m 29 #[.val (.ref o0), .val (.long q1), .second] [(.ref o0), (.int 1), (.ref o0)])
  obtain ⟨T6, X6, e6, st6⟩ := getF X5 hx hZ hown (host := "") (Or.inl (ww57 hw)) Via.refl e5 Ft (g := (mkF m 29 #[.val (.ref o0), .val (.long q1), .second] [(.ref o0), (.int 1), (.ref o0)])) rfl rfl (hb hby d11_29)
  refine step st6 ?_
  show G T6 (mkF m 32 #[.val (.ref o0), .val (.long q1), .second] [(.ref ar), (.int 1), (.ref o0)])
  have q7 := own_len X6 hx hZ e6 Va (g := (mkF m 32 #[.val (.ref o0), .val (.long q1), .second] [(.ref ar), (.int 1), (.ref o0)])) rfl rfl (hb hby d11_32)
  refine step q7 ?_
  show G T6 (mkF m 33 #[.val (.ref o0), .val (.long q1), .second] [(.int 4), (.int 1), (.ref o0)])
  refine step (fun t k => iremM X6 hx rfl (hb hby d11_33) rfl (by decide) k) ?_
  show G T6 (mkF m 34 #[.val (.ref o0), .val (.long q1), .second] [(.int ((1 : Int32) % (4 : Int32))), (.ref o0)])
  rw [(by decide : ((1 : Int32) % (4 : Int32)) = (1 : Int32))]
  show G T6 (mkF m 34 #[.val (.ref o0), .val (.long q1), .second] [(.int 1), (.ref o0)])
  obtain ⟨T8, h8, X8, e8, W8, st8⟩ := putF X6 hx hZ hown (host := "") (Or.inl (ww66 hw)) Via.refl e6 Fh Ex (Or.inl (ww67 hw)) (ww50 hw) (ty := .int) (by decide) rfl rfl (g := (mkF m 34 #[.val (.ref o0), .val (.long q1), .second] [(.int 1), (.ref o0)])) rfl rfl (hb hby d11_34)
  have F8 : Fld Z h8 o0 cn_0 "head" "I" (.int 1) := Fld.same W8 Fh
  have N8 := Fr.snoc X8 N0 geo
  obtain ⟨lc8, X8, N8⟩ := own_gen X8 N8
  have O8 := O0.wr W8 geo
  have K8 : Keep h0 h8 [o0] := K0.wr W8 (Or.inl (List.mem_of_getElem? (i := 0) rfl))
  refine step st8 ?_
  show G T8 (mkF m 37 #[.val (.ref o0), .val (.long q1), .second] [])
  refine step (fun t k => XS.aloadN X8.here hx rfl (hb hby d11_37) rfl rfl k) ?_
  show G T8 (mkF m 38 #[.val (.ref o0), .val (.long q1), .second] [(.ref o0)])
  refine step (fun t k => XS.dup X8.here hx rfl (hb hby d11_38) rfl rfl k) ?_
  show G T8 (mkF m 39 #[.val (.ref o0), .val (.long q1), .second] [(.ref o0), (.ref o0)])
  have f10 := (Fld.other W8 Fs (Or.inr (slot_ne (Or.inl (ww65 hw)) (Or.inl (ww67 hw)) (by decide) (t := .int) (t' := .int) (by decide) (by decide))))
  obtain ⟨T9, X9, e9, st9⟩ := getF X8 hx hZ hown (host := "") (Or.inl (ww64 hw)) Via.refl e8 f10 (g := (mkF m 39 #[.val (.ref o0), .val (.long q1), .second] [(.ref o0), (.ref o0)])) rfl rfl (hb hby d11_39)
  refine step st9 ?_
  show G T9 (mkF m 42 #[.val (.ref o0), .val (.long q1), .second] [(.int 4), (.ref o0)])
  refine step (fun t k => XS.iconst X9.here hx rfl (hb hby d11_42) k) ?_
  show G T9 (mkF m 43 #[.val (.ref o0), .val (.long q1), .second] [(.int 1), (.int 4), (.ref o0)])
  refine step (fun t k => XS.isub X9.here hx rfl (hb hby d11_43) rfl k) ?_
  show G T9 (mkF m 44 #[.val (.ref o0), .val (.long q1), .second] [(.int ((4 : Int32) - (1 : Int32))), (.ref o0)])
  rw [(by decide : ((4 : Int32) - (1 : Int32)) = (3 : Int32))]
  show G T9 (mkF m 44 #[.val (.ref o0), .val (.long q1), .second] [(.int 3), (.ref o0)])
  have f12 := (Exa.wr W8 Ex)
  obtain ⟨T11, h11, X11, e11, W11, st11⟩ := putF X9 hx hZ hown (host := "") (Or.inl (ww64 hw)) Via.refl e9 f10 f12 (Or.inl (ww65 hw)) (ww50 hw) (ty := .int) (by decide) rfl rfl (g := (mkF m 44 #[.val (.ref o0), .val (.long q1), .second] [(.int 3), (.ref o0)])) rfl rfl (hb hby d11_44)
  have F11 : Fld Z h11 o0 cn_0 "size" "I" (.int 3) := Fld.same W11 f10
  have N11 := Fr.snoc X11 N8 geo
  obtain ⟨lc11, X11, N11⟩ := own_gen X11 N11
  have O11 := O8.wr W11 geo
  have K11 : Keep h0 h11 [o0] := K8.wr W11 (Or.inl (List.mem_of_getElem? (i := 0) rfl))
  refine step st11 ?_
  show G T11 (mkF m 47 #[.val (.ref o0), .val (.long q1), .second] [])
  refine step (fun t k => XS.goto X11.here hx rfl (pc0 := 47) (pc' := 0) rfl (hb hby d11_47) (by decide) (by decide) k) ?_
  show G T11 (mkF m 0 #[.val (.ref o0), .val (.long q1), .second] [])
  refine step (fun t k => XS.aloadN X11.here hx rfl (hb hby d11_0) rfl rfl k) ?_
  show G T11 (mkF m 1 #[.val (.ref o0), .val (.long q1), .second] [(.ref o0)])
  obtain ⟨T13, X13, e13, st13⟩ := getF X11 hx hZ hown (host := "") (Or.inl (ww64 hw)) Via.refl e11 F11 (g := (mkF m 1 #[.val (.ref o0), .val (.long q1), .second] [(.ref o0)])) rfl rfl (hb hby d11_1)
  refine step st13 ?_
  show G T13 (mkF m 4 #[.val (.ref o0), .val (.long q1), .second] [(.int 3)])
  refine step (fun t k => XS.ifNo X13.here hx rfl (hb hby d11_4) rfl ((if0 _ _).trans (tlt (by decide : (0 : Int32) < (3 : Int32))).2.2.2) k) ?_
  show G T13 (mkF m 7 #[.val (.ref o0), .val (.long q1), .second] [])
  refine step (fun t k => XS.aloadN X13.here hx rfl (hb hby d11_7) rfl rfl k) ?_
  show G T13 (mkF m 8 #[.val (.ref o0), .val (.long q1), .second] [(.ref o0)])
  have f15 := (Fld.other W11 (Fld.other W8 Ft (Or.inr (slot_ne (Or.inl (ww58 hw)) (Or.inl (ww67 hw)) (by decide) (t := (.array .long)) (t' := .int) (by decide) (by decide)))) (Or.inr (slot_ne (Or.inl (ww58 hw)) (Or.inl (ww65 hw)) (by decide) (t := (.array .long)) (t' := .int) (by decide) (by decide))))
  obtain ⟨T14, X14, e14, st14⟩ := getF X13 hx hZ hown (host := "") (Or.inl (ww57 hw)) Via.refl e13 f15 (g := (mkF m 8 #[.val (.ref o0), .val (.long q1), .second] [(.ref o0)])) rfl rfl (hb hby d11_8)
  refine step st14 ?_
  show G T14 (mkF m 11 #[.val (.ref o0), .val (.long q1), .second] [(.ref ar)])
  refine step (fun t k => XS.aloadN X14.here hx rfl (hb hby d11_11) rfl rfl k) ?_
  show G T14 (mkF m 12 #[.val (.ref o0), .val (.long q1), .second] [(.ref o0), (.ref ar)])
  have f17 := (Fld.other W11 F8 (Or.inr (slot_ne (Or.inl (ww67 hw)) (Or.inl (ww65 hw)) (by decide) (t := .int) (t' := .int) (by decide) (by decide))))
  obtain ⟨T16, X16, e16, st16⟩ := getF X14 hx hZ hown (host := "") (Or.inl (ww66 hw)) Via.refl e14 f17 (g := (mkF m 12 #[.val (.ref o0), .val (.long q1), .second] [(.ref o0), (.ref ar)])) rfl rfl (hb hby d11_12)
  refine step st16 ?_
  show G T16 (mkF m 15 #[.val (.ref o0), .val (.long q1), .second] [(.int 1), (.ref ar)])
  have f18 := (Arv.other (Arv.other Va W8 (Ne.symm ne_o0_ar)) W11 (Ne.symm ne_o0_ar))
  have q19 := own_ldJ X16 hx hZ e16 f18 (j := (1 : Int32)) (v := (.long x1)) (by decide) (own_at (i := 1) rfl rfl) (g := (mkF m 15 #[.val (.ref o0), .val (.long q1), .second] [(.int 1), (.ref ar)])) rfl rfl (hb hby d11_15)
  refine step q19 ?_
  show G T16 (mkF m 16 #[.val (.ref o0), .val (.long q1), .second] [(.long x1)])
  refine step (fun t k => XS.lloadN X16.here hx rfl (hb hby d11_16) rfl k) ?_
  show G T16 (mkF m 17 #[.val (.ref o0), .val (.long q1), .second] [(.long q1), (.long x1)])
  refine step (fun t k => XS.lcmp X16.here hx rfl (hb hby d11_17) rfl k) ?_
  show G T16 (mkF m 18 #[.val (.ref o0), .val (.long q1), .second] [(.int (lcmpW x1 q1))])
  refine step (fun t k => XS.ifYes X16.here hx rfl (pc0 := 18) (pc' := 50) rfl (hb hby d11_18) rfl ((if0 _ _).trans (tlt ((lw_gt _ _).mpr hp1)).2.2.1) (by decide) (by decide) k) ?_
  show G T16 (mkF m 50 #[.val (.ref o0), .val (.long q1), .second] [])
  have f20 := (Exa.wr W11 f12)
  exact ret (v := none) X16 (fun _ => rfl) (fun fs hr => X16.returnOut hx Bd.returns (hb hby d11_50) hr) e16 ⟨rfl, N11, K11, f20, f15, f17, F11⟩ (by decide) (by decide)
abbrev rr_cnt_4_0_4_1 : Room := { frames := 1, cells := 0, slots := 0, locals := 15 }
theorem ef_cnt_4_0_4_1 (m : MethodId) (o0 : Addr) (o1 : Addr) (q2 : Int64) : entryFrame m #[(.ref o0), (.ref o1), (.long q2)] 4 = mkF m 0 #[.val (.ref o0), .val (.ref o1), .val (.long q2), .second] [] := by first | (simp [entryFrame, mkF, argsToLocals, Value.category]; done) | rfl
def Q_cnt_4_0_4_1 (Z : State) (w_0 : Addr) (w_1 : Addr) (w_2 : Addr) (o0 : Addr) (o1 : Addr) (q2 : Int64) (ar : Addr) (ka : ClassId) (x0 : Int64) (x1 : Int64) (x2 : Int64) (x3 : Int64) (mm : Int64) (h0 : Heap) (n0 : Nat) (v : Option Value) (h : Heap) (L : List Loc) : Prop := v = some (.int 3) ∧ Fr n0 L ∧ Keep h0 h [o0] ∧ Exa Z h o0 cn_0 ∧ Fld Z h o0 cn_0 "times" "[J" (.ref ar) ∧ Fld Z h o0 cn_0 "head" "I" (.int 1) ∧ Fld Z h o0 cn_0 "size" "I" (.int 3)
set_option maxRecDepth 65536 in
set_option maxHeartbeats 40000000 in
theorem rm_cnt_4_0_4_1 (l : Launch) (Z : State) (a0 : Array Value) (hw : ∀ d ∈ tables_1, d.before a0 Z = true) (ws : List Jvm.Cond) (w_0 : Addr) (w_1 : Addr) (w_2 : Addr) (o0 : Addr) (o1 : Addr) (q2 : Int64) (ar : Addr) (ka : ClassId) (x0 : Int64) (x1 : Int64) (x2 : Int64) (x3 : Int64) (mm : Int64) (h0 : Heap) (n0 : Nat) (Z0 : n0 ≤ h0.size) (ST : own_St Z w_0 w_1 w_2) (O0 : Old Z n0 h0) (Ex : Exa Z h0 o0 cn_0) (geo : n0 ≤ o0) (Ft : Fld Z h0 o0 cn_0 "times" "[J" (.ref ar)) (gea : n0 ≤ ar) (Fh : Fld Z h0 o0 cn_0 "head" "I" (.int 0)) (Fs : Fld Z h0 o0 cn_0 "size" "I" (.int 4)) (Va : Arv Z h0 ar ka .long (4 : Int32) [(.long x0), (.long x1), (.long x2), (.long x3)] (.long 0)) (Ew : Exa Z h0 o1 cn_1) (Fwt : Fld Z h0 o1 cn_1 "type" cn_4 (.ref w_0)) (Fwm : Fld Z h0 o1 cn_1 "millis" "J" (.long mm)) (hp0 : ¬ ((q2 - mm) < x0)) (hp1 : (q2 - mm) < x1) :
    MetFree l y_13 (head1 (Jvm.Cond.code y_13 prog_2_method_2_code 4 (some .int) :: ws) rr_cnt_4_0_4_1) (fun a U => a = #[(.ref o0), (.ref o1), (.long q2)] ∧ Z.Warmed39 U.vm ∧ U.heap = h0) (fun _ _ _ _ _ => True) (fun _ U o U' => ∃ v L, o = .returned v ∧ Q_cnt_4_0_4_1 Z w_0 w_1 w_2 o0 o1 q2 ar ka x0 x1 x2 x3 mm h0 n0 v U'.heap L ∧ FrameEnd U o U' L rr_cnt_4_0_4_1.cells rr_cnt_4_0_4_1.slots) := by
  refine MetFree.of_bodySF (plainFor_of_name pn_3) hisR ?_
  intro p e s m args below meth c s₁ Bd hml0 hP hK
  obtain ⟨rfl, hZ, hh⟩ := hP
  have hx := Bd.exec
  have hby := Bd.bytes
  have hml : c.maxLocals = 4 := hml0
  have hown : s.vm.findClass cn_0 = some m.cls := findClass_of_methodNamed Bd.named
  have hnm := (name_of_methodNamed Bd.named Bd.method).1
  have X0 : Stand p l e rr_cnt_4_0_4_1 s m #[(.ref o0), (.ref o1), (.long q2)] below meth c s₁ [] 0 0 := Stand.of_body Bd
  have e0 : s₁.heap = h0 := by rw [← hh, Bd.state]; rfl
  have N0 := Fr.nil n0
  have K0 : Keep h0 h0 [o0] := Keep.refl _ _
  obtain ⟨G, step, ret, fin⟩ := own_open (p := p) (l := l) (e := e) (R := rr_cnt_4_0_4_1) (s := s) (m := m) (args := #[(.ref o0), (.ref o1), (.long q2)]) (below := below) (meth := meth) (c := c) (rr_cnt_4_0_4_1.cells) (rr_cnt_4_0_4_1.slots) (Q_cnt_4_0_4_1 Z w_0 w_1 w_2 o0 o1 q2 ar ka x0 x1 x2 x3 mm h0 n0) Bd.notSynchronized
  refine fin (g := entryFrame m #[(.ref o0), (.ref o1), (.long q2)] 4) ?_
  rw [ef_cnt_4_0_4_1 m o0 o1 q2]
  have ne_o0_o1 : o0 ≠ o1 := ne_exa Ex Ew (by decide)
  have ne_o0_ar : o0 ≠ ar := own_ne_arv Ex (ww50 hw) Va
  have ne_o1_ar : o1 ≠ ar := own_ne_arv Ew (ww14 hw) Va
  show G s₁ (mkF m 0 #[.val (.ref o0), .val (.ref o1), .val (.long q2), .second] [])
  obtain ⟨T1, X1, e1, st1⟩ := getS2 X0 hx hZ hown (host := "") (Or.inl (ww75 hw)) Via.refl e0 (Sta.ext O0.2 ST.k6) (g := (mkF m 0 #[.val (.ref o0), .val (.ref o1), .val (.long q2), .second] [])) rfl (hb hby d12_0)
  refine step st1 ?_
  show G T1 (mkF m 3 #[.val (.ref o0), .val (.ref o1), .val (.long q2), .second] [(.ref w_2)])
  refine step (fun t k => XS.aloadN X1.here hx rfl (hb hby d12_3) rfl rfl k) ?_
  show G T1 (mkF m 4 #[.val (.ref o0), .val (.ref o1), .val (.long q2), .second] [(.ref o1), (.ref w_2)])
  have hK2 := (backOf (R := rr_cnt_4_0_4_1) (p := p) (e := e) (below := below) (s := s) (args := #[(.ref o0), (.ref o1), (.long q2)]) (len := 3) (W := 1) (rm_ty l Z a0 hw [] w_0 w_1 w_2 o1 w_0 h0 n0 (own_old_le O0) ST O0 Fwt) hZ (ww82 hw) (ww11 hw) (by decide) (by decide))
  obtain ⟨cq2, kq2, q2a, q2b, q2c⟩ := isOf hZ e1 Ew
  obtain ⟨_, _, ⟨T2, L2, k2, n2⟩, -, X2, ⟨Lc2, hQ2, l2, y2, z2⟩, st2⟩ := X1.virtualBack hx (y := y_5) (z := y_5) hown (mvT hZ (ww78 hw)) (mvT hZ (ww79 hw)) (notFace_of_selects (args := #[]) (mvT hZ (ww81 hw))) (mvT hZ (ww81 hw)) (mvT hZ (ww80 hw)) (by decide) hK2 q2a q2c (g := (mkF m 4 #[.val (.ref o0), .val (.ref o1), .val (.long q2), .second] [(.ref o1), (.ref w_2)])) rfl (by rw [hml]; rfl) (Steps.refl _) (argsL := []) (rest := [(.ref w_2)]) (lenOf pd_6 rfl) rfl (by show 2 * 0 + _ ≤ _; exact Nat.le_of_eq rfl) (hb hby d12_4) (fun _ _ => ⟨rfl, e1, (by decide : 0 + 0 ≤ _), (by decide : 0 + 0 ≤ _)⟩)
  dsimp only [Pt.U, Pt.locs, Pt.cells, Pt.slots] at X2 l2 y2 z2 st2 hQ2
  subst l2 y2 z2
  obtain ⟨rfl, N2q, e2⟩ := hQ2
  have N2 := Fr.app N0 N2q
  obtain ⟨lc2, X2, N2⟩ := own_gen X2 N2
  refine step (fun t k => st2.trans k) ?_
  show G T2 (mkF m 7 #[.val (.ref o0), .val (.ref o1), .val (.long q2), .second] [(.ref (f_ty w_0 w_1 w_2 o1 w_0)), (.ref w_2)])
  have r3 : (f_ty w_0 w_1 w_2 o1 w_0) = w_0 := rfl
  rw [r3]
  show G T2 (mkF m 7 #[.val (.ref o0), .val (.ref o1), .val (.long q2), .second] [(.ref w_0), (.ref w_2)])
  have hK4 := (backOf (R := rr_cnt_4_0_4_1) (p := p) (e := e) (below := below) (s := s) (args := #[(.ref o0), (.ref o1), (.long q2)]) (len := 3) (W := 1) (rm_od l Z a0 hw [] w_0 w_1 w_2 w_0 (0 : Int32) h0 n0 (own_old_le O0) ST O0 (Fld.ext O0.2 ST.k4)) hZ (ww89 hw) (ww88 hw) (by decide) (by decide))
  obtain ⟨cq4, kq4, q4a, q4b, q4c⟩ := isOf hZ e2 (Exa.ext O0.2 ST.k1)
  obtain ⟨_, _, ⟨T4, L4, k4, n4⟩, -, X4, ⟨Lc4, hQ4, l4, y4, z4⟩, st4⟩ := X2.virtualBackUp hx (x := y_12) (y := y_7) (owner := cn_7) hown (mvT hZ (ww83 hw)) (mvT hZ (ww84 hw)) (mvT hZ (ww85 hw)) (by decide) (mvT hZ (ww87 hw)) (mvT hZ (ww86 hw)) hK4 q4a q4c (g := (mkF m 7 #[.val (.ref o0), .val (.ref o1), .val (.long q2), .second] [(.ref w_0), (.ref w_2)])) rfl (by rw [hml]; rfl) (Steps.refl _) (argsL := []) (rest := [(.ref w_2)]) (lenOf pd_7 rfl) rfl (by show 2 * 0 + _ ≤ _; exact Nat.le_of_eq rfl) (hb hby d12_7) (fun _ _ => ⟨rfl, e2, (by decide : 0 + 0 ≤ _), (by decide : 0 + 0 ≤ _)⟩)
  dsimp only [Pt.U, Pt.locs, Pt.cells, Pt.slots] at X4 l4 y4 z4 st4 hQ4
  subst l4 y4 z4
  obtain ⟨rfl, N4q, e4⟩ := hQ4
  have N4 := Fr.app N2 N4q
  obtain ⟨lc4, X4, N4⟩ := own_gen X4 N4
  refine step (fun t k => st4.trans k) ?_
  show G T4 (mkF m 10 #[.val (.ref o0), .val (.ref o1), .val (.long q2), .second] [(.int (f_od w_0 w_1 w_2 w_0 (0 : Int32))), (.ref w_2)])
  have r5 : (f_od w_0 w_1 w_2 w_0 (0 : Int32)) = (0 : Int32) := rfl
  rw [r5]
  show G T4 (mkF m 10 #[.val (.ref o0), .val (.ref o1), .val (.long q2), .second] [(.int 0), (.ref w_2)])
  obtain ⟨kw6, Vw6⟩ := ST.k7
  have q7 := own_ldI X4 hx hZ e4 (Arv.ext Vw6 O0.2) (j := (0 : Int32)) (v := (.int 1)) (by decide) (own_at (i := 0) rfl rfl) (g := (mkF m 10 #[.val (.ref o0), .val (.ref o1), .val (.long q2), .second] [(.int 0), (.ref w_2)])) rfl rfl (hb hby d12_10)
  refine step q7 ?_
  show G T4 (mkF m 11 #[.val (.ref o0), .val (.ref o1), .val (.long q2), .second] [(.int 1)])
  refine step (fun t k => XS.tswIn X4.here hx rfl (pc0 := 11) (pc' := 36) rfl (hb hby d12_11) rfl (by decide) rfl (by decide) (by decide) k) ?_
  show G T4 (mkF m 36 #[.val (.ref o0), .val (.ref o1), .val (.long q2), .second] [])
  refine step (fun t k => XS.aloadN X4.here hx rfl (hb hby d12_36) rfl rfl k) ?_
  show G T4 (mkF m 37 #[.val (.ref o0), .val (.ref o1), .val (.long q2), .second] [(.ref o0)])
  refine step (fun t k => XS.lloadN X4.here hx rfl (hb hby d12_37) rfl k) ?_
  show G T4 (mkF m 38 #[.val (.ref o0), .val (.ref o1), .val (.long q2), .second] [(.long q2), (.ref o0)])
  refine step (fun t k => XS.aloadN X4.here hx rfl (hb hby d12_38) rfl rfl k) ?_
  show G T4 (mkF m 39 #[.val (.ref o0), .val (.ref o1), .val (.long q2), .second] [(.ref o1), (.long q2), (.ref o0)])
  have hK8 := (backOf (R := rr_cnt_4_0_4_1) (p := p) (e := e) (below := below) (s := s) (args := #[(.ref o0), (.ref o1), (.long q2)]) (len := 3) (W := 3) (rm_mi l Z a0 hw [] w_0 w_1 w_2 o1 mm h0 n0 (own_old_le O0) ST O0 Fwm) hZ (ww96 hw) (ww11 hw) (by decide) (by decide))
  obtain ⟨cq8, kq8, q8a, q8b, q8c⟩ := isOf hZ e4 Ew
  obtain ⟨_, _, ⟨T8, L8, k8, n8⟩, -, X8, ⟨Lc8, hQ8, l8, y8, z8⟩, st8⟩ := X4.virtualBack hx (y := y_6) (z := y_6) hown (mvT hZ (ww92 hw)) (mvT hZ (ww93 hw)) (notFace_of_selects (args := #[]) (mvT hZ (ww95 hw))) (mvT hZ (ww95 hw)) (mvT hZ (ww94 hw)) (by decide) hK8 q8a q8c (g := (mkF m 39 #[.val (.ref o0), .val (.ref o1), .val (.long q2), .second] [(.ref o1), (.long q2), (.ref o0)])) rfl (by rw [hml]; rfl) (Steps.refl _) (argsL := []) (rest := [(.long q2), (.ref o0)]) (lenOf pd_8 rfl) rfl (by show 2 * 0 + _ ≤ _; exact Nat.le_of_eq rfl) (hb hby d12_39) (fun _ _ => ⟨rfl, e4, (by decide : 0 + 0 ≤ _), (by decide : 0 + 0 ≤ _)⟩)
  dsimp only [Pt.U, Pt.locs, Pt.cells, Pt.slots] at X8 l8 y8 z8 st8 hQ8
  subst l8 y8 z8
  obtain ⟨rfl, N8q, e8⟩ := hQ8
  have N8 := Fr.app N4 N8q
  obtain ⟨lc8, X8, N8⟩ := own_gen X8 N8
  refine step (fun t k => st8.trans k) ?_
  show G T8 (mkF m 42 #[.val (.ref o0), .val (.ref o1), .val (.long q2), .second] [(.long (f_mi w_0 w_1 w_2 o1 mm)), (.long q2), (.ref o0)])
  have r9 : (f_mi w_0 w_1 w_2 o1 mm) = mm := rfl
  rw [r9]
  show G T8 (mkF m 42 #[.val (.ref o0), .val (.ref o1), .val (.long q2), .second] [(.long mm), (.long q2), (.ref o0)])
  refine step (fun t k => XS.lsub X8.here hx rfl (hb hby d12_42) rfl k) ?_
  show G T8 (mkF m 43 #[.val (.ref o0), .val (.ref o1), .val (.long q2), .second] [(.long (q2 - mm)), (.ref o0)])
  have hK10 := (backOf (R := rr_cnt_4_0_4_1) (p := p) (e := e) (below := below) (s := s) (args := #[(.ref o0), (.ref o1), (.long q2)]) (len := 3) (W := 0) (rm_for_4_0_4_1 l Z a0 hw [] w_0 w_1 w_2 o0 (q2 - mm) ar ka x0 x1 x2 x3 h0 n0 (own_old_le O0) ST O0 Ex geo Ft gea Fh Fs Va (hp0 : ¬ ((q2 - mm) < x0)) (hp1 : (q2 - mm) < x1)) hZ (ww100 hw) (ww51 hw) (by decide) (by decide))
  obtain ⟨cq10, q10, q10'⟩ := (Ex).cell
  obtain ⟨_, _, ⟨T10, L10, k10, n10⟩, -, X10, ⟨Lc10, hQ10, l10, y10, z10⟩, st10⟩ := X8.privateBack hx (y := y_11) hown (mvT hZ (ww97 hw)) (mvT hZ (ww98 hw)) (own_selpriv hZ (ww99 hw) (ww98 hw) (ww50 hw) (by decide)) (Cond.privateMethod_at (mvP hZ (ww99 hw) (args := #[]))) (mvT hZ (ww100 hw)) (by decide) hK10 (g := (mkF m 43 #[.val (.ref o0), .val (.ref o1), .val (.long q2), .second] [(.long (q2 - mm)), (.ref o0)])) rfl (by rw [hml]; rfl) (Steps.refl _) (a := o0) (by rw [e8]; exact q10) q10' (argsL := [(.long (q2 - mm))]) (rest := []) (lenOf pd_5 rfl) rfl (by show 2 * 0 + _ ≤ _; exact Nat.le_of_eq rfl) (hb hby d12_43) (fun _ _ => ⟨rfl, e8, (by decide : 0 + 0 ≤ _), (by decide : 0 + 0 ≤ _)⟩)
  dsimp only [Pt.U, Pt.locs, Pt.cells, Pt.slots] at X10 l10 y10 z10 st10 hQ10
  subst l10 y10 z10
  obtain ⟨rfl, N10q, K10q, Y10_0, Y10_1, Y10_2, Y10_3⟩ := hQ10
  have N10 := Fr.app N8 N10q
  obtain ⟨lc10, X10, N10⟩ := own_gen X10 N10
  have O10 := O0.keep K10q (allS geo all0)
  have K10 : Keep h0 T10.heap [o0] := K0.trans K10q (allS (Or.inl (List.mem_of_getElem? (i := 0) rfl)) all0)
  refine step (fun t k => st10.trans k) ?_
  show G T10 (mkF m 46 #[.val (.ref o0), .val (.ref o1), .val (.long q2), .second] [])
  refine step (fun t k => XS.goto X10.here hx rfl (pc0 := 46) (pc' := 132) rfl (hb hby d12_46) (by decide) (by decide) k) ?_
  show G T10 (mkF m 132 #[.val (.ref o0), .val (.ref o1), .val (.long q2), .second] [])
  refine step (fun t k => XS.aloadN X10.here hx rfl (hb hby d12_132) rfl rfl k) ?_
  show G T10 (mkF m 133 #[.val (.ref o0), .val (.ref o1), .val (.long q2), .second] [(.ref o0)])
  obtain ⟨T11, X11, e11, st11⟩ := getF X10 hx hZ hown (host := "") (Or.inl (ww64 hw)) Via.refl rfl Y10_3 (g := (mkF m 133 #[.val (.ref o0), .val (.ref o1), .val (.long q2), .second] [(.ref o0)])) rfl rfl (hb hby d12_133)
  refine step st11 ?_
  show G T11 (mkF m 136 #[.val (.ref o0), .val (.ref o1), .val (.long q2), .second] [(.int 3)])
  exact ret (v := some (.int 3)) X11 (fun h => by rw [Bd.returns] at h; cases h) (fun fs hr => retI X11 hx Bd.returns (hb hby d12_136) hr) e11 ⟨rfl, N10, K10, Y10_0, Y10_1, Y10_2, Y10_3⟩ (by decide) (by decide)
abbrev rr_addg_4_1 : Room := { frames := 0, cells := 1, slots := 8, locals := 0 }
theorem ef_addg_4_1 (m : MethodId) (o0 : Addr) (q1 : Int64) : entryFrame m #[(.ref o0), (.long q1)] 5 = mkF m 0 #[.val (.ref o0), .val (.long q1), .second, .unset, .unset] [] := by first | (simp [entryFrame, mkF, argsToLocals, Value.category]; done) | rfl
def Q_addg_4_1 (Z : State) (w_0 : Addr) (w_1 : Addr) (w_2 : Addr) (o0 : Addr) (q1 : Int64) (ar : Addr) (ka : ClassId) (x0 : Int64) (x1 : Int64) (x2 : Int64) (x3 : Int64) (h0 : Heap) (n0 : Nat) (v : Option Value) (h : Heap) (L : List Loc) : Prop := ∃ b : Addr, ∃ kb : ClassId, v = none ∧ Fr n0 L ∧ Keep h0 h [o0] ∧ h0.size ≤ b ∧ Exa Z h o0 cn_0 ∧ Fld Z h o0 cn_0 "times" "[J" (.ref b) ∧ Fld Z h o0 cn_0 "head" "I" (.int 0) ∧ Fld Z h o0 cn_0 "size" "I" (.int 5) ∧ Arv Z h b kb .long (8 : Int32) [(.long x1), (.long x2), (.long x3), (.long x0), (.long q1), (.long 0), (.long 0), (.long 0)] (.long 0)
set_option maxRecDepth 65536 in
set_option maxHeartbeats 40000000 in
theorem rm_addg_4_1 (l : Launch) (Z : State) (a0 : Array Value) (hw : ∀ d ∈ tables_1, d.before a0 Z = true) (ws : List Jvm.Cond) (w_0 : Addr) (w_1 : Addr) (w_2 : Addr) (o0 : Addr) (q1 : Int64) (ar : Addr) (ka : ClassId) (x0 : Int64) (x1 : Int64) (x2 : Int64) (x3 : Int64) (h0 : Heap) (n0 : Nat) (Z0 : n0 ≤ h0.size) (ST : own_St Z w_0 w_1 w_2) (O0 : Old Z n0 h0) (Ex : Exa Z h0 o0 cn_0) (geo : n0 ≤ o0) (Ft : Fld Z h0 o0 cn_0 "times" "[J" (.ref ar)) (gea : n0 ≤ ar) (Fh : Fld Z h0 o0 cn_0 "head" "I" (.int 1)) (Fs : Fld Z h0 o0 cn_0 "size" "I" (.int 4)) (Va : Arv Z h0 ar ka .long (4 : Int32) [(.long x0), (.long x1), (.long x2), (.long x3)] (.long 0)) :
    MetFree l y_10 (head1 (Jvm.Cond.code y_10 prog_2_method_4_code 5 none :: ws) rr_addg_4_1) (fun a U => a = #[(.ref o0), (.long q1)] ∧ Z.Warmed39 U.vm ∧ U.heap = h0) (fun _ _ _ _ _ => True) (fun _ U o U' => ∃ v L, o = .returned v ∧ Q_addg_4_1 Z w_0 w_1 w_2 o0 q1 ar ka x0 x1 x2 x3 h0 n0 v U'.heap L ∧ FrameEnd U o U' L rr_addg_4_1.cells rr_addg_4_1.slots) := by
  refine MetFree.of_bodySF (plainFor_of_name pn_3) hisR ?_
  intro p e s m args below meth c s₁ Bd hml0 hP hK
  obtain ⟨rfl, hZ, hh⟩ := hP
  have hx := Bd.exec
  have hby := Bd.bytes
  have hml : c.maxLocals = 5 := hml0
  have hown : s.vm.findClass cn_0 = some m.cls := findClass_of_methodNamed Bd.named
  have hnm := (name_of_methodNamed Bd.named Bd.method).1
  have X0 : Stand p l e rr_addg_4_1 s m #[(.ref o0), (.long q1)] below meth c s₁ [] 0 0 := Stand.of_body Bd
  have e0 : s₁.heap = h0 := by rw [← hh, Bd.state]; rfl
  have N0 := Fr.nil n0
  have K0 : Keep h0 h0 [o0] := Keep.refl _ _
  obtain ⟨G, step, ret, fin⟩ := own_open (p := p) (l := l) (e := e) (R := rr_addg_4_1) (s := s) (m := m) (args := #[(.ref o0), (.long q1)]) (below := below) (meth := meth) (c := c) (rr_addg_4_1.cells) (rr_addg_4_1.slots) (Q_addg_4_1 Z w_0 w_1 w_2 o0 q1 ar ka x0 x1 x2 x3 h0 n0) Bd.notSynchronized
  refine fin (g := entryFrame m #[(.ref o0), (.long q1)] 5) ?_
  rw [ef_addg_4_1 m o0 q1]
  have ne_o0_ar : o0 ≠ ar := own_ne_arv Ex (ww50 hw) Va
  show G s₁ (mkF m 0 #[.val (.ref o0), .val (.long q1), .second, .unset, .unset] [])
  refine step (fun t k => XS.aloadN X0.here hx rfl (hb hby d10_0) rfl rfl k) ?_
  show G s₁ (mkF m 1 #[.val (.ref o0), .val (.long q1), .second, .unset, .unset] [(.ref o0)])
  obtain ⟨T1, X1, e1, st1⟩ := getF X0 hx hZ hown (host := "") (Or.inl (ww64 hw)) Via.refl e0 Fs (g := (mkF m 1 #[.val (.ref o0), .val (.long q1), .second, .unset, .unset] [(.ref o0)])) rfl rfl (hb hby d10_1)
  refine step st1 ?_
  show G T1 (mkF m 4 #[.val (.ref o0), .val (.long q1), .second, .unset, .unset] [(.int 4)])
  refine step (fun t k => XS.aloadN X1.here hx rfl (hb hby d10_4) rfl rfl k) ?_
  show G T1 (mkF m 5 #[.val (.ref o0), .val (.long q1), .second, .unset, .unset] [(.ref o0), (.int 4)])
  obtain ⟨T2, X2, e2, st2⟩ := getF X1 hx hZ hown (host := "") (Or.inl (ww57 hw)) Via.refl e1 Ft (g := (mkF m 5 #[.val (.ref o0), .val (.long q1), .second, .unset, .unset] [(.ref o0), (.int 4)])) rfl rfl (hb hby d10_5)
  refine step st2 ?_
  show G T2 (mkF m 8 #[.val (.ref o0), .val (.long q1), .second, .unset, .unset] [(.ref ar), (.int 4)])
  have q3 := own_len X2 hx hZ e2 Va (g := (mkF m 8 #[.val (.ref o0), .val (.long q1), .second, .unset, .unset] [(.ref ar), (.int 4)])) rfl rfl (hb hby d10_8)
  refine step q3 ?_
  show G T2 (mkF m 9 #[.val (.ref o0), .val (.long q1), .second, .unset, .unset] [(.int 4), (.int 4)])
  refine step (fun t k => XS.icmpNo X2.here hx rfl (hb hby d10_9) rfl (teq (by decide : (4 : Int32) = (4 : Int32))).2 k) ?_
  show G T2 (mkF m 12 #[.val (.ref o0), .val (.long q1), .second, .unset, .unset] [])
  refine step (fun t k => XS.aloadN X2.here hx rfl (hb hby d10_12) rfl rfl k) ?_
  show G T2 (mkF m 13 #[.val (.ref o0), .val (.long q1), .second, .unset, .unset] [(.ref o0)])
  obtain ⟨T4, X4, e4, st4⟩ := getF X2 hx hZ hown (host := "") (Or.inl (ww57 hw)) Via.refl e2 Ft (g := (mkF m 13 #[.val (.ref o0), .val (.long q1), .second, .unset, .unset] [(.ref o0)])) rfl rfl (hb hby d10_13)
  refine step st4 ?_
  show G T4 (mkF m 16 #[.val (.ref o0), .val (.long q1), .second, .unset, .unset] [(.ref ar)])
  have q5 := own_len X4 hx hZ e4 Va (g := (mkF m 16 #[.val (.ref o0), .val (.long q1), .second, .unset, .unset] [(.ref ar)])) rfl rfl (hb hby d10_16)
  refine step q5 ?_
  show G T4 (mkF m 17 #[.val (.ref o0), .val (.long q1), .second, .unset, .unset] [(.int 4)])
  refine step (fun t k => XS.iconst X4.here hx rfl (hb hby d10_17) k) ?_
  show G T4 (mkF m 18 #[.val (.ref o0), .val (.long q1), .second, .unset, .unset] [(.int 2), (.int 4)])
  refine step (fun t k => XS.imul X4.here hx rfl (hb hby d10_18) rfl k) ?_
  show G T4 (mkF m 19 #[.val (.ref o0), .val (.long q1), .second, .unset, .unset] [(.int ((4 : Int32) * (2 : Int32)))])
  rw [(by decide : ((4 : Int32) * (2 : Int32)) = (8 : Int32))]
  show G T4 (mkF m 19 #[.val (.ref o0), .val (.long q1), .second, .unset, .unset] [(.int 8)])
  obtain ⟨T6, h6, k6, X6, e6, E6, A6, B6, st6⟩ := newPE (aty := .long) X4 hx hZ (ww56 hw) e4 (g := (mkF m 19 #[.val (.ref o0), .val (.long q1), .second, .unset, .unset] [(.int 8)])) rfl (hb hby d10_19) rfl (by decide) (cap := 8) (by decide) (by decide) (by decide) (by decide) (ad := "[J") (by decide)
  obtain ⟨b6, g6⟩ : ∃ z, z = h0.size := ⟨_, rfl⟩
  rw [← g6] at A6 B6 st6
  have V6 : Arv Z h6 b6 k6 .long (8 : Int32) [(.long 0), (.long 0), (.long 0), (.long 0), (.long 0), (.long 0), (.long 0), (.long 0)] (.long 0) := (Arv.new A6 (by decide)).pad (pad_rep [] (.long 0) 8)
  have ge_b6 : n0 ≤ b6 := Nat.le_trans (own_old_le O0) (Nat.le_of_eq g6.symm)
  have sz_b6 : h0.size ≤ b6 := Nat.le_trans K0.1 (Nat.le_of_eq g6.symm)
  have lt_ar_b6 : ar < b6 := Nat.lt_of_lt_of_le Va.lt (Nat.le_of_eq g6.symm)
  have lt_o0_b6 : o0 < b6 := Nat.lt_of_lt_of_le Ex.lt (Nat.le_of_eq g6.symm)
  have O6 := O0.ext E6
  have K6 : Keep h0 h6 [o0] := K0.ext E6
  refine step st6 ?_
  show G T6 (mkF m 21 #[.val (.ref o0), .val (.long q1), .second, .unset, .unset] [(.ref b6)])
  refine step (fun t k => XS.astoreN X6.here hx rfl (hb hby d10_21) rfl rfl (l' := #[.val (.ref o0), .val (.long q1), .second, .val (.ref b6), .unset]) rfl k) ?_
  show G T6 (mkF m 22 #[.val (.ref o0), .val (.long q1), .second, .val (.ref b6), .unset] [])
  refine step (fun t k => XS.iconst X6.here hx rfl (hb hby d10_22) k) ?_
  show G T6 (mkF m 23 #[.val (.ref o0), .val (.long q1), .second, .val (.ref b6), .unset] [(.int 0)])
  refine step (fun t k => XS.istore X6.here hx rfl (hb hby d10_23) rfl (l' := #[.val (.ref o0), .val (.long q1), .second, .val (.ref b6), .val (.int 0)]) rfl k) ?_
  show G T6 (mkF m 25 #[.val (.ref o0), .val (.long q1), .second, .val (.ref b6), .val (.int 0)] [])
  refine step (fun t k => XS.iload X6.here hx rfl (hb hby d10_25) rfl k) ?_
  show G T6 (mkF m 27 #[.val (.ref o0), .val (.long q1), .second, .val (.ref b6), .val (.int 0)] [(.int 0)])
  refine step (fun t k => XS.aloadN X6.here hx rfl (hb hby d10_27) rfl rfl k) ?_
  show G T6 (mkF m 28 #[.val (.ref o0), .val (.long q1), .second, .val (.ref b6), .val (.int 0)] [(.ref o0), (.int 0)])
  have f8 := (Fld.ext E6 Fs)
  obtain ⟨T7, X7, e7, st7⟩ := getF X6 hx hZ hown (host := "") (Or.inl (ww64 hw)) Via.refl e6 f8 (g := (mkF m 28 #[.val (.ref o0), .val (.long q1), .second, .val (.ref b6), .val (.int 0)] [(.ref o0), (.int 0)])) rfl rfl (hb hby d10_28)
  refine step st7 ?_
  show G T7 (mkF m 31 #[.val (.ref o0), .val (.long q1), .second, .val (.ref b6), .val (.int 0)] [(.int 4), (.int 0)])
  refine step (fun t k => XS.icmpNo X7.here hx rfl (hb hby d10_31) rfl (tlt (by decide : (0 : Int32) < (4 : Int32))).2.1 k) ?_
  show G T7 (mkF m 34 #[.val (.ref o0), .val (.long q1), .second, .val (.ref b6), .val (.int 0)] [])
  refine step (fun t k => XS.aloadN X7.here hx rfl (hb hby d10_34) rfl rfl k) ?_
  show G T7 (mkF m 35 #[.val (.ref o0), .val (.long q1), .second, .val (.ref b6), .val (.int 0)] [(.ref b6)])
  refine step (fun t k => XS.iload X7.here hx rfl (hb hby d10_35) rfl k) ?_
  show G T7 (mkF m 37 #[.val (.ref o0), .val (.long q1), .second, .val (.ref b6), .val (.int 0)] [(.int 0), (.ref b6)])
  refine step (fun t k => XS.aloadN X7.here hx rfl (hb hby d10_37) rfl rfl k) ?_
  show G T7 (mkF m 38 #[.val (.ref o0), .val (.long q1), .second, .val (.ref b6), .val (.int 0)] [(.ref o0), (.int 0), (.ref b6)])
  have f10 := (Fld.ext E6 Ft)
  obtain ⟨T9, X9, e9, st9⟩ := getF X7 hx hZ hown (host := "") (Or.inl (ww57 hw)) Via.refl e7 f10 (g := (mkF m 38 #[.val (.ref o0), .val (.long q1), .second, .val (.ref b6), .val (.int 0)] [(.ref o0), (.int 0), (.ref b6)])) rfl rfl (hb hby d10_38)
  refine step st9 ?_
  show G T9 (mkF m 41 #[.val (.ref o0), .val (.long q1), .second, .val (.ref b6), .val (.int 0)] [(.ref ar), (.int 0), (.ref b6)])
  refine step (fun t k => XS.aloadN X9.here hx rfl (hb hby d10_41) rfl rfl k) ?_
  show G T9 (mkF m 42 #[.val (.ref o0), .val (.long q1), .second, .val (.ref b6), .val (.int 0)] [(.ref o0), (.ref ar), (.int 0), (.ref b6)])
  have f12 := (Fld.ext E6 Fh)
  obtain ⟨T11, X11, e11, st11⟩ := getF X9 hx hZ hown (host := "") (Or.inl (ww66 hw)) Via.refl e9 f12 (g := (mkF m 42 #[.val (.ref o0), .val (.long q1), .second, .val (.ref b6), .val (.int 0)] [(.ref o0), (.ref ar), (.int 0), (.ref b6)])) rfl rfl (hb hby d10_42)
  refine step st11 ?_
  show G T11 (mkF m 45 #[.val (.ref o0), .val (.long q1), .second, .val (.ref b6), .val (.int 0)] [(.int 1), (.ref ar), (.int 0), (.ref b6)])
  refine step (fun t k => XS.iload X11.here hx rfl (hb hby d10_45) rfl k) ?_
  show G T11 (mkF m 47 #[.val (.ref o0), .val (.long q1), .second, .val (.ref b6), .val (.int 0)] [(.int 0), (.int 1), (.ref ar), (.int 0), (.ref b6)])
  refine step (fun t k => XS.iadd X11.here hx rfl (hb hby d10_47) rfl k) ?_
  show G T11 (mkF m 48 #[.val (.ref o0), .val (.long q1), .second, .val (.ref b6), .val (.int 0)] [(.int ((1 : Int32) + (0 : Int32))), (.ref ar), (.int 0), (.ref b6)])
  rw [(by decide : ((1 : Int32) + (0 : Int32)) = (1 : Int32))]
  show G T11 (mkF m 48 #[.val (.ref o0), .val (.long q1), .second, .val (.ref b6), .val (.int 0)] [(.int 1), (.ref ar), (.int 0), (.ref b6)])
  refine step (fun t k => XS.aloadN X11.here hx rfl (hb hby d10_48) rfl rfl k) ?_
  show G T11 (mkF m 49 #[.val (.ref o0), .val (.long q1), .second, .val (.ref b6), .val (.int 0)] [(.ref o0), (.int 1), (.ref ar), (.int 0), (.ref b6)])
  obtain ⟨T13, X13, e13, st13⟩ := getF X11 hx hZ hown (host := "") (Or.inl (ww57 hw)) Via.refl e11 f10 (g := (mkF m 49 #[.val (.ref o0), .val (.long q1), .second, .val (.ref b6), .val (.int 0)] [(.ref o0), (.int 1), (.ref ar), (.int 0), (.ref b6)])) rfl rfl (hb hby d10_49)
  refine step st13 ?_
  show G T13 (mkF m 52 #[.val (.ref o0), .val (.long q1), .second, .val (.ref b6), .val (.int 0)] [(.ref ar), (.int 1), (.ref ar), (.int 0), (.ref b6)])
  have f14 := (Va.ext E6)
  have q15 := own_len X13 hx hZ e13 f14 (g := (mkF m 52 #[.val (.ref o0), .val (.long q1), .second, .val (.ref b6), .val (.int 0)] [(.ref ar), (.int 1), (.ref ar), (.int 0), (.ref b6)])) rfl rfl (hb hby d10_52)
  refine step q15 ?_
  show G T13 (mkF m 53 #[.val (.ref o0), .val (.long q1), .second, .val (.ref b6), .val (.int 0)] [(.int 4), (.int 1), (.ref ar), (.int 0), (.ref b6)])
  refine step (fun t k => iremM X13 hx rfl (hb hby d10_53) rfl (by decide) k) ?_
  show G T13 (mkF m 54 #[.val (.ref o0), .val (.long q1), .second, .val (.ref b6), .val (.int 0)] [(.int ((1 : Int32) % (4 : Int32))), (.ref ar), (.int 0), (.ref b6)])
  rw [(by decide : ((1 : Int32) % (4 : Int32)) = (1 : Int32))]
  show G T13 (mkF m 54 #[.val (.ref o0), .val (.long q1), .second, .val (.ref b6), .val (.int 0)] [(.int 1), (.ref ar), (.int 0), (.ref b6)])
  have q16 := own_ldJ X13 hx hZ e13 f14 (j := (1 : Int32)) (v := (.long x1)) (by decide) (own_at (i := 1) rfl rfl) (g := (mkF m 54 #[.val (.ref o0), .val (.long q1), .second, .val (.ref b6), .val (.int 0)] [(.int 1), (.ref ar), (.int 0), (.ref b6)])) rfl rfl (hb hby d10_54)
  refine step q16 ?_
  show G T13 (mkF m 55 #[.val (.ref o0), .val (.long q1), .second, .val (.ref b6), .val (.int 0)] [(.long x1), (.int 0), (.ref b6)])
  obtain ⟨T17, h17, X17, e17, W17, V17, st17⟩ := own_stJ X13 hx hZ e13 V6 (j := (0 : Int32)) (by decide) (i := 0) rfl (by show 0 < 8; decide) (g := (mkF m 55 #[.val (.ref o0), .val (.long q1), .second, .val (.ref b6), .val (.int 0)] [(.long x1), (.int 0), (.ref b6)])) rfl rfl (hb hby d10_55)
  replace V17 : Arv Z h17 b6 k6 .long (8 : Int32) [(.long x1), (.long 0), (.long 0), (.long 0), (.long 0), (.long 0), (.long 0), (.long 0)] (.long 0) := V17
  have N17 := Fr.snoc X17 N0 ge_b6
  obtain ⟨lc17, X17, N17⟩ := own_gen X17 N17
  have O17 := O6.wr W17 ge_b6
  have K17 : Keep h0 h17 [o0] := K6.wr W17 (Or.inr sz_b6)
  refine step st17 ?_
  show G T17 (mkF m 56 #[.val (.ref o0), .val (.long q1), .second, .val (.ref b6), .val (.int 0)] [])
  refine step (fun t k => XS.iinc X17.here hx rfl (hb hby d10_56) rfl (l' := #[.val (.ref o0), .val (.long q1), .second, .val (.ref b6), .val (.int ((0 : Int32) + (1 : Int32)))]) rfl k) ?_
  show G T17 (mkF m 59 #[.val (.ref o0), .val (.long q1), .second, .val (.ref b6), .val (.int ((0 : Int32) + (1 : Int32)))] [])
  rw [(by decide : ((0 : Int32) + (1 : Int32)) = (1 : Int32))]
  show G T17 (mkF m 59 #[.val (.ref o0), .val (.long q1), .second, .val (.ref b6), .val (.int 1)] [])
  refine step (fun t k => XS.goto X17.here hx rfl (pc0 := 59) (pc' := 25) rfl (hb hby d10_59) (by decide) (by decide) k) ?_
  show G T17 (mkF m 25 #[.val (.ref o0), .val (.long q1), .second, .val (.ref b6), .val (.int 1)] [])
  refine step (fun t k => XS.iload X17.here hx rfl (hb hby d10_25) rfl k) ?_
  show G T17 (mkF m 27 #[.val (.ref o0), .val (.long q1), .second, .val (.ref b6), .val (.int 1)] [(.int 1)])
  refine step (fun t k => XS.aloadN X17.here hx rfl (hb hby d10_27) rfl rfl k) ?_
  show G T17 (mkF m 28 #[.val (.ref o0), .val (.long q1), .second, .val (.ref b6), .val (.int 1)] [(.ref o0), (.int 1)])
  have f19 := (Fld.other W17 f8 (Or.inl (Nat.ne_of_lt lt_o0_b6)))
  obtain ⟨T18, X18, e18, st18⟩ := getF X17 hx hZ hown (host := "") (Or.inl (ww64 hw)) Via.refl e17 f19 (g := (mkF m 28 #[.val (.ref o0), .val (.long q1), .second, .val (.ref b6), .val (.int 1)] [(.ref o0), (.int 1)])) rfl rfl (hb hby d10_28)
  refine step st18 ?_
  show G T18 (mkF m 31 #[.val (.ref o0), .val (.long q1), .second, .val (.ref b6), .val (.int 1)] [(.int 4), (.int 1)])
  refine step (fun t k => XS.icmpNo X18.here hx rfl (hb hby d10_31) rfl (tlt (by decide : (1 : Int32) < (4 : Int32))).2.1 k) ?_
  show G T18 (mkF m 34 #[.val (.ref o0), .val (.long q1), .second, .val (.ref b6), .val (.int 1)] [])
  refine step (fun t k => XS.aloadN X18.here hx rfl (hb hby d10_34) rfl rfl k) ?_
  show G T18 (mkF m 35 #[.val (.ref o0), .val (.long q1), .second, .val (.ref b6), .val (.int 1)] [(.ref b6)])
  refine step (fun t k => XS.iload X18.here hx rfl (hb hby d10_35) rfl k) ?_
  show G T18 (mkF m 37 #[.val (.ref o0), .val (.long q1), .second, .val (.ref b6), .val (.int 1)] [(.int 1), (.ref b6)])
  refine step (fun t k => XS.aloadN X18.here hx rfl (hb hby d10_37) rfl rfl k) ?_
  show G T18 (mkF m 38 #[.val (.ref o0), .val (.long q1), .second, .val (.ref b6), .val (.int 1)] [(.ref o0), (.int 1), (.ref b6)])
  have f21 := (Fld.other W17 f10 (Or.inl (Nat.ne_of_lt lt_o0_b6)))
  obtain ⟨T20, X20, e20, st20⟩ := getF X18 hx hZ hown (host := "") (Or.inl (ww57 hw)) Via.refl e18 f21 (g := (mkF m 38 #[.val (.ref o0), .val (.long q1), .second, .val (.ref b6), .val (.int 1)] [(.ref o0), (.int 1), (.ref b6)])) rfl rfl (hb hby d10_38)
  refine step st20 ?_
  show G T20 (mkF m 41 #[.val (.ref o0), .val (.long q1), .second, .val (.ref b6), .val (.int 1)] [(.ref ar), (.int 1), (.ref b6)])
  refine step (fun t k => XS.aloadN X20.here hx rfl (hb hby d10_41) rfl rfl k) ?_
  show G T20 (mkF m 42 #[.val (.ref o0), .val (.long q1), .second, .val (.ref b6), .val (.int 1)] [(.ref o0), (.ref ar), (.int 1), (.ref b6)])
  have f23 := (Fld.other W17 f12 (Or.inl (Nat.ne_of_lt lt_o0_b6)))
  obtain ⟨T22, X22, e22, st22⟩ := getF X20 hx hZ hown (host := "") (Or.inl (ww66 hw)) Via.refl e20 f23 (g := (mkF m 42 #[.val (.ref o0), .val (.long q1), .second, .val (.ref b6), .val (.int 1)] [(.ref o0), (.ref ar), (.int 1), (.ref b6)])) rfl rfl (hb hby d10_42)
  refine step st22 ?_
  show G T22 (mkF m 45 #[.val (.ref o0), .val (.long q1), .second, .val (.ref b6), .val (.int 1)] [(.int 1), (.ref ar), (.int 1), (.ref b6)])
  refine step (fun t k => XS.iload X22.here hx rfl (hb hby d10_45) rfl k) ?_
  show G T22 (mkF m 47 #[.val (.ref o0), .val (.long q1), .second, .val (.ref b6), .val (.int 1)] [(.int 1), (.int 1), (.ref ar), (.int 1), (.ref b6)])
  refine step (fun t k => XS.iadd X22.here hx rfl (hb hby d10_47) rfl k) ?_
  show G T22 (mkF m 48 #[.val (.ref o0), .val (.long q1), .second, .val (.ref b6), .val (.int 1)] [(.int ((1 : Int32) + (1 : Int32))), (.ref ar), (.int 1), (.ref b6)])
  rw [(by decide : ((1 : Int32) + (1 : Int32)) = (2 : Int32))]
  show G T22 (mkF m 48 #[.val (.ref o0), .val (.long q1), .second, .val (.ref b6), .val (.int 1)] [(.int 2), (.ref ar), (.int 1), (.ref b6)])
  refine step (fun t k => XS.aloadN X22.here hx rfl (hb hby d10_48) rfl rfl k) ?_
  show G T22 (mkF m 49 #[.val (.ref o0), .val (.long q1), .second, .val (.ref b6), .val (.int 1)] [(.ref o0), (.int 2), (.ref ar), (.int 1), (.ref b6)])
  obtain ⟨T24, X24, e24, st24⟩ := getF X22 hx hZ hown (host := "") (Or.inl (ww57 hw)) Via.refl e22 f21 (g := (mkF m 49 #[.val (.ref o0), .val (.long q1), .second, .val (.ref b6), .val (.int 1)] [(.ref o0), (.int 2), (.ref ar), (.int 1), (.ref b6)])) rfl rfl (hb hby d10_49)
  refine step st24 ?_
  show G T24 (mkF m 52 #[.val (.ref o0), .val (.long q1), .second, .val (.ref b6), .val (.int 1)] [(.ref ar), (.int 2), (.ref ar), (.int 1), (.ref b6)])
  have f25 := (Arv.other f14 W17 (Nat.ne_of_lt lt_ar_b6))
  have q26 := own_len X24 hx hZ e24 f25 (g := (mkF m 52 #[.val (.ref o0), .val (.long q1), .second, .val (.ref b6), .val (.int 1)] [(.ref ar), (.int 2), (.ref ar), (.int 1), (.ref b6)])) rfl rfl (hb hby d10_52)
  refine step q26 ?_
  show G T24 (mkF m 53 #[.val (.ref o0), .val (.long q1), .second, .val (.ref b6), .val (.int 1)] [(.int 4), (.int 2), (.ref ar), (.int 1), (.ref b6)])
  refine step (fun t k => iremM X24 hx rfl (hb hby d10_53) rfl (by decide) k) ?_
  show G T24 (mkF m 54 #[.val (.ref o0), .val (.long q1), .second, .val (.ref b6), .val (.int 1)] [(.int ((2 : Int32) % (4 : Int32))), (.ref ar), (.int 1), (.ref b6)])
  rw [(by decide : ((2 : Int32) % (4 : Int32)) = (2 : Int32))]
  show G T24 (mkF m 54 #[.val (.ref o0), .val (.long q1), .second, .val (.ref b6), .val (.int 1)] [(.int 2), (.ref ar), (.int 1), (.ref b6)])
  have q27 := own_ldJ X24 hx hZ e24 f25 (j := (2 : Int32)) (v := (.long x2)) (by decide) (own_at (i := 2) rfl rfl) (g := (mkF m 54 #[.val (.ref o0), .val (.long q1), .second, .val (.ref b6), .val (.int 1)] [(.int 2), (.ref ar), (.int 1), (.ref b6)])) rfl rfl (hb hby d10_54)
  refine step q27 ?_
  show G T24 (mkF m 55 #[.val (.ref o0), .val (.long q1), .second, .val (.ref b6), .val (.int 1)] [(.long x2), (.int 1), (.ref b6)])
  obtain ⟨T28, h28, X28, e28, W28, V28, st28⟩ := own_stJ X24 hx hZ e24 V17 (j := (1 : Int32)) (by decide) (i := 1) rfl (by show 1 < 8; decide) (g := (mkF m 55 #[.val (.ref o0), .val (.long q1), .second, .val (.ref b6), .val (.int 1)] [(.long x2), (.int 1), (.ref b6)])) rfl rfl (hb hby d10_55)
  replace V28 : Arv Z h28 b6 k6 .long (8 : Int32) [(.long x1), (.long x2), (.long 0), (.long 0), (.long 0), (.long 0), (.long 0), (.long 0)] (.long 0) := V28
  have N28 := Fr.snoc X28 N17 ge_b6
  obtain ⟨lc28, X28, N28⟩ := own_gen X28 N28
  have O28 := O17.wr W28 ge_b6
  have K28 : Keep h0 h28 [o0] := K17.wr W28 (Or.inr sz_b6)
  refine step st28 ?_
  show G T28 (mkF m 56 #[.val (.ref o0), .val (.long q1), .second, .val (.ref b6), .val (.int 1)] [])
  refine step (fun t k => XS.iinc X28.here hx rfl (hb hby d10_56) rfl (l' := #[.val (.ref o0), .val (.long q1), .second, .val (.ref b6), .val (.int ((1 : Int32) + (1 : Int32)))]) rfl k) ?_
  show G T28 (mkF m 59 #[.val (.ref o0), .val (.long q1), .second, .val (.ref b6), .val (.int ((1 : Int32) + (1 : Int32)))] [])
  rw [(by decide : ((1 : Int32) + (1 : Int32)) = (2 : Int32))]
  show G T28 (mkF m 59 #[.val (.ref o0), .val (.long q1), .second, .val (.ref b6), .val (.int 2)] [])
  refine step (fun t k => XS.goto X28.here hx rfl (pc0 := 59) (pc' := 25) rfl (hb hby d10_59) (by decide) (by decide) k) ?_
  show G T28 (mkF m 25 #[.val (.ref o0), .val (.long q1), .second, .val (.ref b6), .val (.int 2)] [])
  refine step (fun t k => XS.iload X28.here hx rfl (hb hby d10_25) rfl k) ?_
  show G T28 (mkF m 27 #[.val (.ref o0), .val (.long q1), .second, .val (.ref b6), .val (.int 2)] [(.int 2)])
  refine step (fun t k => XS.aloadN X28.here hx rfl (hb hby d10_27) rfl rfl k) ?_
  show G T28 (mkF m 28 #[.val (.ref o0), .val (.long q1), .second, .val (.ref b6), .val (.int 2)] [(.ref o0), (.int 2)])
  have f30 := (Fld.other W28 f19 (Or.inl (Nat.ne_of_lt lt_o0_b6)))
  obtain ⟨T29, X29, e29, st29⟩ := getF X28 hx hZ hown (host := "") (Or.inl (ww64 hw)) Via.refl e28 f30 (g := (mkF m 28 #[.val (.ref o0), .val (.long q1), .second, .val (.ref b6), .val (.int 2)] [(.ref o0), (.int 2)])) rfl rfl (hb hby d10_28)
  refine step st29 ?_
  show G T29 (mkF m 31 #[.val (.ref o0), .val (.long q1), .second, .val (.ref b6), .val (.int 2)] [(.int 4), (.int 2)])
  refine step (fun t k => XS.icmpNo X29.here hx rfl (hb hby d10_31) rfl (tlt (by decide : (2 : Int32) < (4 : Int32))).2.1 k) ?_
  show G T29 (mkF m 34 #[.val (.ref o0), .val (.long q1), .second, .val (.ref b6), .val (.int 2)] [])
  refine step (fun t k => XS.aloadN X29.here hx rfl (hb hby d10_34) rfl rfl k) ?_
  show G T29 (mkF m 35 #[.val (.ref o0), .val (.long q1), .second, .val (.ref b6), .val (.int 2)] [(.ref b6)])
  refine step (fun t k => XS.iload X29.here hx rfl (hb hby d10_35) rfl k) ?_
  show G T29 (mkF m 37 #[.val (.ref o0), .val (.long q1), .second, .val (.ref b6), .val (.int 2)] [(.int 2), (.ref b6)])
  refine step (fun t k => XS.aloadN X29.here hx rfl (hb hby d10_37) rfl rfl k) ?_
  show G T29 (mkF m 38 #[.val (.ref o0), .val (.long q1), .second, .val (.ref b6), .val (.int 2)] [(.ref o0), (.int 2), (.ref b6)])
  have f32 := (Fld.other W28 f21 (Or.inl (Nat.ne_of_lt lt_o0_b6)))
  obtain ⟨T31, X31, e31, st31⟩ := getF X29 hx hZ hown (host := "") (Or.inl (ww57 hw)) Via.refl e29 f32 (g := (mkF m 38 #[.val (.ref o0), .val (.long q1), .second, .val (.ref b6), .val (.int 2)] [(.ref o0), (.int 2), (.ref b6)])) rfl rfl (hb hby d10_38)
  refine step st31 ?_
  show G T31 (mkF m 41 #[.val (.ref o0), .val (.long q1), .second, .val (.ref b6), .val (.int 2)] [(.ref ar), (.int 2), (.ref b6)])
  refine step (fun t k => XS.aloadN X31.here hx rfl (hb hby d10_41) rfl rfl k) ?_
  show G T31 (mkF m 42 #[.val (.ref o0), .val (.long q1), .second, .val (.ref b6), .val (.int 2)] [(.ref o0), (.ref ar), (.int 2), (.ref b6)])
  have f34 := (Fld.other W28 f23 (Or.inl (Nat.ne_of_lt lt_o0_b6)))
  obtain ⟨T33, X33, e33, st33⟩ := getF X31 hx hZ hown (host := "") (Or.inl (ww66 hw)) Via.refl e31 f34 (g := (mkF m 42 #[.val (.ref o0), .val (.long q1), .second, .val (.ref b6), .val (.int 2)] [(.ref o0), (.ref ar), (.int 2), (.ref b6)])) rfl rfl (hb hby d10_42)
  refine step st33 ?_
  show G T33 (mkF m 45 #[.val (.ref o0), .val (.long q1), .second, .val (.ref b6), .val (.int 2)] [(.int 1), (.ref ar), (.int 2), (.ref b6)])
  refine step (fun t k => XS.iload X33.here hx rfl (hb hby d10_45) rfl k) ?_
  show G T33 (mkF m 47 #[.val (.ref o0), .val (.long q1), .second, .val (.ref b6), .val (.int 2)] [(.int 2), (.int 1), (.ref ar), (.int 2), (.ref b6)])
  refine step (fun t k => XS.iadd X33.here hx rfl (hb hby d10_47) rfl k) ?_
  show G T33 (mkF m 48 #[.val (.ref o0), .val (.long q1), .second, .val (.ref b6), .val (.int 2)] [(.int ((1 : Int32) + (2 : Int32))), (.ref ar), (.int 2), (.ref b6)])
  rw [(by decide : ((1 : Int32) + (2 : Int32)) = (3 : Int32))]
  show G T33 (mkF m 48 #[.val (.ref o0), .val (.long q1), .second, .val (.ref b6), .val (.int 2)] [(.int 3), (.ref ar), (.int 2), (.ref b6)])
  refine step (fun t k => XS.aloadN X33.here hx rfl (hb hby d10_48) rfl rfl k) ?_
  show G T33 (mkF m 49 #[.val (.ref o0), .val (.long q1), .second, .val (.ref b6), .val (.int 2)] [(.ref o0), (.int 3), (.ref ar), (.int 2), (.ref b6)])
  obtain ⟨T35, X35, e35, st35⟩ := getF X33 hx hZ hown (host := "") (Or.inl (ww57 hw)) Via.refl e33 f32 (g := (mkF m 49 #[.val (.ref o0), .val (.long q1), .second, .val (.ref b6), .val (.int 2)] [(.ref o0), (.int 3), (.ref ar), (.int 2), (.ref b6)])) rfl rfl (hb hby d10_49)
  refine step st35 ?_
  show G T35 (mkF m 52 #[.val (.ref o0), .val (.long q1), .second, .val (.ref b6), .val (.int 2)] [(.ref ar), (.int 3), (.ref ar), (.int 2), (.ref b6)])
  have f36 := (Arv.other f25 W28 (Nat.ne_of_lt lt_ar_b6))
  have q37 := own_len X35 hx hZ e35 f36 (g := (mkF m 52 #[.val (.ref o0), .val (.long q1), .second, .val (.ref b6), .val (.int 2)] [(.ref ar), (.int 3), (.ref ar), (.int 2), (.ref b6)])) rfl rfl (hb hby d10_52)
  refine step q37 ?_
  show G T35 (mkF m 53 #[.val (.ref o0), .val (.long q1), .second, .val (.ref b6), .val (.int 2)] [(.int 4), (.int 3), (.ref ar), (.int 2), (.ref b6)])
  refine step (fun t k => iremM X35 hx rfl (hb hby d10_53) rfl (by decide) k) ?_
  show G T35 (mkF m 54 #[.val (.ref o0), .val (.long q1), .second, .val (.ref b6), .val (.int 2)] [(.int ((3 : Int32) % (4 : Int32))), (.ref ar), (.int 2), (.ref b6)])
  rw [(by decide : ((3 : Int32) % (4 : Int32)) = (3 : Int32))]
  show G T35 (mkF m 54 #[.val (.ref o0), .val (.long q1), .second, .val (.ref b6), .val (.int 2)] [(.int 3), (.ref ar), (.int 2), (.ref b6)])
  have q38 := own_ldJ X35 hx hZ e35 f36 (j := (3 : Int32)) (v := (.long x3)) (by decide) (own_at (i := 3) rfl rfl) (g := (mkF m 54 #[.val (.ref o0), .val (.long q1), .second, .val (.ref b6), .val (.int 2)] [(.int 3), (.ref ar), (.int 2), (.ref b6)])) rfl rfl (hb hby d10_54)
  refine step q38 ?_
  show G T35 (mkF m 55 #[.val (.ref o0), .val (.long q1), .second, .val (.ref b6), .val (.int 2)] [(.long x3), (.int 2), (.ref b6)])
  obtain ⟨T39, h39, X39, e39, W39, V39, st39⟩ := own_stJ X35 hx hZ e35 V28 (j := (2 : Int32)) (by decide) (i := 2) rfl (by show 2 < 8; decide) (g := (mkF m 55 #[.val (.ref o0), .val (.long q1), .second, .val (.ref b6), .val (.int 2)] [(.long x3), (.int 2), (.ref b6)])) rfl rfl (hb hby d10_55)
  replace V39 : Arv Z h39 b6 k6 .long (8 : Int32) [(.long x1), (.long x2), (.long x3), (.long 0), (.long 0), (.long 0), (.long 0), (.long 0)] (.long 0) := V39
  have N39 := Fr.snoc X39 N28 ge_b6
  obtain ⟨lc39, X39, N39⟩ := own_gen X39 N39
  have O39 := O28.wr W39 ge_b6
  have K39 : Keep h0 h39 [o0] := K28.wr W39 (Or.inr sz_b6)
  refine step st39 ?_
  show G T39 (mkF m 56 #[.val (.ref o0), .val (.long q1), .second, .val (.ref b6), .val (.int 2)] [])
  refine step (fun t k => XS.iinc X39.here hx rfl (hb hby d10_56) rfl (l' := #[.val (.ref o0), .val (.long q1), .second, .val (.ref b6), .val (.int ((2 : Int32) + (1 : Int32)))]) rfl k) ?_
  show G T39 (mkF m 59 #[.val (.ref o0), .val (.long q1), .second, .val (.ref b6), .val (.int ((2 : Int32) + (1 : Int32)))] [])
  rw [(by decide : ((2 : Int32) + (1 : Int32)) = (3 : Int32))]
  show G T39 (mkF m 59 #[.val (.ref o0), .val (.long q1), .second, .val (.ref b6), .val (.int 3)] [])
  refine step (fun t k => XS.goto X39.here hx rfl (pc0 := 59) (pc' := 25) rfl (hb hby d10_59) (by decide) (by decide) k) ?_
  show G T39 (mkF m 25 #[.val (.ref o0), .val (.long q1), .second, .val (.ref b6), .val (.int 3)] [])
  refine step (fun t k => XS.iload X39.here hx rfl (hb hby d10_25) rfl k) ?_
  show G T39 (mkF m 27 #[.val (.ref o0), .val (.long q1), .second, .val (.ref b6), .val (.int 3)] [(.int 3)])
  refine step (fun t k => XS.aloadN X39.here hx rfl (hb hby d10_27) rfl rfl k) ?_
  show G T39 (mkF m 28 #[.val (.ref o0), .val (.long q1), .second, .val (.ref b6), .val (.int 3)] [(.ref o0), (.int 3)])
  have f41 := (Fld.other W39 f30 (Or.inl (Nat.ne_of_lt lt_o0_b6)))
  obtain ⟨T40, X40, e40, st40⟩ := getF X39 hx hZ hown (host := "") (Or.inl (ww64 hw)) Via.refl e39 f41 (g := (mkF m 28 #[.val (.ref o0), .val (.long q1), .second, .val (.ref b6), .val (.int 3)] [(.ref o0), (.int 3)])) rfl rfl (hb hby d10_28)
  refine step st40 ?_
  show G T40 (mkF m 31 #[.val (.ref o0), .val (.long q1), .second, .val (.ref b6), .val (.int 3)] [(.int 4), (.int 3)])
  refine step (fun t k => XS.icmpNo X40.here hx rfl (hb hby d10_31) rfl (tlt (by decide : (3 : Int32) < (4 : Int32))).2.1 k) ?_
  show G T40 (mkF m 34 #[.val (.ref o0), .val (.long q1), .second, .val (.ref b6), .val (.int 3)] [])
  refine step (fun t k => XS.aloadN X40.here hx rfl (hb hby d10_34) rfl rfl k) ?_
  show G T40 (mkF m 35 #[.val (.ref o0), .val (.long q1), .second, .val (.ref b6), .val (.int 3)] [(.ref b6)])
  refine step (fun t k => XS.iload X40.here hx rfl (hb hby d10_35) rfl k) ?_
  show G T40 (mkF m 37 #[.val (.ref o0), .val (.long q1), .second, .val (.ref b6), .val (.int 3)] [(.int 3), (.ref b6)])
  refine step (fun t k => XS.aloadN X40.here hx rfl (hb hby d10_37) rfl rfl k) ?_
  show G T40 (mkF m 38 #[.val (.ref o0), .val (.long q1), .second, .val (.ref b6), .val (.int 3)] [(.ref o0), (.int 3), (.ref b6)])
  have f43 := (Fld.other W39 f32 (Or.inl (Nat.ne_of_lt lt_o0_b6)))
  obtain ⟨T42, X42, e42, st42⟩ := getF X40 hx hZ hown (host := "") (Or.inl (ww57 hw)) Via.refl e40 f43 (g := (mkF m 38 #[.val (.ref o0), .val (.long q1), .second, .val (.ref b6), .val (.int 3)] [(.ref o0), (.int 3), (.ref b6)])) rfl rfl (hb hby d10_38)
  refine step st42 ?_
  show G T42 (mkF m 41 #[.val (.ref o0), .val (.long q1), .second, .val (.ref b6), .val (.int 3)] [(.ref ar), (.int 3), (.ref b6)])
  refine step (fun t k => XS.aloadN X42.here hx rfl (hb hby d10_41) rfl rfl k) ?_
  show G T42 (mkF m 42 #[.val (.ref o0), .val (.long q1), .second, .val (.ref b6), .val (.int 3)] [(.ref o0), (.ref ar), (.int 3), (.ref b6)])
  have f45 := (Fld.other W39 f34 (Or.inl (Nat.ne_of_lt lt_o0_b6)))
  obtain ⟨T44, X44, e44, st44⟩ := getF X42 hx hZ hown (host := "") (Or.inl (ww66 hw)) Via.refl e42 f45 (g := (mkF m 42 #[.val (.ref o0), .val (.long q1), .second, .val (.ref b6), .val (.int 3)] [(.ref o0), (.ref ar), (.int 3), (.ref b6)])) rfl rfl (hb hby d10_42)
  refine step st44 ?_
  show G T44 (mkF m 45 #[.val (.ref o0), .val (.long q1), .second, .val (.ref b6), .val (.int 3)] [(.int 1), (.ref ar), (.int 3), (.ref b6)])
  refine step (fun t k => XS.iload X44.here hx rfl (hb hby d10_45) rfl k) ?_
  show G T44 (mkF m 47 #[.val (.ref o0), .val (.long q1), .second, .val (.ref b6), .val (.int 3)] [(.int 3), (.int 1), (.ref ar), (.int 3), (.ref b6)])
  refine step (fun t k => XS.iadd X44.here hx rfl (hb hby d10_47) rfl k) ?_
  show G T44 (mkF m 48 #[.val (.ref o0), .val (.long q1), .second, .val (.ref b6), .val (.int 3)] [(.int ((1 : Int32) + (3 : Int32))), (.ref ar), (.int 3), (.ref b6)])
  rw [(by decide : ((1 : Int32) + (3 : Int32)) = (4 : Int32))]
  show G T44 (mkF m 48 #[.val (.ref o0), .val (.long q1), .second, .val (.ref b6), .val (.int 3)] [(.int 4), (.ref ar), (.int 3), (.ref b6)])
  refine step (fun t k => XS.aloadN X44.here hx rfl (hb hby d10_48) rfl rfl k) ?_
  show G T44 (mkF m 49 #[.val (.ref o0), .val (.long q1), .second, .val (.ref b6), .val (.int 3)] [(.ref o0), (.int 4), (.ref ar), (.int 3), (.ref b6)])
  obtain ⟨T46, X46, e46, st46⟩ := getF X44 hx hZ hown (host := "") (Or.inl (ww57 hw)) Via.refl e44 f43 (g := (mkF m 49 #[.val (.ref o0), .val (.long q1), .second, .val (.ref b6), .val (.int 3)] [(.ref o0), (.int 4), (.ref ar), (.int 3), (.ref b6)])) rfl rfl (hb hby d10_49)
  refine step st46 ?_
  show G T46 (mkF m 52 #[.val (.ref o0), .val (.long q1), .second, .val (.ref b6), .val (.int 3)] [(.ref ar), (.int 4), (.ref ar), (.int 3), (.ref b6)])
  have f47 := (Arv.other f36 W39 (Nat.ne_of_lt lt_ar_b6))
  have q48 := own_len X46 hx hZ e46 f47 (g := (mkF m 52 #[.val (.ref o0), .val (.long q1), .second, .val (.ref b6), .val (.int 3)] [(.ref ar), (.int 4), (.ref ar), (.int 3), (.ref b6)])) rfl rfl (hb hby d10_52)
  refine step q48 ?_
  show G T46 (mkF m 53 #[.val (.ref o0), .val (.long q1), .second, .val (.ref b6), .val (.int 3)] [(.int 4), (.int 4), (.ref ar), (.int 3), (.ref b6)])
  refine step (fun t k => iremM X46 hx rfl (hb hby d10_53) rfl (by decide) k) ?_
  show G T46 (mkF m 54 #[.val (.ref o0), .val (.long q1), .second, .val (.ref b6), .val (.int 3)] [(.int ((4 : Int32) % (4 : Int32))), (.ref ar), (.int 3), (.ref b6)])
  rw [(by decide : ((4 : Int32) % (4 : Int32)) = (0 : Int32))]
  show G T46 (mkF m 54 #[.val (.ref o0), .val (.long q1), .second, .val (.ref b6), .val (.int 3)] [(.int 0), (.ref ar), (.int 3), (.ref b6)])
  have q49 := own_ldJ X46 hx hZ e46 f47 (j := (0 : Int32)) (v := (.long x0)) (by decide) (own_at (i := 0) rfl rfl) (g := (mkF m 54 #[.val (.ref o0), .val (.long q1), .second, .val (.ref b6), .val (.int 3)] [(.int 0), (.ref ar), (.int 3), (.ref b6)])) rfl rfl (hb hby d10_54)
  refine step q49 ?_
  show G T46 (mkF m 55 #[.val (.ref o0), .val (.long q1), .second, .val (.ref b6), .val (.int 3)] [(.long x0), (.int 3), (.ref b6)])
  obtain ⟨T50, h50, X50, e50, W50, V50, st50⟩ := own_stJ X46 hx hZ e46 V39 (j := (3 : Int32)) (by decide) (i := 3) rfl (by show 3 < 8; decide) (g := (mkF m 55 #[.val (.ref o0), .val (.long q1), .second, .val (.ref b6), .val (.int 3)] [(.long x0), (.int 3), (.ref b6)])) rfl rfl (hb hby d10_55)
  replace V50 : Arv Z h50 b6 k6 .long (8 : Int32) [(.long x1), (.long x2), (.long x3), (.long x0), (.long 0), (.long 0), (.long 0), (.long 0)] (.long 0) := V50
  have N50 := Fr.snoc X50 N39 ge_b6
  obtain ⟨lc50, X50, N50⟩ := own_gen X50 N50
  have O50 := O39.wr W50 ge_b6
  have K50 : Keep h0 h50 [o0] := K39.wr W50 (Or.inr sz_b6)
  refine step st50 ?_
  show G T50 (mkF m 56 #[.val (.ref o0), .val (.long q1), .second, .val (.ref b6), .val (.int 3)] [])
  refine step (fun t k => XS.iinc X50.here hx rfl (hb hby d10_56) rfl (l' := #[.val (.ref o0), .val (.long q1), .second, .val (.ref b6), .val (.int ((3 : Int32) + (1 : Int32)))]) rfl k) ?_
  show G T50 (mkF m 59 #[.val (.ref o0), .val (.long q1), .second, .val (.ref b6), .val (.int ((3 : Int32) + (1 : Int32)))] [])
  rw [(by decide : ((3 : Int32) + (1 : Int32)) = (4 : Int32))]
  show G T50 (mkF m 59 #[.val (.ref o0), .val (.long q1), .second, .val (.ref b6), .val (.int 4)] [])
  refine step (fun t k => XS.goto X50.here hx rfl (pc0 := 59) (pc' := 25) rfl (hb hby d10_59) (by decide) (by decide) k) ?_
  show G T50 (mkF m 25 #[.val (.ref o0), .val (.long q1), .second, .val (.ref b6), .val (.int 4)] [])
  refine step (fun t k => XS.iload X50.here hx rfl (hb hby d10_25) rfl k) ?_
  show G T50 (mkF m 27 #[.val (.ref o0), .val (.long q1), .second, .val (.ref b6), .val (.int 4)] [(.int 4)])
  refine step (fun t k => XS.aloadN X50.here hx rfl (hb hby d10_27) rfl rfl k) ?_
  show G T50 (mkF m 28 #[.val (.ref o0), .val (.long q1), .second, .val (.ref b6), .val (.int 4)] [(.ref o0), (.int 4)])
  have f52 := (Fld.other W50 f41 (Or.inl (Nat.ne_of_lt lt_o0_b6)))
  obtain ⟨T51, X51, e51, st51⟩ := getF X50 hx hZ hown (host := "") (Or.inl (ww64 hw)) Via.refl e50 f52 (g := (mkF m 28 #[.val (.ref o0), .val (.long q1), .second, .val (.ref b6), .val (.int 4)] [(.ref o0), (.int 4)])) rfl rfl (hb hby d10_28)
  refine step st51 ?_
  show G T51 (mkF m 31 #[.val (.ref o0), .val (.long q1), .second, .val (.ref b6), .val (.int 4)] [(.int 4), (.int 4)])
  refine step (fun t k => XS.icmpYes X51.here hx rfl (pc0 := 31) (pc' := 62) rfl (hb hby d10_31) rfl (flt (by decide : ¬ ((4 : Int32) < (4 : Int32)))).2.1 (by decide) (by decide) k) ?_
  show G T51 (mkF m 62 #[.val (.ref o0), .val (.long q1), .second, .val (.ref b6), .val (.int 4)] [])
  refine step (fun t k => XS.aloadN X51.here hx rfl (hb hby d10_62) rfl rfl k) ?_
  show G T51 (mkF m 63 #[.val (.ref o0), .val (.long q1), .second, .val (.ref b6), .val (.int 4)] [(.ref o0)])
  refine step (fun t k => XS.aloadN X51.here hx rfl (hb hby d10_63) rfl rfl k) ?_
  show G T51 (mkF m 64 #[.val (.ref o0), .val (.long q1), .second, .val (.ref b6), .val (.int 4)] [(.ref b6), (.ref o0)])
  have f54 := (Fld.other W50 f43 (Or.inl (Nat.ne_of_lt lt_o0_b6)))
  have f55 := (Exa.wr W50 (Exa.wr W39 (Exa.wr W28 (Exa.wr W17 (Exa.ext E6 Ex)))))
  obtain ⟨T53, h53, X53, e53, W53, st53⟩ := putF X51 hx hZ hown (host := "") (Or.inl (ww57 hw)) Via.refl e51 f54 f55 (Or.inl (ww58 hw)) (ww50 hw) (ty := (.array .long)) (by decide) rfl rfl (g := (mkF m 64 #[.val (.ref o0), .val (.long q1), .second, .val (.ref b6), .val (.int 4)] [(.ref b6), (.ref o0)])) rfl rfl (hb hby d10_64)
  have F53 : Fld Z h53 o0 cn_0 "times" "[J" (.ref b6) := Fld.same W53 f54
  have N53 := Fr.snoc X53 N50 geo
  obtain ⟨lc53, X53, N53⟩ := own_gen X53 N53
  have O53 := O50.wr W53 geo
  have K53 : Keep h0 h53 [o0] := K50.wr W53 (Or.inl (List.mem_of_getElem? (i := 0) rfl))
  refine step st53 ?_
  show G T53 (mkF m 67 #[.val (.ref o0), .val (.long q1), .second, .val (.ref b6), .val (.int 4)] [])
  refine step (fun t k => XS.aloadN X53.here hx rfl (hb hby d10_67) rfl rfl k) ?_
  show G T53 (mkF m 68 #[.val (.ref o0), .val (.long q1), .second, .val (.ref b6), .val (.int 4)] [(.ref o0)])
  refine step (fun t k => XS.iconst X53.here hx rfl (hb hby d10_68) k) ?_
  show G T53 (mkF m 69 #[.val (.ref o0), .val (.long q1), .second, .val (.ref b6), .val (.int 4)] [(.int 0), (.ref o0)])
  have f57 := (Fld.other W53 (Fld.other W50 f45 (Or.inl (Nat.ne_of_lt lt_o0_b6))) (Or.inr (slot_ne (Or.inl (ww67 hw)) (Or.inl (ww58 hw)) (by decide) (t := .int) (t' := (.array .long)) (by decide) (by decide))))
  have f58 := (Exa.wr W53 f55)
  obtain ⟨T56, h56, X56, e56, W56, st56⟩ := putF X53 hx hZ hown (host := "") (Or.inl (ww66 hw)) Via.refl e53 f57 f58 (Or.inl (ww67 hw)) (ww50 hw) (ty := .int) (by decide) rfl rfl (g := (mkF m 69 #[.val (.ref o0), .val (.long q1), .second, .val (.ref b6), .val (.int 4)] [(.int 0), (.ref o0)])) rfl rfl (hb hby d10_69)
  have F56 : Fld Z h56 o0 cn_0 "head" "I" (.int 0) := Fld.same W56 f57
  have N56 := Fr.snoc X56 N53 geo
  obtain ⟨lc56, X56, N56⟩ := own_gen X56 N56
  have O56 := O53.wr W56 geo
  have K56 : Keep h0 h56 [o0] := K53.wr W56 (Or.inl (List.mem_of_getElem? (i := 0) rfl))
  refine step st56 ?_
  show G T56 (mkF m 72 #[.val (.ref o0), .val (.long q1), .second, .val (.ref b6), .val (.int 4)] [])
  refine step (fun t k => XS.aloadN X56.here hx rfl (hb hby d10_72) rfl rfl k) ?_
  show G T56 (mkF m 73 #[.val (.ref o0), .val (.long q1), .second, .val (.ref b6), .val (.int 4)] [(.ref o0)])
  have f60 := (Fld.other W56 F53 (Or.inr (slot_ne (Or.inl (ww58 hw)) (Or.inl (ww67 hw)) (by decide) (t := (.array .long)) (t' := .int) (by decide) (by decide))))
  obtain ⟨T59, X59, e59, st59⟩ := getF X56 hx hZ hown (host := "") (Or.inl (ww57 hw)) Via.refl e56 f60 (g := (mkF m 73 #[.val (.ref o0), .val (.long q1), .second, .val (.ref b6), .val (.int 4)] [(.ref o0)])) rfl rfl (hb hby d10_73)
  refine step st59 ?_
  show G T59 (mkF m 76 #[.val (.ref o0), .val (.long q1), .second, .val (.ref b6), .val (.int 4)] [(.ref b6)])
  refine step (fun t k => XS.aloadN X59.here hx rfl (hb hby d10_76) rfl rfl k) ?_
  show G T59 (mkF m 77 #[.val (.ref o0), .val (.long q1), .second, .val (.ref b6), .val (.int 4)] [(.ref o0), (.ref b6)])
  obtain ⟨T61, X61, e61, st61⟩ := getF X59 hx hZ hown (host := "") (Or.inl (ww66 hw)) Via.refl e59 F56 (g := (mkF m 77 #[.val (.ref o0), .val (.long q1), .second, .val (.ref b6), .val (.int 4)] [(.ref o0), (.ref b6)])) rfl rfl (hb hby d10_77)
  refine step st61 ?_
  show G T61 (mkF m 80 #[.val (.ref o0), .val (.long q1), .second, .val (.ref b6), .val (.int 4)] [(.int 0), (.ref b6)])
  refine step (fun t k => XS.aloadN X61.here hx rfl (hb hby d10_80) rfl rfl k) ?_
  show G T61 (mkF m 81 #[.val (.ref o0), .val (.long q1), .second, .val (.ref b6), .val (.int 4)] [(.ref o0), (.int 0), (.ref b6)])
  have f63 := (Fld.other W56 (Fld.other W53 f52 (Or.inr (slot_ne (Or.inl (ww65 hw)) (Or.inl (ww58 hw)) (by decide) (t := .int) (t' := (.array .long)) (by decide) (by decide)))) (Or.inr (slot_ne (Or.inl (ww65 hw)) (Or.inl (ww67 hw)) (by decide) (t := .int) (t' := .int) (by decide) (by decide))))
  obtain ⟨T62, X62, e62, st62⟩ := getF X61 hx hZ hown (host := "") (Or.inl (ww64 hw)) Via.refl e61 f63 (g := (mkF m 81 #[.val (.ref o0), .val (.long q1), .second, .val (.ref b6), .val (.int 4)] [(.ref o0), (.int 0), (.ref b6)])) rfl rfl (hb hby d10_81)
  refine step st62 ?_
  show G T62 (mkF m 84 #[.val (.ref o0), .val (.long q1), .second, .val (.ref b6), .val (.int 4)] [(.int 4), (.int 0), (.ref b6)])
  refine step (fun t k => XS.iadd X62.here hx rfl (hb hby d10_84) rfl k) ?_
  show G T62 (mkF m 85 #[.val (.ref o0), .val (.long q1), .second, .val (.ref b6), .val (.int 4)] [(.int ((0 : Int32) + (4 : Int32))), (.ref b6)])
  rw [(by decide : ((0 : Int32) + (4 : Int32)) = (4 : Int32))]
  show G T62 (mkF m 85 #[.val (.ref o0), .val (.long q1), .second, .val (.ref b6), .val (.int 4)] [(.int 4), (.ref b6)])
  refine step (fun t k => XS.aloadN X62.here hx rfl (hb hby d10_85) rfl rfl k) ?_
  show G T62 (mkF m 86 #[.val (.ref o0), .val (.long q1), .second, .val (.ref b6), .val (.int 4)] [(.ref o0), (.int 4), (.ref b6)])
  obtain ⟨T64, X64, e64, st64⟩ := getF X62 hx hZ hown (host := "") (Or.inl (ww57 hw)) Via.refl e62 f60 (g := (mkF m 86 #[.val (.ref o0), .val (.long q1), .second, .val (.ref b6), .val (.int 4)] [(.ref o0), (.int 4), (.ref b6)])) rfl rfl (hb hby d10_86)
  refine step st64 ?_
  show G T64 (mkF m 89 #[.val (.ref o0), .val (.long q1), .second, .val (.ref b6), .val (.int 4)] [(.ref b6), (.int 4), (.ref b6)])
  have f65 := (Arv.other (Arv.other V50 W53 (Nat.ne_of_gt lt_o0_b6)) W56 (Nat.ne_of_gt lt_o0_b6))
  have q66 := own_len X64 hx hZ e64 f65 (g := (mkF m 89 #[.val (.ref o0), .val (.long q1), .second, .val (.ref b6), .val (.int 4)] [(.ref b6), (.int 4), (.ref b6)])) rfl rfl (hb hby d10_89)
  refine step q66 ?_
  show G T64 (mkF m 90 #[.val (.ref o0), .val (.long q1), .second, .val (.ref b6), .val (.int 4)] [(.int 8), (.int 4), (.ref b6)])
  refine step (fun t k => iremM X64 hx rfl (hb hby d10_90) rfl (by decide) k) ?_
  show G T64 (mkF m 91 #[.val (.ref o0), .val (.long q1), .second, .val (.ref b6), .val (.int 4)] [(.int ((4 : Int32) % (8 : Int32))), (.ref b6)])
  rw [(by decide : ((4 : Int32) % (8 : Int32)) = (4 : Int32))]
  show G T64 (mkF m 91 #[.val (.ref o0), .val (.long q1), .second, .val (.ref b6), .val (.int 4)] [(.int 4), (.ref b6)])
  refine step (fun t k => XS.lloadN X64.here hx rfl (hb hby d10_91) rfl k) ?_
  show G T64 (mkF m 92 #[.val (.ref o0), .val (.long q1), .second, .val (.ref b6), .val (.int 4)] [(.long q1), (.int 4), (.ref b6)])
  obtain ⟨T67, h67, X67, e67, W67, V67, st67⟩ := own_stJ X64 hx hZ e64 f65 (j := (4 : Int32)) (by decide) (i := 4) rfl (by show 4 < 8; decide) (g := (mkF m 92 #[.val (.ref o0), .val (.long q1), .second, .val (.ref b6), .val (.int 4)] [(.long q1), (.int 4), (.ref b6)])) rfl rfl (hb hby d10_92)
  replace V67 : Arv Z h67 b6 k6 .long (8 : Int32) [(.long x1), (.long x2), (.long x3), (.long x0), (.long q1), (.long 0), (.long 0), (.long 0)] (.long 0) := V67
  have N67 := Fr.snoc X67 N56 ge_b6
  obtain ⟨lc67, X67, N67⟩ := own_gen X67 N67
  have O67 := O56.wr W67 ge_b6
  have K67 : Keep h0 h67 [o0] := K56.wr W67 (Or.inr sz_b6)
  refine step st67 ?_
  show G T67 (mkF m 93 #[.val (.ref o0), .val (.long q1), .second, .val (.ref b6), .val (.int 4)] [])
  refine step (fun t k => XS.aloadN X67.here hx rfl (hb hby d10_93) rfl rfl k) ?_
  show G T67 (mkF m 94 #[.val (.ref o0), .val (.long q1), .second, .val (.ref b6), .val (.int 4)] [(.ref o0)])
  refine step (fun t k => XS.dup X67.here hx rfl (hb hby d10_94) rfl rfl k) ?_
  show G T67 (mkF m 95 #[.val (.ref o0), .val (.long q1), .second, .val (.ref b6), .val (.int 4)] [(.ref o0), (.ref o0)])
  have f69 := (Fld.other W67 f63 (Or.inl (Nat.ne_of_lt lt_o0_b6)))
  obtain ⟨T68, X68, e68, st68⟩ := getF X67 hx hZ hown (host := "") (Or.inl (ww64 hw)) Via.refl e67 f69 (g := (mkF m 95 #[.val (.ref o0), .val (.long q1), .second, .val (.ref b6), .val (.int 4)] [(.ref o0), (.ref o0)])) rfl rfl (hb hby d10_95)
  refine step st68 ?_
  show G T68 (mkF m 98 #[.val (.ref o0), .val (.long q1), .second, .val (.ref b6), .val (.int 4)] [(.int 4), (.ref o0)])
  refine step (fun t k => XS.iconst X68.here hx rfl (hb hby d10_98) k) ?_
  show G T68 (mkF m 99 #[.val (.ref o0), .val (.long q1), .second, .val (.ref b6), .val (.int 4)] [(.int 1), (.int 4), (.ref o0)])
  refine step (fun t k => XS.iadd X68.here hx rfl (hb hby d10_99) rfl k) ?_
  show G T68 (mkF m 100 #[.val (.ref o0), .val (.long q1), .second, .val (.ref b6), .val (.int 4)] [(.int ((4 : Int32) + (1 : Int32))), (.ref o0)])
  rw [(by decide : ((4 : Int32) + (1 : Int32)) = (5 : Int32))]
  show G T68 (mkF m 100 #[.val (.ref o0), .val (.long q1), .second, .val (.ref b6), .val (.int 4)] [(.int 5), (.ref o0)])
  have f71 := (Exa.wr W67 (Exa.wr W56 f58))
  obtain ⟨T70, h70, X70, e70, W70, st70⟩ := putF X68 hx hZ hown (host := "") (Or.inl (ww64 hw)) Via.refl e68 f69 f71 (Or.inl (ww65 hw)) (ww50 hw) (ty := .int) (by decide) rfl rfl (g := (mkF m 100 #[.val (.ref o0), .val (.long q1), .second, .val (.ref b6), .val (.int 4)] [(.int 5), (.ref o0)])) rfl rfl (hb hby d10_100)
  have F70 : Fld Z h70 o0 cn_0 "size" "I" (.int 5) := Fld.same W70 f69
  have N70 := Fr.snoc X70 N67 geo
  obtain ⟨lc70, X70, N70⟩ := own_gen X70 N70
  have O70 := O67.wr W70 geo
  have K70 : Keep h0 h70 [o0] := K67.wr W70 (Or.inl (List.mem_of_getElem? (i := 0) rfl))
  refine step st70 ?_
  show G T70 (mkF m 103 #[.val (.ref o0), .val (.long q1), .second, .val (.ref b6), .val (.int 4)] [])
  have f72 := (Exa.wr W70 f71)
  have f73 := (Fld.other W70 (Fld.other W67 f60 (Or.inl (Nat.ne_of_lt lt_o0_b6))) (Or.inr (slot_ne (Or.inl (ww58 hw)) (Or.inl (ww65 hw)) (by decide) (t := (.array .long)) (t' := .int) (by decide) (by decide))))
  have f74 := (Fld.other W70 (Fld.other W67 F56 (Or.inl (Nat.ne_of_lt lt_o0_b6))) (Or.inr (slot_ne (Or.inl (ww67 hw)) (Or.inl (ww65 hw)) (by decide) (t := .int) (t' := .int) (by decide) (by decide))))
  have f75 := (Arv.other V67 W70 (Nat.ne_of_gt lt_o0_b6))
  exact ret (v := none) X70 (fun _ => rfl) (fun fs hr => X70.returnOut hx Bd.returns (hb hby d10_103) hr) e70 ⟨b6, k6, rfl, N70, K70, sz_b6, f72, f73, f74, F70, f75⟩ (by decide) (by decide)
abbrev rr_for_4_0_4_2 : Room := { frames := 0, cells := 0, slots := 0, locals := 0 }
theorem ef_for_4_0_4_2 (m : MethodId) (o0 : Addr) (q1 : Int64) : entryFrame m #[(.ref o0), (.long q1)] 3 = mkF m 0 #[.val (.ref o0), .val (.long q1), .second] [] := by first | (simp [entryFrame, mkF, argsToLocals, Value.category]; done) | rfl
def Q_for_4_0_4_2 (Z : State) (w_0 : Addr) (w_1 : Addr) (w_2 : Addr) (o0 : Addr) (q1 : Int64) (ar : Addr) (ka : ClassId) (x0 : Int64) (x1 : Int64) (x2 : Int64) (x3 : Int64) (h0 : Heap) (n0 : Nat) (v : Option Value) (h : Heap) (L : List Loc) : Prop := v = none ∧ Fr n0 L ∧ Keep h0 h [o0] ∧ Exa Z h o0 cn_0 ∧ Fld Z h o0 cn_0 "times" "[J" (.ref ar) ∧ Fld Z h o0 cn_0 "head" "I" (.int 2) ∧ Fld Z h o0 cn_0 "size" "I" (.int 2)
set_option maxRecDepth 65536 in
set_option maxHeartbeats 40000000 in
theorem rm_for_4_0_4_2 (l : Launch) (Z : State) (a0 : Array Value) (hw : ∀ d ∈ tables_1, d.before a0 Z = true) (ws : List Jvm.Cond) (w_0 : Addr) (w_1 : Addr) (w_2 : Addr) (o0 : Addr) (q1 : Int64) (ar : Addr) (ka : ClassId) (x0 : Int64) (x1 : Int64) (x2 : Int64) (x3 : Int64) (h0 : Heap) (n0 : Nat) (Z0 : n0 ≤ h0.size) (ST : own_St Z w_0 w_1 w_2) (O0 : Old Z n0 h0) (Ex : Exa Z h0 o0 cn_0) (geo : n0 ≤ o0) (Ft : Fld Z h0 o0 cn_0 "times" "[J" (.ref ar)) (gea : n0 ≤ ar) (Fh : Fld Z h0 o0 cn_0 "head" "I" (.int 0)) (Fs : Fld Z h0 o0 cn_0 "size" "I" (.int 4)) (Va : Arv Z h0 ar ka .long (4 : Int32) [(.long x0), (.long x1), (.long x2), (.long x3)] (.long 0)) (hp0 : ¬ (q1 < x0)) (hp1 : ¬ (q1 < x1)) (hp2 : q1 < x2) :
    MetFree l y_11 (head1 (Jvm.Cond.code y_11 prog_2_method_5_code 3 none :: ws) rr_for_4_0_4_2) (fun a U => a = #[(.ref o0), (.long q1)] ∧ Z.Warmed39 U.vm ∧ U.heap = h0) (fun _ _ _ _ _ => True) (fun _ U o U' => ∃ v L, o = .returned v ∧ Q_for_4_0_4_2 Z w_0 w_1 w_2 o0 q1 ar ka x0 x1 x2 x3 h0 n0 v U'.heap L ∧ FrameEnd U o U' L rr_for_4_0_4_2.cells rr_for_4_0_4_2.slots) := by
  refine MetFree.of_bodySF (plainFor_of_name pn_3) hisR ?_
  intro p e s m args below meth c s₁ Bd hml0 hP hK
  obtain ⟨rfl, hZ, hh⟩ := hP
  have hx := Bd.exec
  have hby := Bd.bytes
  have hml : c.maxLocals = 3 := hml0
  have hown : s.vm.findClass cn_0 = some m.cls := findClass_of_methodNamed Bd.named
  have hnm := (name_of_methodNamed Bd.named Bd.method).1
  have X0 : Stand p l e rr_for_4_0_4_2 s m #[(.ref o0), (.long q1)] below meth c s₁ [] 0 0 := Stand.of_body Bd
  have e0 : s₁.heap = h0 := by rw [← hh, Bd.state]; rfl
  have N0 := Fr.nil n0
  have K0 : Keep h0 h0 [o0] := Keep.refl _ _
  obtain ⟨G, step, ret, fin⟩ := own_open (p := p) (l := l) (e := e) (R := rr_for_4_0_4_2) (s := s) (m := m) (args := #[(.ref o0), (.long q1)]) (below := below) (meth := meth) (c := c) (rr_for_4_0_4_2.cells) (rr_for_4_0_4_2.slots) (Q_for_4_0_4_2 Z w_0 w_1 w_2 o0 q1 ar ka x0 x1 x2 x3 h0 n0) Bd.notSynchronized
  refine fin (g := entryFrame m #[(.ref o0), (.long q1)] 3) ?_
  rw [ef_for_4_0_4_2 m o0 q1]
  have ne_o0_ar : o0 ≠ ar := own_ne_arv Ex (ww50 hw) Va
  show G s₁ (mkF m 0 #[.val (.ref o0), .val (.long q1), .second] [])
  refine step (fun t k => XS.aloadN X0.here hx rfl (hb hby d11_0) rfl rfl k) ?_
  show G s₁ (mkF m 1 #[.val (.ref o0), .val (.long q1), .second] [(.ref o0)])
  obtain ⟨T1, X1, e1, st1⟩ := getF X0 hx hZ hown (host := "") (Or.inl (ww64 hw)) Via.refl e0 Fs (g := (mkF m 1 #[.val (.ref o0), .val (.long q1), .second] [(.ref o0)])) rfl rfl (hb hby d11_1)
  refine step st1 ?_
  show G T1 (mkF m 4 #[.val (.ref o0), .val (.long q1), .second] [(.int 4)])
  refine step (fun t k => XS.ifNo X1.here hx rfl (hb hby d11_4) rfl ((if0 _ _).trans (tlt (by decide : (0 : Int32) < (4 : Int32))).2.2.2) k) ?_
  show G T1 (mkF m 7 #[.val (.ref o0), .val (.long q1), .second] [])
  refine step (fun t k => XS.aloadN X1.here hx rfl (hb hby d11_7) rfl rfl k) ?_
  show G T1 (mkF m 8 #[.val (.ref o0), .val (.long q1), .second] [(.ref o0)])
  obtain ⟨T2, X2, e2, st2⟩ := getF X1 hx hZ hown (host := "") (Or.inl (ww57 hw)) Via.refl e1 Ft (g := (mkF m 8 #[.val (.ref o0), .val (.long q1), .second] [(.ref o0)])) rfl rfl (hb hby d11_8)
  refine step st2 ?_
  show G T2 (mkF m 11 #[.val (.ref o0), .val (.long q1), .second] [(.ref ar)])
  refine step (fun t k => XS.aloadN X2.here hx rfl (hb hby d11_11) rfl rfl k) ?_
  show G T2 (mkF m 12 #[.val (.ref o0), .val (.long q1), .second] [(.ref o0), (.ref ar)])
  obtain ⟨T3, X3, e3, st3⟩ := getF X2 hx hZ hown (host := "") (Or.inl (ww66 hw)) Via.refl e2 Fh (g := (mkF m 12 #[.val (.ref o0), .val (.long q1), .second] [(.ref o0), (.ref ar)])) rfl rfl (hb hby d11_12)
  refine step st3 ?_
  show G T3 (mkF m 15 #[.val (.ref o0), .val (.long q1), .second] [(.int 0), (.ref ar)])
  have q4 := own_ldJ X3 hx hZ e3 Va (j := (0 : Int32)) (v := (.long x0)) (by decide) (own_at (i := 0) rfl rfl) (g := (mkF m 15 #[.val (.ref o0), .val (.long q1), .second] [(.int 0), (.ref ar)])) rfl rfl (hb hby d11_15)
  refine step q4 ?_
  show G T3 (mkF m 16 #[.val (.ref o0), .val (.long q1), .second] [(.long x0)])
  refine step (fun t k => XS.lloadN X3.here hx rfl (hb hby d11_16) rfl k) ?_
  show G T3 (mkF m 17 #[.val (.ref o0), .val (.long q1), .second] [(.long q1), (.long x0)])
  refine step (fun t k => XS.lcmp X3.here hx rfl (hb hby d11_17) rfl k) ?_
  show G T3 (mkF m 18 #[.val (.ref o0), .val (.long q1), .second] [(.int (lcmpW x0 q1))])
  refine step (fun t k => XS.ifNo X3.here hx rfl (hb hby d11_18) rfl ((if0 _ _).trans (flt (fun q => hp0 ((lw_gt _ _).mp q))).2.2.1) k) ?_
  show G T3 (mkF m 21 #[.val (.ref o0), .val (.long q1), .second] [])
  refine step (fun t k => XS.aloadN X3.here hx rfl (hb hby d11_21) rfl rfl k) ?_
  show G T3 (mkF m 22 #[.val (.ref o0), .val (.long q1), .second] [(.ref o0)])
  refine step (fun t k => XS.aloadN X3.here hx rfl (hb hby d11_22) rfl rfl k) ?_
  show G T3 (mkF m 23 #[.val (.ref o0), .val (.long q1), .second] [(.ref o0), (.ref o0)])
  obtain ⟨T5, X5, e5, st5⟩ := getF X3 hx hZ hown (host := "") (Or.inl (ww66 hw)) Via.refl e3 Fh (g := (mkF m 23 #[.val (.ref o0), .val (.long q1), .second] [(.ref o0), (.ref o0)])) rfl rfl (hb hby d11_23)
  refine step st5 ?_
  show G T5 (mkF m 26 #[.val (.ref o0), .val (.long q1), .second] [(.int 0), (.ref o0)])
  refine step (fun t k => XS.iconst X5.here hx rfl (hb hby d11_26) k) ?_
  show G T5 (mkF m 27 #[.val (.ref o0), .val (.long q1), .second] [(.int 1), (.int 0), (.ref o0)])
  refine step (fun t k => XS.iadd X5.here hx rfl (hb hby d11_27) rfl k) ?_
  show G T5 (mkF m 28 #[.val (.ref o0), .val (.long q1), .second] [(.int ((0 : Int32) + (1 : Int32))), (.ref o0)])
  rw [(by decide : ((0 : Int32) + (1 : Int32)) = (1 : Int32))]
  show G T5 (mkF m 28 #[.val (.ref o0), .val (.long q1), .second] [(.int 1), (.ref o0)])
  refine step (fun t k => XS.aloadN X5.here hx rfl (hb hby d11_28) rfl rfl k) ?_
  show G T5 (mkF m 29 #[.val (.ref o0), .val (.long q1), .second] [(.ref o0), (.int 1), (.ref o0)])
  obtain ⟨T6, X6, e6, st6⟩ := getF X5 hx hZ hown (host := "") (Or.inl (ww57 hw)) Via.refl e5 Ft (g := (mkF m 29 #[.val (.ref o0), .val (.long q1), .second] [(.ref o0), (.int 1), (.ref o0)])) rfl rfl (hb hby d11_29)
  refine step st6 ?_
  show G T6 (mkF m 32 #[.val (.ref o0), .val (.long q1), .second] [(.ref ar), (.int 1), (.ref o0)])
  have q7 := own_len X6 hx hZ e6 Va (g := (mkF m 32 #[.val (.ref o0), .val (.long q1), .second] [(.ref ar), (.int 1), (.ref o0)])) rfl rfl (hb hby d11_32)
  refine step q7 ?_
  show G T6 (mkF m 33 #[.val (.ref o0), .val (.long q1), .second] [(.int 4), (.int 1), (.ref o0)])
  refine step (fun t k => iremM X6 hx rfl (hb hby d11_33) rfl (by decide) k) ?_
  show G T6 (mkF m 34 #[.val (.ref o0), .val (.long q1), .second] [(.int ((1 : Int32) % (4 : Int32))), (.ref o0)])
  rw [(by decide : ((1 : Int32) % (4 : Int32)) = (1 : Int32))]
  show G T6 (mkF m 34 #[.val (.ref o0), .val (.long q1), .second] [(.int 1), (.ref o0)])
  obtain ⟨T8, h8, X8, e8, W8, st8⟩ := putF X6 hx hZ hown (host := "") (Or.inl (ww66 hw)) Via.refl e6 Fh Ex (Or.inl (ww67 hw)) (ww50 hw) (ty := .int) (by decide) rfl rfl (g := (mkF m 34 #[.val (.ref o0), .val (.long q1), .second] [(.int 1), (.ref o0)])) rfl rfl (hb hby d11_34)
  have F8 : Fld Z h8 o0 cn_0 "head" "I" (.int 1) := Fld.same W8 Fh
  have N8 := Fr.snoc X8 N0 geo
  obtain ⟨lc8, X8, N8⟩ := own_gen X8 N8
  have O8 := O0.wr W8 geo
  have K8 : Keep h0 h8 [o0] := K0.wr W8 (Or.inl (List.mem_of_getElem? (i := 0) rfl))
  refine step st8 ?_
  show G T8 (mkF m 37 #[.val (.ref o0), .val (.long q1), .second] [])
  refine step (fun t k => XS.aloadN X8.here hx rfl (hb hby d11_37) rfl rfl k) ?_
  show G T8 (mkF m 38 #[.val (.ref o0), .val (.long q1), .second] [(.ref o0)])
  refine step (fun t k => XS.dup X8.here hx rfl (hb hby d11_38) rfl rfl k) ?_
  show G T8 (mkF m 39 #[.val (.ref o0), .val (.long q1), .second] [(.ref o0), (.ref o0)])
  have f10 := (Fld.other W8 Fs (Or.inr (slot_ne (Or.inl (ww65 hw)) (Or.inl (ww67 hw)) (by decide) (t := .int) (t' := .int) (by decide) (by decide))))
  obtain ⟨T9, X9, e9, st9⟩ := getF X8 hx hZ hown (host := "") (Or.inl (ww64 hw)) Via.refl e8 f10 (g := (mkF m 39 #[.val (.ref o0), .val (.long q1), .second] [(.ref o0), (.ref o0)])) rfl rfl (hb hby d11_39)
  refine step st9 ?_
  show G T9 (mkF m 42 #[.val (.ref o0), .val (.long q1), .second] [(.int 4), (.ref o0)])
  refine step (fun t k => XS.iconst X9.here hx rfl (hb hby d11_42) k) ?_
  show G T9 (mkF m 43 #[.val (.ref o0), .val (.long q1), .second] [(.int 1), (.int 4), (.ref o0)])
  refine step (fun t k => XS.isub X9.here hx rfl (hb hby d11_43) rfl k) ?_
  show G T9 (mkF m 44 #[.val (.ref o0), .val (.long q1), .second] [(.int ((4 : Int32) - (1 : Int32))), (.ref o0)])
  rw [(by decide : ((4 : Int32) - (1 : Int32)) = (3 : Int32))]
  show G T9 (mkF m 44 #[.val (.ref o0), .val (.long q1), .second] [(.int 3), (.ref o0)])
  have f12 := (Exa.wr W8 Ex)
  obtain ⟨T11, h11, X11, e11, W11, st11⟩ := putF X9 hx hZ hown (host := "") (Or.inl (ww64 hw)) Via.refl e9 f10 f12 (Or.inl (ww65 hw)) (ww50 hw) (ty := .int) (by decide) rfl rfl (g := (mkF m 44 #[.val (.ref o0), .val (.long q1), .second] [(.int 3), (.ref o0)])) rfl rfl (hb hby d11_44)
  have F11 : Fld Z h11 o0 cn_0 "size" "I" (.int 3) := Fld.same W11 f10
  have N11 := Fr.snoc X11 N8 geo
  obtain ⟨lc11, X11, N11⟩ := own_gen X11 N11
  have O11 := O8.wr W11 geo
  have K11 : Keep h0 h11 [o0] := K8.wr W11 (Or.inl (List.mem_of_getElem? (i := 0) rfl))
  refine step st11 ?_
  show G T11 (mkF m 47 #[.val (.ref o0), .val (.long q1), .second] [])
  refine step (fun t k => XS.goto X11.here hx rfl (pc0 := 47) (pc' := 0) rfl (hb hby d11_47) (by decide) (by decide) k) ?_
  show G T11 (mkF m 0 #[.val (.ref o0), .val (.long q1), .second] [])
  refine step (fun t k => XS.aloadN X11.here hx rfl (hb hby d11_0) rfl rfl k) ?_
  show G T11 (mkF m 1 #[.val (.ref o0), .val (.long q1), .second] [(.ref o0)])
  obtain ⟨T13, X13, e13, st13⟩ := getF X11 hx hZ hown (host := "") (Or.inl (ww64 hw)) Via.refl e11 F11 (g := (mkF m 1 #[.val (.ref o0), .val (.long q1), .second] [(.ref o0)])) rfl rfl (hb hby d11_1)
  refine step st13 ?_
  show G T13 (mkF m 4 #[.val (.ref o0), .val (.long q1), .second] [(.int 3)])
  refine step (fun t k => XS.ifNo X13.here hx rfl (hb hby d11_4) rfl ((if0 _ _).trans (tlt (by decide : (0 : Int32) < (3 : Int32))).2.2.2) k) ?_
  show G T13 (mkF m 7 #[.val (.ref o0), .val (.long q1), .second] [])
  refine step (fun t k => XS.aloadN X13.here hx rfl (hb hby d11_7) rfl rfl k) ?_
  show G T13 (mkF m 8 #[.val (.ref o0), .val (.long q1), .second] [(.ref o0)])
  have f15 := (Fld.other W11 (Fld.other W8 Ft (Or.inr (slot_ne (Or.inl (ww58 hw)) (Or.inl (ww67 hw)) (by decide) (t := (.array .long)) (t' := .int) (by decide) (by decide)))) (Or.inr (slot_ne (Or.inl (ww58 hw)) (Or.inl (ww65 hw)) (by decide) (t := (.array .long)) (t' := .int) (by decide) (by decide))))
  obtain ⟨T14, X14, e14, st14⟩ := getF X13 hx hZ hown (host := "") (Or.inl (ww57 hw)) Via.refl e13 f15 (g := (mkF m 8 #[.val (.ref o0), .val (.long q1), .second] [(.ref o0)])) rfl rfl (hb hby d11_8)
  refine step st14 ?_
  show G T14 (mkF m 11 #[.val (.ref o0), .val (.long q1), .second] [(.ref ar)])
  refine step (fun t k => XS.aloadN X14.here hx rfl (hb hby d11_11) rfl rfl k) ?_
  show G T14 (mkF m 12 #[.val (.ref o0), .val (.long q1), .second] [(.ref o0), (.ref ar)])
  have f17 := (Fld.other W11 F8 (Or.inr (slot_ne (Or.inl (ww67 hw)) (Or.inl (ww65 hw)) (by decide) (t := .int) (t' := .int) (by decide) (by decide))))
  obtain ⟨T16, X16, e16, st16⟩ := getF X14 hx hZ hown (host := "") (Or.inl (ww66 hw)) Via.refl e14 f17 (g := (mkF m 12 #[.val (.ref o0), .val (.long q1), .second] [(.ref o0), (.ref ar)])) rfl rfl (hb hby d11_12)
  refine step st16 ?_
  show G T16 (mkF m 15 #[.val (.ref o0), .val (.long q1), .second] [(.int 1), (.ref ar)])
  have f18 := (Arv.other (Arv.other Va W8 (Ne.symm ne_o0_ar)) W11 (Ne.symm ne_o0_ar))
  have q19 := own_ldJ X16 hx hZ e16 f18 (j := (1 : Int32)) (v := (.long x1)) (by decide) (own_at (i := 1) rfl rfl) (g := (mkF m 15 #[.val (.ref o0), .val (.long q1), .second] [(.int 1), (.ref ar)])) rfl rfl (hb hby d11_15)
  refine step q19 ?_
  show G T16 (mkF m 16 #[.val (.ref o0), .val (.long q1), .second] [(.long x1)])
  refine step (fun t k => XS.lloadN X16.here hx rfl (hb hby d11_16) rfl k) ?_
  show G T16 (mkF m 17 #[.val (.ref o0), .val (.long q1), .second] [(.long q1), (.long x1)])
  refine step (fun t k => XS.lcmp X16.here hx rfl (hb hby d11_17) rfl k) ?_
  show G T16 (mkF m 18 #[.val (.ref o0), .val (.long q1), .second] [(.int (lcmpW x1 q1))])
  refine step (fun t k => XS.ifNo X16.here hx rfl (hb hby d11_18) rfl ((if0 _ _).trans (flt (fun q => hp1 ((lw_gt _ _).mp q))).2.2.1) k) ?_
  show G T16 (mkF m 21 #[.val (.ref o0), .val (.long q1), .second] [])
  refine step (fun t k => XS.aloadN X16.here hx rfl (hb hby d11_21) rfl rfl k) ?_
  show G T16 (mkF m 22 #[.val (.ref o0), .val (.long q1), .second] [(.ref o0)])
  refine step (fun t k => XS.aloadN X16.here hx rfl (hb hby d11_22) rfl rfl k) ?_
  show G T16 (mkF m 23 #[.val (.ref o0), .val (.long q1), .second] [(.ref o0), (.ref o0)])
  obtain ⟨T20, X20, e20, st20⟩ := getF X16 hx hZ hown (host := "") (Or.inl (ww66 hw)) Via.refl e16 f17 (g := (mkF m 23 #[.val (.ref o0), .val (.long q1), .second] [(.ref o0), (.ref o0)])) rfl rfl (hb hby d11_23)
  refine step st20 ?_
  show G T20 (mkF m 26 #[.val (.ref o0), .val (.long q1), .second] [(.int 1), (.ref o0)])
  refine step (fun t k => XS.iconst X20.here hx rfl (hb hby d11_26) k) ?_
  show G T20 (mkF m 27 #[.val (.ref o0), .val (.long q1), .second] [(.int 1), (.int 1), (.ref o0)])
  refine step (fun t k => XS.iadd X20.here hx rfl (hb hby d11_27) rfl k) ?_
  show G T20 (mkF m 28 #[.val (.ref o0), .val (.long q1), .second] [(.int ((1 : Int32) + (1 : Int32))), (.ref o0)])
  rw [(by decide : ((1 : Int32) + (1 : Int32)) = (2 : Int32))]
  show G T20 (mkF m 28 #[.val (.ref o0), .val (.long q1), .second] [(.int 2), (.ref o0)])
  refine step (fun t k => XS.aloadN X20.here hx rfl (hb hby d11_28) rfl rfl k) ?_
  show G T20 (mkF m 29 #[.val (.ref o0), .val (.long q1), .second] [(.ref o0), (.int 2), (.ref o0)])
  obtain ⟨T21, X21, e21, st21⟩ := getF X20 hx hZ hown (host := "") (Or.inl (ww57 hw)) Via.refl e20 f15 (g := (mkF m 29 #[.val (.ref o0), .val (.long q1), .second] [(.ref o0), (.int 2), (.ref o0)])) rfl rfl (hb hby d11_29)
  refine step st21 ?_
  show G T21 (mkF m 32 #[.val (.ref o0), .val (.long q1), .second] [(.ref ar), (.int 2), (.ref o0)])
  have q22 := own_len X21 hx hZ e21 f18 (g := (mkF m 32 #[.val (.ref o0), .val (.long q1), .second] [(.ref ar), (.int 2), (.ref o0)])) rfl rfl (hb hby d11_32)
  refine step q22 ?_
  show G T21 (mkF m 33 #[.val (.ref o0), .val (.long q1), .second] [(.int 4), (.int 2), (.ref o0)])
  refine step (fun t k => iremM X21 hx rfl (hb hby d11_33) rfl (by decide) k) ?_
  show G T21 (mkF m 34 #[.val (.ref o0), .val (.long q1), .second] [(.int ((2 : Int32) % (4 : Int32))), (.ref o0)])
  rw [(by decide : ((2 : Int32) % (4 : Int32)) = (2 : Int32))]
  show G T21 (mkF m 34 #[.val (.ref o0), .val (.long q1), .second] [(.int 2), (.ref o0)])
  have f24 := (Exa.wr W11 f12)
  obtain ⟨T23, h23, X23, e23, W23, st23⟩ := putF X21 hx hZ hown (host := "") (Or.inl (ww66 hw)) Via.refl e21 f17 f24 (Or.inl (ww67 hw)) (ww50 hw) (ty := .int) (by decide) rfl rfl (g := (mkF m 34 #[.val (.ref o0), .val (.long q1), .second] [(.int 2), (.ref o0)])) rfl rfl (hb hby d11_34)
  have F23 : Fld Z h23 o0 cn_0 "head" "I" (.int 2) := Fld.same W23 f17
  have N23 := Fr.snoc X23 N11 geo
  obtain ⟨lc23, X23, N23⟩ := own_gen X23 N23
  have O23 := O11.wr W23 geo
  have K23 : Keep h0 h23 [o0] := K11.wr W23 (Or.inl (List.mem_of_getElem? (i := 0) rfl))
  refine step st23 ?_
  show G T23 (mkF m 37 #[.val (.ref o0), .val (.long q1), .second] [])
  refine step (fun t k => XS.aloadN X23.here hx rfl (hb hby d11_37) rfl rfl k) ?_
  show G T23 (mkF m 38 #[.val (.ref o0), .val (.long q1), .second] [(.ref o0)])
  refine step (fun t k => XS.dup X23.here hx rfl (hb hby d11_38) rfl rfl k) ?_
  show G T23 (mkF m 39 #[.val (.ref o0), .val (.long q1), .second] [(.ref o0), (.ref o0)])
  have f26 := (Fld.other W23 F11 (Or.inr (slot_ne (Or.inl (ww65 hw)) (Or.inl (ww67 hw)) (by decide) (t := .int) (t' := .int) (by decide) (by decide))))
  obtain ⟨T25, X25, e25, st25⟩ := getF X23 hx hZ hown (host := "") (Or.inl (ww64 hw)) Via.refl e23 f26 (g := (mkF m 39 #[.val (.ref o0), .val (.long q1), .second] [(.ref o0), (.ref o0)])) rfl rfl (hb hby d11_39)
  refine step st25 ?_
  show G T25 (mkF m 42 #[.val (.ref o0), .val (.long q1), .second] [(.int 3), (.ref o0)])
  refine step (fun t k => XS.iconst X25.here hx rfl (hb hby d11_42) k) ?_
  show G T25 (mkF m 43 #[.val (.ref o0), .val (.long q1), .second] [(.int 1), (.int 3), (.ref o0)])
  refine step (fun t k => XS.isub X25.here hx rfl (hb hby d11_43) rfl k) ?_
  show G T25 (mkF m 44 #[.val (.ref o0), .val (.long q1), .second] [(.int ((3 : Int32) - (1 : Int32))), (.ref o0)])
  rw [(by decide : ((3 : Int32) - (1 : Int32)) = (2 : Int32))]
  show G T25 (mkF m 44 #[.val (.ref o0), .val (.long q1), .second] [(.int 2), (.ref o0)])
  have f28 := (Exa.wr W23 f24)
  obtain ⟨T27, h27, X27, e27, W27, st27⟩ := putF X25 hx hZ hown (host := "") (Or.inl (ww64 hw)) Via.refl e25 f26 f28 (Or.inl (ww65 hw)) (ww50 hw) (ty := .int) (by decide) rfl rfl (g := (mkF m 44 #[.val (.ref o0), .val (.long q1), .second] [(.int 2), (.ref o0)])) rfl rfl (hb hby d11_44)
  have F27 : Fld Z h27 o0 cn_0 "size" "I" (.int 2) := Fld.same W27 f26
  have N27 := Fr.snoc X27 N23 geo
  obtain ⟨lc27, X27, N27⟩ := own_gen X27 N27
  have O27 := O23.wr W27 geo
  have K27 : Keep h0 h27 [o0] := K23.wr W27 (Or.inl (List.mem_of_getElem? (i := 0) rfl))
  refine step st27 ?_
  show G T27 (mkF m 47 #[.val (.ref o0), .val (.long q1), .second] [])
  refine step (fun t k => XS.goto X27.here hx rfl (pc0 := 47) (pc' := 0) rfl (hb hby d11_47) (by decide) (by decide) k) ?_
  show G T27 (mkF m 0 #[.val (.ref o0), .val (.long q1), .second] [])
  refine step (fun t k => XS.aloadN X27.here hx rfl (hb hby d11_0) rfl rfl k) ?_
  show G T27 (mkF m 1 #[.val (.ref o0), .val (.long q1), .second] [(.ref o0)])
  obtain ⟨T29, X29, e29, st29⟩ := getF X27 hx hZ hown (host := "") (Or.inl (ww64 hw)) Via.refl e27 F27 (g := (mkF m 1 #[.val (.ref o0), .val (.long q1), .second] [(.ref o0)])) rfl rfl (hb hby d11_1)
  refine step st29 ?_
  show G T29 (mkF m 4 #[.val (.ref o0), .val (.long q1), .second] [(.int 2)])
  refine step (fun t k => XS.ifNo X29.here hx rfl (hb hby d11_4) rfl ((if0 _ _).trans (tlt (by decide : (0 : Int32) < (2 : Int32))).2.2.2) k) ?_
  show G T29 (mkF m 7 #[.val (.ref o0), .val (.long q1), .second] [])
  refine step (fun t k => XS.aloadN X29.here hx rfl (hb hby d11_7) rfl rfl k) ?_
  show G T29 (mkF m 8 #[.val (.ref o0), .val (.long q1), .second] [(.ref o0)])
  have f31 := (Fld.other W27 (Fld.other W23 f15 (Or.inr (slot_ne (Or.inl (ww58 hw)) (Or.inl (ww67 hw)) (by decide) (t := (.array .long)) (t' := .int) (by decide) (by decide)))) (Or.inr (slot_ne (Or.inl (ww58 hw)) (Or.inl (ww65 hw)) (by decide) (t := (.array .long)) (t' := .int) (by decide) (by decide))))
  obtain ⟨T30, X30, e30, st30⟩ := getF X29 hx hZ hown (host := "") (Or.inl (ww57 hw)) Via.refl e29 f31 (g := (mkF m 8 #[.val (.ref o0), .val (.long q1), .second] [(.ref o0)])) rfl rfl (hb hby d11_8)
  refine step st30 ?_
  show G T30 (mkF m 11 #[.val (.ref o0), .val (.long q1), .second] [(.ref ar)])
  refine step (fun t k => XS.aloadN X30.here hx rfl (hb hby d11_11) rfl rfl k) ?_
  show G T30 (mkF m 12 #[.val (.ref o0), .val (.long q1), .second] [(.ref o0), (.ref ar)])
  have f33 := (Fld.other W27 F23 (Or.inr (slot_ne (Or.inl (ww67 hw)) (Or.inl (ww65 hw)) (by decide) (t := .int) (t' := .int) (by decide) (by decide))))
  obtain ⟨T32, X32, e32, st32⟩ := getF X30 hx hZ hown (host := "") (Or.inl (ww66 hw)) Via.refl e30 f33 (g := (mkF m 12 #[.val (.ref o0), .val (.long q1), .second] [(.ref o0), (.ref ar)])) rfl rfl (hb hby d11_12)
  refine step st32 ?_
  show G T32 (mkF m 15 #[.val (.ref o0), .val (.long q1), .second] [(.int 2), (.ref ar)])
  have f34 := (Arv.other (Arv.other f18 W23 (Ne.symm ne_o0_ar)) W27 (Ne.symm ne_o0_ar))
  have q35 := own_ldJ X32 hx hZ e32 f34 (j := (2 : Int32)) (v := (.long x2)) (by decide) (own_at (i := 2) rfl rfl) (g := (mkF m 15 #[.val (.ref o0), .val (.long q1), .second] [(.int 2), (.ref ar)])) rfl rfl (hb hby d11_15)
  refine step q35 ?_
  show G T32 (mkF m 16 #[.val (.ref o0), .val (.long q1), .second] [(.long x2)])
  refine step (fun t k => XS.lloadN X32.here hx rfl (hb hby d11_16) rfl k) ?_
  show G T32 (mkF m 17 #[.val (.ref o0), .val (.long q1), .second] [(.long q1), (.long x2)])
  refine step (fun t k => XS.lcmp X32.here hx rfl (hb hby d11_17) rfl k) ?_
  show G T32 (mkF m 18 #[.val (.ref o0), .val (.long q1), .second] [(.int (lcmpW x2 q1))])
  refine step (fun t k => XS.ifYes X32.here hx rfl (pc0 := 18) (pc' := 50) rfl (hb hby d11_18) rfl ((if0 _ _).trans (tlt ((lw_gt _ _).mpr hp2)).2.2.1) (by decide) (by decide) k) ?_
  show G T32 (mkF m 50 #[.val (.ref o0), .val (.long q1), .second] [])
  have f36 := (Exa.wr W27 f28)
  exact ret (v := none) X32 (fun _ => rfl) (fun fs hr => X32.returnOut hx Bd.returns (hb hby d11_50) hr) e32 ⟨rfl, N27, K27, f36, f31, f33, F27⟩ (by decide) (by decide)
abbrev rr_cnt_4_0_4_2 : Room := { frames := 1, cells := 0, slots := 0, locals := 15 }
theorem ef_cnt_4_0_4_2 (m : MethodId) (o0 : Addr) (o1 : Addr) (q2 : Int64) : entryFrame m #[(.ref o0), (.ref o1), (.long q2)] 4 = mkF m 0 #[.val (.ref o0), .val (.ref o1), .val (.long q2), .second] [] := by first | (simp [entryFrame, mkF, argsToLocals, Value.category]; done) | rfl
def Q_cnt_4_0_4_2 (Z : State) (w_0 : Addr) (w_1 : Addr) (w_2 : Addr) (o0 : Addr) (o1 : Addr) (q2 : Int64) (ar : Addr) (ka : ClassId) (x0 : Int64) (x1 : Int64) (x2 : Int64) (x3 : Int64) (mm : Int64) (h0 : Heap) (n0 : Nat) (v : Option Value) (h : Heap) (L : List Loc) : Prop := v = some (.int 2) ∧ Fr n0 L ∧ Keep h0 h [o0] ∧ Exa Z h o0 cn_0 ∧ Fld Z h o0 cn_0 "times" "[J" (.ref ar) ∧ Fld Z h o0 cn_0 "head" "I" (.int 2) ∧ Fld Z h o0 cn_0 "size" "I" (.int 2)
set_option maxRecDepth 65536 in
set_option maxHeartbeats 40000000 in
theorem rm_cnt_4_0_4_2 (l : Launch) (Z : State) (a0 : Array Value) (hw : ∀ d ∈ tables_1, d.before a0 Z = true) (ws : List Jvm.Cond) (w_0 : Addr) (w_1 : Addr) (w_2 : Addr) (o0 : Addr) (o1 : Addr) (q2 : Int64) (ar : Addr) (ka : ClassId) (x0 : Int64) (x1 : Int64) (x2 : Int64) (x3 : Int64) (mm : Int64) (h0 : Heap) (n0 : Nat) (Z0 : n0 ≤ h0.size) (ST : own_St Z w_0 w_1 w_2) (O0 : Old Z n0 h0) (Ex : Exa Z h0 o0 cn_0) (geo : n0 ≤ o0) (Ft : Fld Z h0 o0 cn_0 "times" "[J" (.ref ar)) (gea : n0 ≤ ar) (Fh : Fld Z h0 o0 cn_0 "head" "I" (.int 0)) (Fs : Fld Z h0 o0 cn_0 "size" "I" (.int 4)) (Va : Arv Z h0 ar ka .long (4 : Int32) [(.long x0), (.long x1), (.long x2), (.long x3)] (.long 0)) (Ew : Exa Z h0 o1 cn_1) (Fwt : Fld Z h0 o1 cn_1 "type" cn_4 (.ref w_0)) (Fwm : Fld Z h0 o1 cn_1 "millis" "J" (.long mm)) (hp0 : ¬ ((q2 - mm) < x0)) (hp1 : ¬ ((q2 - mm) < x1)) (hp2 : (q2 - mm) < x2) :
    MetFree l y_13 (head1 (Jvm.Cond.code y_13 prog_2_method_2_code 4 (some .int) :: ws) rr_cnt_4_0_4_2) (fun a U => a = #[(.ref o0), (.ref o1), (.long q2)] ∧ Z.Warmed39 U.vm ∧ U.heap = h0) (fun _ _ _ _ _ => True) (fun _ U o U' => ∃ v L, o = .returned v ∧ Q_cnt_4_0_4_2 Z w_0 w_1 w_2 o0 o1 q2 ar ka x0 x1 x2 x3 mm h0 n0 v U'.heap L ∧ FrameEnd U o U' L rr_cnt_4_0_4_2.cells rr_cnt_4_0_4_2.slots) := by
  refine MetFree.of_bodySF (plainFor_of_name pn_3) hisR ?_
  intro p e s m args below meth c s₁ Bd hml0 hP hK
  obtain ⟨rfl, hZ, hh⟩ := hP
  have hx := Bd.exec
  have hby := Bd.bytes
  have hml : c.maxLocals = 4 := hml0
  have hown : s.vm.findClass cn_0 = some m.cls := findClass_of_methodNamed Bd.named
  have hnm := (name_of_methodNamed Bd.named Bd.method).1
  have X0 : Stand p l e rr_cnt_4_0_4_2 s m #[(.ref o0), (.ref o1), (.long q2)] below meth c s₁ [] 0 0 := Stand.of_body Bd
  have e0 : s₁.heap = h0 := by rw [← hh, Bd.state]; rfl
  have N0 := Fr.nil n0
  have K0 : Keep h0 h0 [o0] := Keep.refl _ _
  obtain ⟨G, step, ret, fin⟩ := own_open (p := p) (l := l) (e := e) (R := rr_cnt_4_0_4_2) (s := s) (m := m) (args := #[(.ref o0), (.ref o1), (.long q2)]) (below := below) (meth := meth) (c := c) (rr_cnt_4_0_4_2.cells) (rr_cnt_4_0_4_2.slots) (Q_cnt_4_0_4_2 Z w_0 w_1 w_2 o0 o1 q2 ar ka x0 x1 x2 x3 mm h0 n0) Bd.notSynchronized
  refine fin (g := entryFrame m #[(.ref o0), (.ref o1), (.long q2)] 4) ?_
  rw [ef_cnt_4_0_4_2 m o0 o1 q2]
  have ne_o0_o1 : o0 ≠ o1 := ne_exa Ex Ew (by decide)
  have ne_o0_ar : o0 ≠ ar := own_ne_arv Ex (ww50 hw) Va
  have ne_o1_ar : o1 ≠ ar := own_ne_arv Ew (ww14 hw) Va
  show G s₁ (mkF m 0 #[.val (.ref o0), .val (.ref o1), .val (.long q2), .second] [])
  obtain ⟨T1, X1, e1, st1⟩ := getS2 X0 hx hZ hown (host := "") (Or.inl (ww75 hw)) Via.refl e0 (Sta.ext O0.2 ST.k6) (g := (mkF m 0 #[.val (.ref o0), .val (.ref o1), .val (.long q2), .second] [])) rfl (hb hby d12_0)
  refine step st1 ?_
  show G T1 (mkF m 3 #[.val (.ref o0), .val (.ref o1), .val (.long q2), .second] [(.ref w_2)])
  refine step (fun t k => XS.aloadN X1.here hx rfl (hb hby d12_3) rfl rfl k) ?_
  show G T1 (mkF m 4 #[.val (.ref o0), .val (.ref o1), .val (.long q2), .second] [(.ref o1), (.ref w_2)])
  have hK2 := (backOf (R := rr_cnt_4_0_4_2) (p := p) (e := e) (below := below) (s := s) (args := #[(.ref o0), (.ref o1), (.long q2)]) (len := 3) (W := 1) (rm_ty l Z a0 hw [] w_0 w_1 w_2 o1 w_0 h0 n0 (own_old_le O0) ST O0 Fwt) hZ (ww82 hw) (ww11 hw) (by decide) (by decide))
  obtain ⟨cq2, kq2, q2a, q2b, q2c⟩ := isOf hZ e1 Ew
  obtain ⟨_, _, ⟨T2, L2, k2, n2⟩, -, X2, ⟨Lc2, hQ2, l2, y2, z2⟩, st2⟩ := X1.virtualBack hx (y := y_5) (z := y_5) hown (mvT hZ (ww78 hw)) (mvT hZ (ww79 hw)) (notFace_of_selects (args := #[]) (mvT hZ (ww81 hw))) (mvT hZ (ww81 hw)) (mvT hZ (ww80 hw)) (by decide) hK2 q2a q2c (g := (mkF m 4 #[.val (.ref o0), .val (.ref o1), .val (.long q2), .second] [(.ref o1), (.ref w_2)])) rfl (by rw [hml]; rfl) (Steps.refl _) (argsL := []) (rest := [(.ref w_2)]) (lenOf pd_6 rfl) rfl (by show 2 * 0 + _ ≤ _; exact Nat.le_of_eq rfl) (hb hby d12_4) (fun _ _ => ⟨rfl, e1, (by decide : 0 + 0 ≤ _), (by decide : 0 + 0 ≤ _)⟩)
  dsimp only [Pt.U, Pt.locs, Pt.cells, Pt.slots] at X2 l2 y2 z2 st2 hQ2
  subst l2 y2 z2
  obtain ⟨rfl, N2q, e2⟩ := hQ2
  have N2 := Fr.app N0 N2q
  obtain ⟨lc2, X2, N2⟩ := own_gen X2 N2
  refine step (fun t k => st2.trans k) ?_
  show G T2 (mkF m 7 #[.val (.ref o0), .val (.ref o1), .val (.long q2), .second] [(.ref (f_ty w_0 w_1 w_2 o1 w_0)), (.ref w_2)])
  have r3 : (f_ty w_0 w_1 w_2 o1 w_0) = w_0 := rfl
  rw [r3]
  show G T2 (mkF m 7 #[.val (.ref o0), .val (.ref o1), .val (.long q2), .second] [(.ref w_0), (.ref w_2)])
  have hK4 := (backOf (R := rr_cnt_4_0_4_2) (p := p) (e := e) (below := below) (s := s) (args := #[(.ref o0), (.ref o1), (.long q2)]) (len := 3) (W := 1) (rm_od l Z a0 hw [] w_0 w_1 w_2 w_0 (0 : Int32) h0 n0 (own_old_le O0) ST O0 (Fld.ext O0.2 ST.k4)) hZ (ww89 hw) (ww88 hw) (by decide) (by decide))
  obtain ⟨cq4, kq4, q4a, q4b, q4c⟩ := isOf hZ e2 (Exa.ext O0.2 ST.k1)
  obtain ⟨_, _, ⟨T4, L4, k4, n4⟩, -, X4, ⟨Lc4, hQ4, l4, y4, z4⟩, st4⟩ := X2.virtualBackUp hx (x := y_12) (y := y_7) (owner := cn_7) hown (mvT hZ (ww83 hw)) (mvT hZ (ww84 hw)) (mvT hZ (ww85 hw)) (by decide) (mvT hZ (ww87 hw)) (mvT hZ (ww86 hw)) hK4 q4a q4c (g := (mkF m 7 #[.val (.ref o0), .val (.ref o1), .val (.long q2), .second] [(.ref w_0), (.ref w_2)])) rfl (by rw [hml]; rfl) (Steps.refl _) (argsL := []) (rest := [(.ref w_2)]) (lenOf pd_7 rfl) rfl (by show 2 * 0 + _ ≤ _; exact Nat.le_of_eq rfl) (hb hby d12_7) (fun _ _ => ⟨rfl, e2, (by decide : 0 + 0 ≤ _), (by decide : 0 + 0 ≤ _)⟩)
  dsimp only [Pt.U, Pt.locs, Pt.cells, Pt.slots] at X4 l4 y4 z4 st4 hQ4
  subst l4 y4 z4
  obtain ⟨rfl, N4q, e4⟩ := hQ4
  have N4 := Fr.app N2 N4q
  obtain ⟨lc4, X4, N4⟩ := own_gen X4 N4
  refine step (fun t k => st4.trans k) ?_
  show G T4 (mkF m 10 #[.val (.ref o0), .val (.ref o1), .val (.long q2), .second] [(.int (f_od w_0 w_1 w_2 w_0 (0 : Int32))), (.ref w_2)])
  have r5 : (f_od w_0 w_1 w_2 w_0 (0 : Int32)) = (0 : Int32) := rfl
  rw [r5]
  show G T4 (mkF m 10 #[.val (.ref o0), .val (.ref o1), .val (.long q2), .second] [(.int 0), (.ref w_2)])
  obtain ⟨kw6, Vw6⟩ := ST.k7
  have q7 := own_ldI X4 hx hZ e4 (Arv.ext Vw6 O0.2) (j := (0 : Int32)) (v := (.int 1)) (by decide) (own_at (i := 0) rfl rfl) (g := (mkF m 10 #[.val (.ref o0), .val (.ref o1), .val (.long q2), .second] [(.int 0), (.ref w_2)])) rfl rfl (hb hby d12_10)
  refine step q7 ?_
  show G T4 (mkF m 11 #[.val (.ref o0), .val (.ref o1), .val (.long q2), .second] [(.int 1)])
  refine step (fun t k => XS.tswIn X4.here hx rfl (pc0 := 11) (pc' := 36) rfl (hb hby d12_11) rfl (by decide) rfl (by decide) (by decide) k) ?_
  show G T4 (mkF m 36 #[.val (.ref o0), .val (.ref o1), .val (.long q2), .second] [])
  refine step (fun t k => XS.aloadN X4.here hx rfl (hb hby d12_36) rfl rfl k) ?_
  show G T4 (mkF m 37 #[.val (.ref o0), .val (.ref o1), .val (.long q2), .second] [(.ref o0)])
  refine step (fun t k => XS.lloadN X4.here hx rfl (hb hby d12_37) rfl k) ?_
  show G T4 (mkF m 38 #[.val (.ref o0), .val (.ref o1), .val (.long q2), .second] [(.long q2), (.ref o0)])
  refine step (fun t k => XS.aloadN X4.here hx rfl (hb hby d12_38) rfl rfl k) ?_
  show G T4 (mkF m 39 #[.val (.ref o0), .val (.ref o1), .val (.long q2), .second] [(.ref o1), (.long q2), (.ref o0)])
  have hK8 := (backOf (R := rr_cnt_4_0_4_2) (p := p) (e := e) (below := below) (s := s) (args := #[(.ref o0), (.ref o1), (.long q2)]) (len := 3) (W := 3) (rm_mi l Z a0 hw [] w_0 w_1 w_2 o1 mm h0 n0 (own_old_le O0) ST O0 Fwm) hZ (ww96 hw) (ww11 hw) (by decide) (by decide))
  obtain ⟨cq8, kq8, q8a, q8b, q8c⟩ := isOf hZ e4 Ew
  obtain ⟨_, _, ⟨T8, L8, k8, n8⟩, -, X8, ⟨Lc8, hQ8, l8, y8, z8⟩, st8⟩ := X4.virtualBack hx (y := y_6) (z := y_6) hown (mvT hZ (ww92 hw)) (mvT hZ (ww93 hw)) (notFace_of_selects (args := #[]) (mvT hZ (ww95 hw))) (mvT hZ (ww95 hw)) (mvT hZ (ww94 hw)) (by decide) hK8 q8a q8c (g := (mkF m 39 #[.val (.ref o0), .val (.ref o1), .val (.long q2), .second] [(.ref o1), (.long q2), (.ref o0)])) rfl (by rw [hml]; rfl) (Steps.refl _) (argsL := []) (rest := [(.long q2), (.ref o0)]) (lenOf pd_8 rfl) rfl (by show 2 * 0 + _ ≤ _; exact Nat.le_of_eq rfl) (hb hby d12_39) (fun _ _ => ⟨rfl, e4, (by decide : 0 + 0 ≤ _), (by decide : 0 + 0 ≤ _)⟩)
  dsimp only [Pt.U, Pt.locs, Pt.cells, Pt.slots] at X8 l8 y8 z8 st8 hQ8
  subst l8 y8 z8
  obtain ⟨rfl, N8q, e8⟩ := hQ8
  have N8 := Fr.app N4 N8q
  obtain ⟨lc8, X8, N8⟩ := own_gen X8 N8
  refine step (fun t k => st8.trans k) ?_
  show G T8 (mkF m 42 #[.val (.ref o0), .val (.ref o1), .val (.long q2), .second] [(.long (f_mi w_0 w_1 w_2 o1 mm)), (.long q2), (.ref o0)])
  have r9 : (f_mi w_0 w_1 w_2 o1 mm) = mm := rfl
  rw [r9]
  show G T8 (mkF m 42 #[.val (.ref o0), .val (.ref o1), .val (.long q2), .second] [(.long mm), (.long q2), (.ref o0)])
  refine step (fun t k => XS.lsub X8.here hx rfl (hb hby d12_42) rfl k) ?_
  show G T8 (mkF m 43 #[.val (.ref o0), .val (.ref o1), .val (.long q2), .second] [(.long (q2 - mm)), (.ref o0)])
  have hK10 := (backOf (R := rr_cnt_4_0_4_2) (p := p) (e := e) (below := below) (s := s) (args := #[(.ref o0), (.ref o1), (.long q2)]) (len := 3) (W := 0) (rm_for_4_0_4_2 l Z a0 hw [] w_0 w_1 w_2 o0 (q2 - mm) ar ka x0 x1 x2 x3 h0 n0 (own_old_le O0) ST O0 Ex geo Ft gea Fh Fs Va (hp0 : ¬ ((q2 - mm) < x0)) (hp1 : ¬ ((q2 - mm) < x1)) (hp2 : (q2 - mm) < x2)) hZ (ww100 hw) (ww51 hw) (by decide) (by decide))
  obtain ⟨cq10, q10, q10'⟩ := (Ex).cell
  obtain ⟨_, _, ⟨T10, L10, k10, n10⟩, -, X10, ⟨Lc10, hQ10, l10, y10, z10⟩, st10⟩ := X8.privateBack hx (y := y_11) hown (mvT hZ (ww97 hw)) (mvT hZ (ww98 hw)) (own_selpriv hZ (ww99 hw) (ww98 hw) (ww50 hw) (by decide)) (Cond.privateMethod_at (mvP hZ (ww99 hw) (args := #[]))) (mvT hZ (ww100 hw)) (by decide) hK10 (g := (mkF m 43 #[.val (.ref o0), .val (.ref o1), .val (.long q2), .second] [(.long (q2 - mm)), (.ref o0)])) rfl (by rw [hml]; rfl) (Steps.refl _) (a := o0) (by rw [e8]; exact q10) q10' (argsL := [(.long (q2 - mm))]) (rest := []) (lenOf pd_5 rfl) rfl (by show 2 * 0 + _ ≤ _; exact Nat.le_of_eq rfl) (hb hby d12_43) (fun _ _ => ⟨rfl, e8, (by decide : 0 + 0 ≤ _), (by decide : 0 + 0 ≤ _)⟩)
  dsimp only [Pt.U, Pt.locs, Pt.cells, Pt.slots] at X10 l10 y10 z10 st10 hQ10
  subst l10 y10 z10
  obtain ⟨rfl, N10q, K10q, Y10_0, Y10_1, Y10_2, Y10_3⟩ := hQ10
  have N10 := Fr.app N8 N10q
  obtain ⟨lc10, X10, N10⟩ := own_gen X10 N10
  have O10 := O0.keep K10q (allS geo all0)
  have K10 : Keep h0 T10.heap [o0] := K0.trans K10q (allS (Or.inl (List.mem_of_getElem? (i := 0) rfl)) all0)
  refine step (fun t k => st10.trans k) ?_
  show G T10 (mkF m 46 #[.val (.ref o0), .val (.ref o1), .val (.long q2), .second] [])
  refine step (fun t k => XS.goto X10.here hx rfl (pc0 := 46) (pc' := 132) rfl (hb hby d12_46) (by decide) (by decide) k) ?_
  show G T10 (mkF m 132 #[.val (.ref o0), .val (.ref o1), .val (.long q2), .second] [])
  refine step (fun t k => XS.aloadN X10.here hx rfl (hb hby d12_132) rfl rfl k) ?_
  show G T10 (mkF m 133 #[.val (.ref o0), .val (.ref o1), .val (.long q2), .second] [(.ref o0)])
  obtain ⟨T11, X11, e11, st11⟩ := getF X10 hx hZ hown (host := "") (Or.inl (ww64 hw)) Via.refl rfl Y10_3 (g := (mkF m 133 #[.val (.ref o0), .val (.ref o1), .val (.long q2), .second] [(.ref o0)])) rfl rfl (hb hby d12_133)
  refine step st11 ?_
  show G T11 (mkF m 136 #[.val (.ref o0), .val (.ref o1), .val (.long q2), .second] [(.int 2)])
  exact ret (v := some (.int 2)) X11 (fun h => by rw [Bd.returns] at h; cases h) (fun fs hr => retI X11 hx Bd.returns (hb hby d12_136) hr) e11 ⟨rfl, N10, K10, Y10_0, Y10_1, Y10_2, Y10_3⟩ (by decide) (by decide)
abbrev rr_addg_4_2 : Room := { frames := 0, cells := 1, slots := 8, locals := 0 }
theorem ef_addg_4_2 (m : MethodId) (o0 : Addr) (q1 : Int64) : entryFrame m #[(.ref o0), (.long q1)] 5 = mkF m 0 #[.val (.ref o0), .val (.long q1), .second, .unset, .unset] [] := by first | (simp [entryFrame, mkF, argsToLocals, Value.category]; done) | rfl
def Q_addg_4_2 (Z : State) (w_0 : Addr) (w_1 : Addr) (w_2 : Addr) (o0 : Addr) (q1 : Int64) (ar : Addr) (ka : ClassId) (x0 : Int64) (x1 : Int64) (x2 : Int64) (x3 : Int64) (h0 : Heap) (n0 : Nat) (v : Option Value) (h : Heap) (L : List Loc) : Prop := ∃ b : Addr, ∃ kb : ClassId, v = none ∧ Fr n0 L ∧ Keep h0 h [o0] ∧ h0.size ≤ b ∧ Exa Z h o0 cn_0 ∧ Fld Z h o0 cn_0 "times" "[J" (.ref b) ∧ Fld Z h o0 cn_0 "head" "I" (.int 0) ∧ Fld Z h o0 cn_0 "size" "I" (.int 5) ∧ Arv Z h b kb .long (8 : Int32) [(.long x2), (.long x3), (.long x0), (.long x1), (.long q1), (.long 0), (.long 0), (.long 0)] (.long 0)
set_option maxRecDepth 65536 in
set_option maxHeartbeats 40000000 in
theorem rm_addg_4_2 (l : Launch) (Z : State) (a0 : Array Value) (hw : ∀ d ∈ tables_1, d.before a0 Z = true) (ws : List Jvm.Cond) (w_0 : Addr) (w_1 : Addr) (w_2 : Addr) (o0 : Addr) (q1 : Int64) (ar : Addr) (ka : ClassId) (x0 : Int64) (x1 : Int64) (x2 : Int64) (x3 : Int64) (h0 : Heap) (n0 : Nat) (Z0 : n0 ≤ h0.size) (ST : own_St Z w_0 w_1 w_2) (O0 : Old Z n0 h0) (Ex : Exa Z h0 o0 cn_0) (geo : n0 ≤ o0) (Ft : Fld Z h0 o0 cn_0 "times" "[J" (.ref ar)) (gea : n0 ≤ ar) (Fh : Fld Z h0 o0 cn_0 "head" "I" (.int 2)) (Fs : Fld Z h0 o0 cn_0 "size" "I" (.int 4)) (Va : Arv Z h0 ar ka .long (4 : Int32) [(.long x0), (.long x1), (.long x2), (.long x3)] (.long 0)) :
    MetFree l y_10 (head1 (Jvm.Cond.code y_10 prog_2_method_4_code 5 none :: ws) rr_addg_4_2) (fun a U => a = #[(.ref o0), (.long q1)] ∧ Z.Warmed39 U.vm ∧ U.heap = h0) (fun _ _ _ _ _ => True) (fun _ U o U' => ∃ v L, o = .returned v ∧ Q_addg_4_2 Z w_0 w_1 w_2 o0 q1 ar ka x0 x1 x2 x3 h0 n0 v U'.heap L ∧ FrameEnd U o U' L rr_addg_4_2.cells rr_addg_4_2.slots) := by
  refine MetFree.of_bodySF (plainFor_of_name pn_3) hisR ?_
  intro p e s m args below meth c s₁ Bd hml0 hP hK
  obtain ⟨rfl, hZ, hh⟩ := hP
  have hx := Bd.exec
  have hby := Bd.bytes
  have hml : c.maxLocals = 5 := hml0
  have hown : s.vm.findClass cn_0 = some m.cls := findClass_of_methodNamed Bd.named
  have hnm := (name_of_methodNamed Bd.named Bd.method).1
  have X0 : Stand p l e rr_addg_4_2 s m #[(.ref o0), (.long q1)] below meth c s₁ [] 0 0 := Stand.of_body Bd
  have e0 : s₁.heap = h0 := by rw [← hh, Bd.state]; rfl
  have N0 := Fr.nil n0
  have K0 : Keep h0 h0 [o0] := Keep.refl _ _
  obtain ⟨G, step, ret, fin⟩ := own_open (p := p) (l := l) (e := e) (R := rr_addg_4_2) (s := s) (m := m) (args := #[(.ref o0), (.long q1)]) (below := below) (meth := meth) (c := c) (rr_addg_4_2.cells) (rr_addg_4_2.slots) (Q_addg_4_2 Z w_0 w_1 w_2 o0 q1 ar ka x0 x1 x2 x3 h0 n0) Bd.notSynchronized
  refine fin (g := entryFrame m #[(.ref o0), (.long q1)] 5) ?_
  rw [ef_addg_4_2 m o0 q1]
  have ne_o0_ar : o0 ≠ ar := own_ne_arv Ex (ww50 hw) Va
  show G s₁ (mkF m 0 #[.val (.ref o0), .val (.long q1), .second, .unset, .unset] [])
  refine step (fun t k => XS.aloadN X0.here hx rfl (hb hby d10_0) rfl rfl k) ?_
  show G s₁ (mkF m 1 #[.val (.ref o0), .val (.long q1), .second, .unset, .unset] [(.ref o0)])
  obtain ⟨T1, X1, e1, st1⟩ := getF X0 hx hZ hown (host := "") (Or.inl (ww64 hw)) Via.refl e0 Fs (g := (mkF m 1 #[.val (.ref o0), .val (.long q1), .second, .unset, .unset] [(.ref o0)])) rfl rfl (hb hby d10_1)
  refine step st1 ?_
  show G T1 (mkF m 4 #[.val (.ref o0), .val (.long q1), .second, .unset, .unset] [(.int 4)])
  refine step (fun t k => XS.aloadN X1.here hx rfl (hb hby d10_4) rfl rfl k) ?_
  show G T1 (mkF m 5 #[.val (.ref o0), .val (.long q1), .second, .unset, .unset] [(.ref o0), (.int 4)])
  obtain ⟨T2, X2, e2, st2⟩ := getF X1 hx hZ hown (host := "") (Or.inl (ww57 hw)) Via.refl e1 Ft (g := (mkF m 5 #[.val (.ref o0), .val (.long q1), .second, .unset, .unset] [(.ref o0), (.int 4)])) rfl rfl (hb hby d10_5)
  refine step st2 ?_
  show G T2 (mkF m 8 #[.val (.ref o0), .val (.long q1), .second, .unset, .unset] [(.ref ar), (.int 4)])
  have q3 := own_len X2 hx hZ e2 Va (g := (mkF m 8 #[.val (.ref o0), .val (.long q1), .second, .unset, .unset] [(.ref ar), (.int 4)])) rfl rfl (hb hby d10_8)
  refine step q3 ?_
  show G T2 (mkF m 9 #[.val (.ref o0), .val (.long q1), .second, .unset, .unset] [(.int 4), (.int 4)])
  refine step (fun t k => XS.icmpNo X2.here hx rfl (hb hby d10_9) rfl (teq (by decide : (4 : Int32) = (4 : Int32))).2 k) ?_
  show G T2 (mkF m 12 #[.val (.ref o0), .val (.long q1), .second, .unset, .unset] [])
  refine step (fun t k => XS.aloadN X2.here hx rfl (hb hby d10_12) rfl rfl k) ?_
  show G T2 (mkF m 13 #[.val (.ref o0), .val (.long q1), .second, .unset, .unset] [(.ref o0)])
  obtain ⟨T4, X4, e4, st4⟩ := getF X2 hx hZ hown (host := "") (Or.inl (ww57 hw)) Via.refl e2 Ft (g := (mkF m 13 #[.val (.ref o0), .val (.long q1), .second, .unset, .unset] [(.ref o0)])) rfl rfl (hb hby d10_13)
  refine step st4 ?_
  show G T4 (mkF m 16 #[.val (.ref o0), .val (.long q1), .second, .unset, .unset] [(.ref ar)])
  have q5 := own_len X4 hx hZ e4 Va (g := (mkF m 16 #[.val (.ref o0), .val (.long q1), .second, .unset, .unset] [(.ref ar)])) rfl rfl (hb hby d10_16)
  refine step q5 ?_
  show G T4 (mkF m 17 #[.val (.ref o0), .val (.long q1), .second, .unset, .unset] [(.int 4)])
  refine step (fun t k => XS.iconst X4.here hx rfl (hb hby d10_17) k) ?_
  show G T4 (mkF m 18 #[.val (.ref o0), .val (.long q1), .second, .unset, .unset] [(.int 2), (.int 4)])
  refine step (fun t k => XS.imul X4.here hx rfl (hb hby d10_18) rfl k) ?_
  show G T4 (mkF m 19 #[.val (.ref o0), .val (.long q1), .second, .unset, .unset] [(.int ((4 : Int32) * (2 : Int32)))])
  rw [(by decide : ((4 : Int32) * (2 : Int32)) = (8 : Int32))]
  show G T4 (mkF m 19 #[.val (.ref o0), .val (.long q1), .second, .unset, .unset] [(.int 8)])
  obtain ⟨T6, h6, k6, X6, e6, E6, A6, B6, st6⟩ := newPE (aty := .long) X4 hx hZ (ww56 hw) e4 (g := (mkF m 19 #[.val (.ref o0), .val (.long q1), .second, .unset, .unset] [(.int 8)])) rfl (hb hby d10_19) rfl (by decide) (cap := 8) (by decide) (by decide) (by decide) (by decide) (ad := "[J") (by decide)
  obtain ⟨b6, g6⟩ : ∃ z, z = h0.size := ⟨_, rfl⟩
  rw [← g6] at A6 B6 st6
  have V6 : Arv Z h6 b6 k6 .long (8 : Int32) [(.long 0), (.long 0), (.long 0), (.long 0), (.long 0), (.long 0), (.long 0), (.long 0)] (.long 0) := (Arv.new A6 (by decide)).pad (pad_rep [] (.long 0) 8)
  have ge_b6 : n0 ≤ b6 := Nat.le_trans (own_old_le O0) (Nat.le_of_eq g6.symm)
  have sz_b6 : h0.size ≤ b6 := Nat.le_trans K0.1 (Nat.le_of_eq g6.symm)
  have lt_ar_b6 : ar < b6 := Nat.lt_of_lt_of_le Va.lt (Nat.le_of_eq g6.symm)
  have lt_o0_b6 : o0 < b6 := Nat.lt_of_lt_of_le Ex.lt (Nat.le_of_eq g6.symm)
  have O6 := O0.ext E6
  have K6 : Keep h0 h6 [o0] := K0.ext E6
  refine step st6 ?_
  show G T6 (mkF m 21 #[.val (.ref o0), .val (.long q1), .second, .unset, .unset] [(.ref b6)])
  refine step (fun t k => XS.astoreN X6.here hx rfl (hb hby d10_21) rfl rfl (l' := #[.val (.ref o0), .val (.long q1), .second, .val (.ref b6), .unset]) rfl k) ?_
  show G T6 (mkF m 22 #[.val (.ref o0), .val (.long q1), .second, .val (.ref b6), .unset] [])
  refine step (fun t k => XS.iconst X6.here hx rfl (hb hby d10_22) k) ?_
  show G T6 (mkF m 23 #[.val (.ref o0), .val (.long q1), .second, .val (.ref b6), .unset] [(.int 0)])
  refine step (fun t k => XS.istore X6.here hx rfl (hb hby d10_23) rfl (l' := #[.val (.ref o0), .val (.long q1), .second, .val (.ref b6), .val (.int 0)]) rfl k) ?_
  show G T6 (mkF m 25 #[.val (.ref o0), .val (.long q1), .second, .val (.ref b6), .val (.int 0)] [])
  refine step (fun t k => XS.iload X6.here hx rfl (hb hby d10_25) rfl k) ?_
  show G T6 (mkF m 27 #[.val (.ref o0), .val (.long q1), .second, .val (.ref b6), .val (.int 0)] [(.int 0)])
  refine step (fun t k => XS.aloadN X6.here hx rfl (hb hby d10_27) rfl rfl k) ?_
  show G T6 (mkF m 28 #[.val (.ref o0), .val (.long q1), .second, .val (.ref b6), .val (.int 0)] [(.ref o0), (.int 0)])
  have f8 := (Fld.ext E6 Fs)
  obtain ⟨T7, X7, e7, st7⟩ := getF X6 hx hZ hown (host := "") (Or.inl (ww64 hw)) Via.refl e6 f8 (g := (mkF m 28 #[.val (.ref o0), .val (.long q1), .second, .val (.ref b6), .val (.int 0)] [(.ref o0), (.int 0)])) rfl rfl (hb hby d10_28)
  refine step st7 ?_
  show G T7 (mkF m 31 #[.val (.ref o0), .val (.long q1), .second, .val (.ref b6), .val (.int 0)] [(.int 4), (.int 0)])
  refine step (fun t k => XS.icmpNo X7.here hx rfl (hb hby d10_31) rfl (tlt (by decide : (0 : Int32) < (4 : Int32))).2.1 k) ?_
  show G T7 (mkF m 34 #[.val (.ref o0), .val (.long q1), .second, .val (.ref b6), .val (.int 0)] [])
  refine step (fun t k => XS.aloadN X7.here hx rfl (hb hby d10_34) rfl rfl k) ?_
  show G T7 (mkF m 35 #[.val (.ref o0), .val (.long q1), .second, .val (.ref b6), .val (.int 0)] [(.ref b6)])
  refine step (fun t k => XS.iload X7.here hx rfl (hb hby d10_35) rfl k) ?_
  show G T7 (mkF m 37 #[.val (.ref o0), .val (.long q1), .second, .val (.ref b6), .val (.int 0)] [(.int 0), (.ref b6)])
  refine step (fun t k => XS.aloadN X7.here hx rfl (hb hby d10_37) rfl rfl k) ?_
  show G T7 (mkF m 38 #[.val (.ref o0), .val (.long q1), .second, .val (.ref b6), .val (.int 0)] [(.ref o0), (.int 0), (.ref b6)])
  have f10 := (Fld.ext E6 Ft)
  obtain ⟨T9, X9, e9, st9⟩ := getF X7 hx hZ hown (host := "") (Or.inl (ww57 hw)) Via.refl e7 f10 (g := (mkF m 38 #[.val (.ref o0), .val (.long q1), .second, .val (.ref b6), .val (.int 0)] [(.ref o0), (.int 0), (.ref b6)])) rfl rfl (hb hby d10_38)
  refine step st9 ?_
  show G T9 (mkF m 41 #[.val (.ref o0), .val (.long q1), .second, .val (.ref b6), .val (.int 0)] [(.ref ar), (.int 0), (.ref b6)])
  refine step (fun t k => XS.aloadN X9.here hx rfl (hb hby d10_41) rfl rfl k) ?_
  show G T9 (mkF m 42 #[.val (.ref o0), .val (.long q1), .second, .val (.ref b6), .val (.int 0)] [(.ref o0), (.ref ar), (.int 0), (.ref b6)])
  have f12 := (Fld.ext E6 Fh)
  obtain ⟨T11, X11, e11, st11⟩ := getF X9 hx hZ hown (host := "") (Or.inl (ww66 hw)) Via.refl e9 f12 (g := (mkF m 42 #[.val (.ref o0), .val (.long q1), .second, .val (.ref b6), .val (.int 0)] [(.ref o0), (.ref ar), (.int 0), (.ref b6)])) rfl rfl (hb hby d10_42)
  refine step st11 ?_
  show G T11 (mkF m 45 #[.val (.ref o0), .val (.long q1), .second, .val (.ref b6), .val (.int 0)] [(.int 2), (.ref ar), (.int 0), (.ref b6)])
  refine step (fun t k => XS.iload X11.here hx rfl (hb hby d10_45) rfl k) ?_
  show G T11 (mkF m 47 #[.val (.ref o0), .val (.long q1), .second, .val (.ref b6), .val (.int 0)] [(.int 0), (.int 2), (.ref ar), (.int 0), (.ref b6)])
  refine step (fun t k => XS.iadd X11.here hx rfl (hb hby d10_47) rfl k) ?_
  show G T11 (mkF m 48 #[.val (.ref o0), .val (.long q1), .second, .val (.ref b6), .val (.int 0)] [(.int ((2 : Int32) + (0 : Int32))), (.ref ar), (.int 0), (.ref b6)])
  rw [(by decide : ((2 : Int32) + (0 : Int32)) = (2 : Int32))]
  show G T11 (mkF m 48 #[.val (.ref o0), .val (.long q1), .second, .val (.ref b6), .val (.int 0)] [(.int 2), (.ref ar), (.int 0), (.ref b6)])
  refine step (fun t k => XS.aloadN X11.here hx rfl (hb hby d10_48) rfl rfl k) ?_
  show G T11 (mkF m 49 #[.val (.ref o0), .val (.long q1), .second, .val (.ref b6), .val (.int 0)] [(.ref o0), (.int 2), (.ref ar), (.int 0), (.ref b6)])
  obtain ⟨T13, X13, e13, st13⟩ := getF X11 hx hZ hown (host := "") (Or.inl (ww57 hw)) Via.refl e11 f10 (g := (mkF m 49 #[.val (.ref o0), .val (.long q1), .second, .val (.ref b6), .val (.int 0)] [(.ref o0), (.int 2), (.ref ar), (.int 0), (.ref b6)])) rfl rfl (hb hby d10_49)
  refine step st13 ?_
  show G T13 (mkF m 52 #[.val (.ref o0), .val (.long q1), .second, .val (.ref b6), .val (.int 0)] [(.ref ar), (.int 2), (.ref ar), (.int 0), (.ref b6)])
  have f14 := (Va.ext E6)
  have q15 := own_len X13 hx hZ e13 f14 (g := (mkF m 52 #[.val (.ref o0), .val (.long q1), .second, .val (.ref b6), .val (.int 0)] [(.ref ar), (.int 2), (.ref ar), (.int 0), (.ref b6)])) rfl rfl (hb hby d10_52)
  refine step q15 ?_
  show G T13 (mkF m 53 #[.val (.ref o0), .val (.long q1), .second, .val (.ref b6), .val (.int 0)] [(.int 4), (.int 2), (.ref ar), (.int 0), (.ref b6)])
  refine step (fun t k => iremM X13 hx rfl (hb hby d10_53) rfl (by decide) k) ?_
  show G T13 (mkF m 54 #[.val (.ref o0), .val (.long q1), .second, .val (.ref b6), .val (.int 0)] [(.int ((2 : Int32) % (4 : Int32))), (.ref ar), (.int 0), (.ref b6)])
  rw [(by decide : ((2 : Int32) % (4 : Int32)) = (2 : Int32))]
  show G T13 (mkF m 54 #[.val (.ref o0), .val (.long q1), .second, .val (.ref b6), .val (.int 0)] [(.int 2), (.ref ar), (.int 0), (.ref b6)])
  have q16 := own_ldJ X13 hx hZ e13 f14 (j := (2 : Int32)) (v := (.long x2)) (by decide) (own_at (i := 2) rfl rfl) (g := (mkF m 54 #[.val (.ref o0), .val (.long q1), .second, .val (.ref b6), .val (.int 0)] [(.int 2), (.ref ar), (.int 0), (.ref b6)])) rfl rfl (hb hby d10_54)
  refine step q16 ?_
  show G T13 (mkF m 55 #[.val (.ref o0), .val (.long q1), .second, .val (.ref b6), .val (.int 0)] [(.long x2), (.int 0), (.ref b6)])
  obtain ⟨T17, h17, X17, e17, W17, V17, st17⟩ := own_stJ X13 hx hZ e13 V6 (j := (0 : Int32)) (by decide) (i := 0) rfl (by show 0 < 8; decide) (g := (mkF m 55 #[.val (.ref o0), .val (.long q1), .second, .val (.ref b6), .val (.int 0)] [(.long x2), (.int 0), (.ref b6)])) rfl rfl (hb hby d10_55)
  replace V17 : Arv Z h17 b6 k6 .long (8 : Int32) [(.long x2), (.long 0), (.long 0), (.long 0), (.long 0), (.long 0), (.long 0), (.long 0)] (.long 0) := V17
  have N17 := Fr.snoc X17 N0 ge_b6
  obtain ⟨lc17, X17, N17⟩ := own_gen X17 N17
  have O17 := O6.wr W17 ge_b6
  have K17 : Keep h0 h17 [o0] := K6.wr W17 (Or.inr sz_b6)
  refine step st17 ?_
  show G T17 (mkF m 56 #[.val (.ref o0), .val (.long q1), .second, .val (.ref b6), .val (.int 0)] [])
  refine step (fun t k => XS.iinc X17.here hx rfl (hb hby d10_56) rfl (l' := #[.val (.ref o0), .val (.long q1), .second, .val (.ref b6), .val (.int ((0 : Int32) + (1 : Int32)))]) rfl k) ?_
  show G T17 (mkF m 59 #[.val (.ref o0), .val (.long q1), .second, .val (.ref b6), .val (.int ((0 : Int32) + (1 : Int32)))] [])
  rw [(by decide : ((0 : Int32) + (1 : Int32)) = (1 : Int32))]
  show G T17 (mkF m 59 #[.val (.ref o0), .val (.long q1), .second, .val (.ref b6), .val (.int 1)] [])
  refine step (fun t k => XS.goto X17.here hx rfl (pc0 := 59) (pc' := 25) rfl (hb hby d10_59) (by decide) (by decide) k) ?_
  show G T17 (mkF m 25 #[.val (.ref o0), .val (.long q1), .second, .val (.ref b6), .val (.int 1)] [])
  refine step (fun t k => XS.iload X17.here hx rfl (hb hby d10_25) rfl k) ?_
  show G T17 (mkF m 27 #[.val (.ref o0), .val (.long q1), .second, .val (.ref b6), .val (.int 1)] [(.int 1)])
  refine step (fun t k => XS.aloadN X17.here hx rfl (hb hby d10_27) rfl rfl k) ?_
  show G T17 (mkF m 28 #[.val (.ref o0), .val (.long q1), .second, .val (.ref b6), .val (.int 1)] [(.ref o0), (.int 1)])
  have f19 := (Fld.other W17 f8 (Or.inl (Nat.ne_of_lt lt_o0_b6)))
  obtain ⟨T18, X18, e18, st18⟩ := getF X17 hx hZ hown (host := "") (Or.inl (ww64 hw)) Via.refl e17 f19 (g := (mkF m 28 #[.val (.ref o0), .val (.long q1), .second, .val (.ref b6), .val (.int 1)] [(.ref o0), (.int 1)])) rfl rfl (hb hby d10_28)
  refine step st18 ?_
  show G T18 (mkF m 31 #[.val (.ref o0), .val (.long q1), .second, .val (.ref b6), .val (.int 1)] [(.int 4), (.int 1)])
  refine step (fun t k => XS.icmpNo X18.here hx rfl (hb hby d10_31) rfl (tlt (by decide : (1 : Int32) < (4 : Int32))).2.1 k) ?_
  show G T18 (mkF m 34 #[.val (.ref o0), .val (.long q1), .second, .val (.ref b6), .val (.int 1)] [])
  refine step (fun t k => XS.aloadN X18.here hx rfl (hb hby d10_34) rfl rfl k) ?_
  show G T18 (mkF m 35 #[.val (.ref o0), .val (.long q1), .second, .val (.ref b6), .val (.int 1)] [(.ref b6)])
  refine step (fun t k => XS.iload X18.here hx rfl (hb hby d10_35) rfl k) ?_
  show G T18 (mkF m 37 #[.val (.ref o0), .val (.long q1), .second, .val (.ref b6), .val (.int 1)] [(.int 1), (.ref b6)])
  refine step (fun t k => XS.aloadN X18.here hx rfl (hb hby d10_37) rfl rfl k) ?_
  show G T18 (mkF m 38 #[.val (.ref o0), .val (.long q1), .second, .val (.ref b6), .val (.int 1)] [(.ref o0), (.int 1), (.ref b6)])
  have f21 := (Fld.other W17 f10 (Or.inl (Nat.ne_of_lt lt_o0_b6)))
  obtain ⟨T20, X20, e20, st20⟩ := getF X18 hx hZ hown (host := "") (Or.inl (ww57 hw)) Via.refl e18 f21 (g := (mkF m 38 #[.val (.ref o0), .val (.long q1), .second, .val (.ref b6), .val (.int 1)] [(.ref o0), (.int 1), (.ref b6)])) rfl rfl (hb hby d10_38)
  refine step st20 ?_
  show G T20 (mkF m 41 #[.val (.ref o0), .val (.long q1), .second, .val (.ref b6), .val (.int 1)] [(.ref ar), (.int 1), (.ref b6)])
  refine step (fun t k => XS.aloadN X20.here hx rfl (hb hby d10_41) rfl rfl k) ?_
  show G T20 (mkF m 42 #[.val (.ref o0), .val (.long q1), .second, .val (.ref b6), .val (.int 1)] [(.ref o0), (.ref ar), (.int 1), (.ref b6)])
  have f23 := (Fld.other W17 f12 (Or.inl (Nat.ne_of_lt lt_o0_b6)))
  obtain ⟨T22, X22, e22, st22⟩ := getF X20 hx hZ hown (host := "") (Or.inl (ww66 hw)) Via.refl e20 f23 (g := (mkF m 42 #[.val (.ref o0), .val (.long q1), .second, .val (.ref b6), .val (.int 1)] [(.ref o0), (.ref ar), (.int 1), (.ref b6)])) rfl rfl (hb hby d10_42)
  refine step st22 ?_
  show G T22 (mkF m 45 #[.val (.ref o0), .val (.long q1), .second, .val (.ref b6), .val (.int 1)] [(.int 2), (.ref ar), (.int 1), (.ref b6)])
  refine step (fun t k => XS.iload X22.here hx rfl (hb hby d10_45) rfl k) ?_
  show G T22 (mkF m 47 #[.val (.ref o0), .val (.long q1), .second, .val (.ref b6), .val (.int 1)] [(.int 1), (.int 2), (.ref ar), (.int 1), (.ref b6)])
  refine step (fun t k => XS.iadd X22.here hx rfl (hb hby d10_47) rfl k) ?_
  show G T22 (mkF m 48 #[.val (.ref o0), .val (.long q1), .second, .val (.ref b6), .val (.int 1)] [(.int ((2 : Int32) + (1 : Int32))), (.ref ar), (.int 1), (.ref b6)])
  rw [(by decide : ((2 : Int32) + (1 : Int32)) = (3 : Int32))]
  show G T22 (mkF m 48 #[.val (.ref o0), .val (.long q1), .second, .val (.ref b6), .val (.int 1)] [(.int 3), (.ref ar), (.int 1), (.ref b6)])
  refine step (fun t k => XS.aloadN X22.here hx rfl (hb hby d10_48) rfl rfl k) ?_
  show G T22 (mkF m 49 #[.val (.ref o0), .val (.long q1), .second, .val (.ref b6), .val (.int 1)] [(.ref o0), (.int 3), (.ref ar), (.int 1), (.ref b6)])
  obtain ⟨T24, X24, e24, st24⟩ := getF X22 hx hZ hown (host := "") (Or.inl (ww57 hw)) Via.refl e22 f21 (g := (mkF m 49 #[.val (.ref o0), .val (.long q1), .second, .val (.ref b6), .val (.int 1)] [(.ref o0), (.int 3), (.ref ar), (.int 1), (.ref b6)])) rfl rfl (hb hby d10_49)
  refine step st24 ?_
  show G T24 (mkF m 52 #[.val (.ref o0), .val (.long q1), .second, .val (.ref b6), .val (.int 1)] [(.ref ar), (.int 3), (.ref ar), (.int 1), (.ref b6)])
  have f25 := (Arv.other f14 W17 (Nat.ne_of_lt lt_ar_b6))
  have q26 := own_len X24 hx hZ e24 f25 (g := (mkF m 52 #[.val (.ref o0), .val (.long q1), .second, .val (.ref b6), .val (.int 1)] [(.ref ar), (.int 3), (.ref ar), (.int 1), (.ref b6)])) rfl rfl (hb hby d10_52)
  refine step q26 ?_
  show G T24 (mkF m 53 #[.val (.ref o0), .val (.long q1), .second, .val (.ref b6), .val (.int 1)] [(.int 4), (.int 3), (.ref ar), (.int 1), (.ref b6)])
  refine step (fun t k => iremM X24 hx rfl (hb hby d10_53) rfl (by decide) k) ?_
  show G T24 (mkF m 54 #[.val (.ref o0), .val (.long q1), .second, .val (.ref b6), .val (.int 1)] [(.int ((3 : Int32) % (4 : Int32))), (.ref ar), (.int 1), (.ref b6)])
  rw [(by decide : ((3 : Int32) % (4 : Int32)) = (3 : Int32))]
  show G T24 (mkF m 54 #[.val (.ref o0), .val (.long q1), .second, .val (.ref b6), .val (.int 1)] [(.int 3), (.ref ar), (.int 1), (.ref b6)])
  have q27 := own_ldJ X24 hx hZ e24 f25 (j := (3 : Int32)) (v := (.long x3)) (by decide) (own_at (i := 3) rfl rfl) (g := (mkF m 54 #[.val (.ref o0), .val (.long q1), .second, .val (.ref b6), .val (.int 1)] [(.int 3), (.ref ar), (.int 1), (.ref b6)])) rfl rfl (hb hby d10_54)
  refine step q27 ?_
  show G T24 (mkF m 55 #[.val (.ref o0), .val (.long q1), .second, .val (.ref b6), .val (.int 1)] [(.long x3), (.int 1), (.ref b6)])
  obtain ⟨T28, h28, X28, e28, W28, V28, st28⟩ := own_stJ X24 hx hZ e24 V17 (j := (1 : Int32)) (by decide) (i := 1) rfl (by show 1 < 8; decide) (g := (mkF m 55 #[.val (.ref o0), .val (.long q1), .second, .val (.ref b6), .val (.int 1)] [(.long x3), (.int 1), (.ref b6)])) rfl rfl (hb hby d10_55)
  replace V28 : Arv Z h28 b6 k6 .long (8 : Int32) [(.long x2), (.long x3), (.long 0), (.long 0), (.long 0), (.long 0), (.long 0), (.long 0)] (.long 0) := V28
  have N28 := Fr.snoc X28 N17 ge_b6
  obtain ⟨lc28, X28, N28⟩ := own_gen X28 N28
  have O28 := O17.wr W28 ge_b6
  have K28 : Keep h0 h28 [o0] := K17.wr W28 (Or.inr sz_b6)
  refine step st28 ?_
  show G T28 (mkF m 56 #[.val (.ref o0), .val (.long q1), .second, .val (.ref b6), .val (.int 1)] [])
  refine step (fun t k => XS.iinc X28.here hx rfl (hb hby d10_56) rfl (l' := #[.val (.ref o0), .val (.long q1), .second, .val (.ref b6), .val (.int ((1 : Int32) + (1 : Int32)))]) rfl k) ?_
  show G T28 (mkF m 59 #[.val (.ref o0), .val (.long q1), .second, .val (.ref b6), .val (.int ((1 : Int32) + (1 : Int32)))] [])
  rw [(by decide : ((1 : Int32) + (1 : Int32)) = (2 : Int32))]
  show G T28 (mkF m 59 #[.val (.ref o0), .val (.long q1), .second, .val (.ref b6), .val (.int 2)] [])
  refine step (fun t k => XS.goto X28.here hx rfl (pc0 := 59) (pc' := 25) rfl (hb hby d10_59) (by decide) (by decide) k) ?_
  show G T28 (mkF m 25 #[.val (.ref o0), .val (.long q1), .second, .val (.ref b6), .val (.int 2)] [])
  refine step (fun t k => XS.iload X28.here hx rfl (hb hby d10_25) rfl k) ?_
  show G T28 (mkF m 27 #[.val (.ref o0), .val (.long q1), .second, .val (.ref b6), .val (.int 2)] [(.int 2)])
  refine step (fun t k => XS.aloadN X28.here hx rfl (hb hby d10_27) rfl rfl k) ?_
  show G T28 (mkF m 28 #[.val (.ref o0), .val (.long q1), .second, .val (.ref b6), .val (.int 2)] [(.ref o0), (.int 2)])
  have f30 := (Fld.other W28 f19 (Or.inl (Nat.ne_of_lt lt_o0_b6)))
  obtain ⟨T29, X29, e29, st29⟩ := getF X28 hx hZ hown (host := "") (Or.inl (ww64 hw)) Via.refl e28 f30 (g := (mkF m 28 #[.val (.ref o0), .val (.long q1), .second, .val (.ref b6), .val (.int 2)] [(.ref o0), (.int 2)])) rfl rfl (hb hby d10_28)
  refine step st29 ?_
  show G T29 (mkF m 31 #[.val (.ref o0), .val (.long q1), .second, .val (.ref b6), .val (.int 2)] [(.int 4), (.int 2)])
  refine step (fun t k => XS.icmpNo X29.here hx rfl (hb hby d10_31) rfl (tlt (by decide : (2 : Int32) < (4 : Int32))).2.1 k) ?_
  show G T29 (mkF m 34 #[.val (.ref o0), .val (.long q1), .second, .val (.ref b6), .val (.int 2)] [])
  refine step (fun t k => XS.aloadN X29.here hx rfl (hb hby d10_34) rfl rfl k) ?_
  show G T29 (mkF m 35 #[.val (.ref o0), .val (.long q1), .second, .val (.ref b6), .val (.int 2)] [(.ref b6)])
  refine step (fun t k => XS.iload X29.here hx rfl (hb hby d10_35) rfl k) ?_
  show G T29 (mkF m 37 #[.val (.ref o0), .val (.long q1), .second, .val (.ref b6), .val (.int 2)] [(.int 2), (.ref b6)])
  refine step (fun t k => XS.aloadN X29.here hx rfl (hb hby d10_37) rfl rfl k) ?_
  show G T29 (mkF m 38 #[.val (.ref o0), .val (.long q1), .second, .val (.ref b6), .val (.int 2)] [(.ref o0), (.int 2), (.ref b6)])
  have f32 := (Fld.other W28 f21 (Or.inl (Nat.ne_of_lt lt_o0_b6)))
  obtain ⟨T31, X31, e31, st31⟩ := getF X29 hx hZ hown (host := "") (Or.inl (ww57 hw)) Via.refl e29 f32 (g := (mkF m 38 #[.val (.ref o0), .val (.long q1), .second, .val (.ref b6), .val (.int 2)] [(.ref o0), (.int 2), (.ref b6)])) rfl rfl (hb hby d10_38)
  refine step st31 ?_
  show G T31 (mkF m 41 #[.val (.ref o0), .val (.long q1), .second, .val (.ref b6), .val (.int 2)] [(.ref ar), (.int 2), (.ref b6)])
  refine step (fun t k => XS.aloadN X31.here hx rfl (hb hby d10_41) rfl rfl k) ?_
  show G T31 (mkF m 42 #[.val (.ref o0), .val (.long q1), .second, .val (.ref b6), .val (.int 2)] [(.ref o0), (.ref ar), (.int 2), (.ref b6)])
  have f34 := (Fld.other W28 f23 (Or.inl (Nat.ne_of_lt lt_o0_b6)))
  obtain ⟨T33, X33, e33, st33⟩ := getF X31 hx hZ hown (host := "") (Or.inl (ww66 hw)) Via.refl e31 f34 (g := (mkF m 42 #[.val (.ref o0), .val (.long q1), .second, .val (.ref b6), .val (.int 2)] [(.ref o0), (.ref ar), (.int 2), (.ref b6)])) rfl rfl (hb hby d10_42)
  refine step st33 ?_
  show G T33 (mkF m 45 #[.val (.ref o0), .val (.long q1), .second, .val (.ref b6), .val (.int 2)] [(.int 2), (.ref ar), (.int 2), (.ref b6)])
  refine step (fun t k => XS.iload X33.here hx rfl (hb hby d10_45) rfl k) ?_
  show G T33 (mkF m 47 #[.val (.ref o0), .val (.long q1), .second, .val (.ref b6), .val (.int 2)] [(.int 2), (.int 2), (.ref ar), (.int 2), (.ref b6)])
  refine step (fun t k => XS.iadd X33.here hx rfl (hb hby d10_47) rfl k) ?_
  show G T33 (mkF m 48 #[.val (.ref o0), .val (.long q1), .second, .val (.ref b6), .val (.int 2)] [(.int ((2 : Int32) + (2 : Int32))), (.ref ar), (.int 2), (.ref b6)])
  rw [(by decide : ((2 : Int32) + (2 : Int32)) = (4 : Int32))]
  show G T33 (mkF m 48 #[.val (.ref o0), .val (.long q1), .second, .val (.ref b6), .val (.int 2)] [(.int 4), (.ref ar), (.int 2), (.ref b6)])
  refine step (fun t k => XS.aloadN X33.here hx rfl (hb hby d10_48) rfl rfl k) ?_
  show G T33 (mkF m 49 #[.val (.ref o0), .val (.long q1), .second, .val (.ref b6), .val (.int 2)] [(.ref o0), (.int 4), (.ref ar), (.int 2), (.ref b6)])
  obtain ⟨T35, X35, e35, st35⟩ := getF X33 hx hZ hown (host := "") (Or.inl (ww57 hw)) Via.refl e33 f32 (g := (mkF m 49 #[.val (.ref o0), .val (.long q1), .second, .val (.ref b6), .val (.int 2)] [(.ref o0), (.int 4), (.ref ar), (.int 2), (.ref b6)])) rfl rfl (hb hby d10_49)
  refine step st35 ?_
  show G T35 (mkF m 52 #[.val (.ref o0), .val (.long q1), .second, .val (.ref b6), .val (.int 2)] [(.ref ar), (.int 4), (.ref ar), (.int 2), (.ref b6)])
  have f36 := (Arv.other f25 W28 (Nat.ne_of_lt lt_ar_b6))
  have q37 := own_len X35 hx hZ e35 f36 (g := (mkF m 52 #[.val (.ref o0), .val (.long q1), .second, .val (.ref b6), .val (.int 2)] [(.ref ar), (.int 4), (.ref ar), (.int 2), (.ref b6)])) rfl rfl (hb hby d10_52)
  refine step q37 ?_
  show G T35 (mkF m 53 #[.val (.ref o0), .val (.long q1), .second, .val (.ref b6), .val (.int 2)] [(.int 4), (.int 4), (.ref ar), (.int 2), (.ref b6)])
  refine step (fun t k => iremM X35 hx rfl (hb hby d10_53) rfl (by decide) k) ?_
  show G T35 (mkF m 54 #[.val (.ref o0), .val (.long q1), .second, .val (.ref b6), .val (.int 2)] [(.int ((4 : Int32) % (4 : Int32))), (.ref ar), (.int 2), (.ref b6)])
  rw [(by decide : ((4 : Int32) % (4 : Int32)) = (0 : Int32))]
  show G T35 (mkF m 54 #[.val (.ref o0), .val (.long q1), .second, .val (.ref b6), .val (.int 2)] [(.int 0), (.ref ar), (.int 2), (.ref b6)])
  have q38 := own_ldJ X35 hx hZ e35 f36 (j := (0 : Int32)) (v := (.long x0)) (by decide) (own_at (i := 0) rfl rfl) (g := (mkF m 54 #[.val (.ref o0), .val (.long q1), .second, .val (.ref b6), .val (.int 2)] [(.int 0), (.ref ar), (.int 2), (.ref b6)])) rfl rfl (hb hby d10_54)
  refine step q38 ?_
  show G T35 (mkF m 55 #[.val (.ref o0), .val (.long q1), .second, .val (.ref b6), .val (.int 2)] [(.long x0), (.int 2), (.ref b6)])
  obtain ⟨T39, h39, X39, e39, W39, V39, st39⟩ := own_stJ X35 hx hZ e35 V28 (j := (2 : Int32)) (by decide) (i := 2) rfl (by show 2 < 8; decide) (g := (mkF m 55 #[.val (.ref o0), .val (.long q1), .second, .val (.ref b6), .val (.int 2)] [(.long x0), (.int 2), (.ref b6)])) rfl rfl (hb hby d10_55)
  replace V39 : Arv Z h39 b6 k6 .long (8 : Int32) [(.long x2), (.long x3), (.long x0), (.long 0), (.long 0), (.long 0), (.long 0), (.long 0)] (.long 0) := V39
  have N39 := Fr.snoc X39 N28 ge_b6
  obtain ⟨lc39, X39, N39⟩ := own_gen X39 N39
  have O39 := O28.wr W39 ge_b6
  have K39 : Keep h0 h39 [o0] := K28.wr W39 (Or.inr sz_b6)
  refine step st39 ?_
  show G T39 (mkF m 56 #[.val (.ref o0), .val (.long q1), .second, .val (.ref b6), .val (.int 2)] [])
  refine step (fun t k => XS.iinc X39.here hx rfl (hb hby d10_56) rfl (l' := #[.val (.ref o0), .val (.long q1), .second, .val (.ref b6), .val (.int ((2 : Int32) + (1 : Int32)))]) rfl k) ?_
  show G T39 (mkF m 59 #[.val (.ref o0), .val (.long q1), .second, .val (.ref b6), .val (.int ((2 : Int32) + (1 : Int32)))] [])
  rw [(by decide : ((2 : Int32) + (1 : Int32)) = (3 : Int32))]
  show G T39 (mkF m 59 #[.val (.ref o0), .val (.long q1), .second, .val (.ref b6), .val (.int 3)] [])
  refine step (fun t k => XS.goto X39.here hx rfl (pc0 := 59) (pc' := 25) rfl (hb hby d10_59) (by decide) (by decide) k) ?_
  show G T39 (mkF m 25 #[.val (.ref o0), .val (.long q1), .second, .val (.ref b6), .val (.int 3)] [])
  refine step (fun t k => XS.iload X39.here hx rfl (hb hby d10_25) rfl k) ?_
  show G T39 (mkF m 27 #[.val (.ref o0), .val (.long q1), .second, .val (.ref b6), .val (.int 3)] [(.int 3)])
  refine step (fun t k => XS.aloadN X39.here hx rfl (hb hby d10_27) rfl rfl k) ?_
  show G T39 (mkF m 28 #[.val (.ref o0), .val (.long q1), .second, .val (.ref b6), .val (.int 3)] [(.ref o0), (.int 3)])
  have f41 := (Fld.other W39 f30 (Or.inl (Nat.ne_of_lt lt_o0_b6)))
  obtain ⟨T40, X40, e40, st40⟩ := getF X39 hx hZ hown (host := "") (Or.inl (ww64 hw)) Via.refl e39 f41 (g := (mkF m 28 #[.val (.ref o0), .val (.long q1), .second, .val (.ref b6), .val (.int 3)] [(.ref o0), (.int 3)])) rfl rfl (hb hby d10_28)
  refine step st40 ?_
  show G T40 (mkF m 31 #[.val (.ref o0), .val (.long q1), .second, .val (.ref b6), .val (.int 3)] [(.int 4), (.int 3)])
  refine step (fun t k => XS.icmpNo X40.here hx rfl (hb hby d10_31) rfl (tlt (by decide : (3 : Int32) < (4 : Int32))).2.1 k) ?_
  show G T40 (mkF m 34 #[.val (.ref o0), .val (.long q1), .second, .val (.ref b6), .val (.int 3)] [])
  refine step (fun t k => XS.aloadN X40.here hx rfl (hb hby d10_34) rfl rfl k) ?_
  show G T40 (mkF m 35 #[.val (.ref o0), .val (.long q1), .second, .val (.ref b6), .val (.int 3)] [(.ref b6)])
  refine step (fun t k => XS.iload X40.here hx rfl (hb hby d10_35) rfl k) ?_
  show G T40 (mkF m 37 #[.val (.ref o0), .val (.long q1), .second, .val (.ref b6), .val (.int 3)] [(.int 3), (.ref b6)])
  refine step (fun t k => XS.aloadN X40.here hx rfl (hb hby d10_37) rfl rfl k) ?_
  show G T40 (mkF m 38 #[.val (.ref o0), .val (.long q1), .second, .val (.ref b6), .val (.int 3)] [(.ref o0), (.int 3), (.ref b6)])
  have f43 := (Fld.other W39 f32 (Or.inl (Nat.ne_of_lt lt_o0_b6)))
  obtain ⟨T42, X42, e42, st42⟩ := getF X40 hx hZ hown (host := "") (Or.inl (ww57 hw)) Via.refl e40 f43 (g := (mkF m 38 #[.val (.ref o0), .val (.long q1), .second, .val (.ref b6), .val (.int 3)] [(.ref o0), (.int 3), (.ref b6)])) rfl rfl (hb hby d10_38)
  refine step st42 ?_
  show G T42 (mkF m 41 #[.val (.ref o0), .val (.long q1), .second, .val (.ref b6), .val (.int 3)] [(.ref ar), (.int 3), (.ref b6)])
  refine step (fun t k => XS.aloadN X42.here hx rfl (hb hby d10_41) rfl rfl k) ?_
  show G T42 (mkF m 42 #[.val (.ref o0), .val (.long q1), .second, .val (.ref b6), .val (.int 3)] [(.ref o0), (.ref ar), (.int 3), (.ref b6)])
  have f45 := (Fld.other W39 f34 (Or.inl (Nat.ne_of_lt lt_o0_b6)))
  obtain ⟨T44, X44, e44, st44⟩ := getF X42 hx hZ hown (host := "") (Or.inl (ww66 hw)) Via.refl e42 f45 (g := (mkF m 42 #[.val (.ref o0), .val (.long q1), .second, .val (.ref b6), .val (.int 3)] [(.ref o0), (.ref ar), (.int 3), (.ref b6)])) rfl rfl (hb hby d10_42)
  refine step st44 ?_
  show G T44 (mkF m 45 #[.val (.ref o0), .val (.long q1), .second, .val (.ref b6), .val (.int 3)] [(.int 2), (.ref ar), (.int 3), (.ref b6)])
  refine step (fun t k => XS.iload X44.here hx rfl (hb hby d10_45) rfl k) ?_
  show G T44 (mkF m 47 #[.val (.ref o0), .val (.long q1), .second, .val (.ref b6), .val (.int 3)] [(.int 3), (.int 2), (.ref ar), (.int 3), (.ref b6)])
  refine step (fun t k => XS.iadd X44.here hx rfl (hb hby d10_47) rfl k) ?_
  show G T44 (mkF m 48 #[.val (.ref o0), .val (.long q1), .second, .val (.ref b6), .val (.int 3)] [(.int ((2 : Int32) + (3 : Int32))), (.ref ar), (.int 3), (.ref b6)])
  rw [(by decide : ((2 : Int32) + (3 : Int32)) = (5 : Int32))]
  show G T44 (mkF m 48 #[.val (.ref o0), .val (.long q1), .second, .val (.ref b6), .val (.int 3)] [(.int 5), (.ref ar), (.int 3), (.ref b6)])
  refine step (fun t k => XS.aloadN X44.here hx rfl (hb hby d10_48) rfl rfl k) ?_
  show G T44 (mkF m 49 #[.val (.ref o0), .val (.long q1), .second, .val (.ref b6), .val (.int 3)] [(.ref o0), (.int 5), (.ref ar), (.int 3), (.ref b6)])
  obtain ⟨T46, X46, e46, st46⟩ := getF X44 hx hZ hown (host := "") (Or.inl (ww57 hw)) Via.refl e44 f43 (g := (mkF m 49 #[.val (.ref o0), .val (.long q1), .second, .val (.ref b6), .val (.int 3)] [(.ref o0), (.int 5), (.ref ar), (.int 3), (.ref b6)])) rfl rfl (hb hby d10_49)
  refine step st46 ?_
  show G T46 (mkF m 52 #[.val (.ref o0), .val (.long q1), .second, .val (.ref b6), .val (.int 3)] [(.ref ar), (.int 5), (.ref ar), (.int 3), (.ref b6)])
  have f47 := (Arv.other f36 W39 (Nat.ne_of_lt lt_ar_b6))
  have q48 := own_len X46 hx hZ e46 f47 (g := (mkF m 52 #[.val (.ref o0), .val (.long q1), .second, .val (.ref b6), .val (.int 3)] [(.ref ar), (.int 5), (.ref ar), (.int 3), (.ref b6)])) rfl rfl (hb hby d10_52)
  refine step q48 ?_
  show G T46 (mkF m 53 #[.val (.ref o0), .val (.long q1), .second, .val (.ref b6), .val (.int 3)] [(.int 4), (.int 5), (.ref ar), (.int 3), (.ref b6)])
  refine step (fun t k => iremM X46 hx rfl (hb hby d10_53) rfl (by decide) k) ?_
  show G T46 (mkF m 54 #[.val (.ref o0), .val (.long q1), .second, .val (.ref b6), .val (.int 3)] [(.int ((5 : Int32) % (4 : Int32))), (.ref ar), (.int 3), (.ref b6)])
  rw [(by decide : ((5 : Int32) % (4 : Int32)) = (1 : Int32))]
  show G T46 (mkF m 54 #[.val (.ref o0), .val (.long q1), .second, .val (.ref b6), .val (.int 3)] [(.int 1), (.ref ar), (.int 3), (.ref b6)])
  have q49 := own_ldJ X46 hx hZ e46 f47 (j := (1 : Int32)) (v := (.long x1)) (by decide) (own_at (i := 1) rfl rfl) (g := (mkF m 54 #[.val (.ref o0), .val (.long q1), .second, .val (.ref b6), .val (.int 3)] [(.int 1), (.ref ar), (.int 3), (.ref b6)])) rfl rfl (hb hby d10_54)
  refine step q49 ?_
  show G T46 (mkF m 55 #[.val (.ref o0), .val (.long q1), .second, .val (.ref b6), .val (.int 3)] [(.long x1), (.int 3), (.ref b6)])
  obtain ⟨T50, h50, X50, e50, W50, V50, st50⟩ := own_stJ X46 hx hZ e46 V39 (j := (3 : Int32)) (by decide) (i := 3) rfl (by show 3 < 8; decide) (g := (mkF m 55 #[.val (.ref o0), .val (.long q1), .second, .val (.ref b6), .val (.int 3)] [(.long x1), (.int 3), (.ref b6)])) rfl rfl (hb hby d10_55)
  replace V50 : Arv Z h50 b6 k6 .long (8 : Int32) [(.long x2), (.long x3), (.long x0), (.long x1), (.long 0), (.long 0), (.long 0), (.long 0)] (.long 0) := V50
  have N50 := Fr.snoc X50 N39 ge_b6
  obtain ⟨lc50, X50, N50⟩ := own_gen X50 N50
  have O50 := O39.wr W50 ge_b6
  have K50 : Keep h0 h50 [o0] := K39.wr W50 (Or.inr sz_b6)
  refine step st50 ?_
  show G T50 (mkF m 56 #[.val (.ref o0), .val (.long q1), .second, .val (.ref b6), .val (.int 3)] [])
  refine step (fun t k => XS.iinc X50.here hx rfl (hb hby d10_56) rfl (l' := #[.val (.ref o0), .val (.long q1), .second, .val (.ref b6), .val (.int ((3 : Int32) + (1 : Int32)))]) rfl k) ?_
  show G T50 (mkF m 59 #[.val (.ref o0), .val (.long q1), .second, .val (.ref b6), .val (.int ((3 : Int32) + (1 : Int32)))] [])
  rw [(by decide : ((3 : Int32) + (1 : Int32)) = (4 : Int32))]
  show G T50 (mkF m 59 #[.val (.ref o0), .val (.long q1), .second, .val (.ref b6), .val (.int 4)] [])
  refine step (fun t k => XS.goto X50.here hx rfl (pc0 := 59) (pc' := 25) rfl (hb hby d10_59) (by decide) (by decide) k) ?_
  show G T50 (mkF m 25 #[.val (.ref o0), .val (.long q1), .second, .val (.ref b6), .val (.int 4)] [])
  refine step (fun t k => XS.iload X50.here hx rfl (hb hby d10_25) rfl k) ?_
  show G T50 (mkF m 27 #[.val (.ref o0), .val (.long q1), .second, .val (.ref b6), .val (.int 4)] [(.int 4)])
  refine step (fun t k => XS.aloadN X50.here hx rfl (hb hby d10_27) rfl rfl k) ?_
  show G T50 (mkF m 28 #[.val (.ref o0), .val (.long q1), .second, .val (.ref b6), .val (.int 4)] [(.ref o0), (.int 4)])
  have f52 := (Fld.other W50 f41 (Or.inl (Nat.ne_of_lt lt_o0_b6)))
  obtain ⟨T51, X51, e51, st51⟩ := getF X50 hx hZ hown (host := "") (Or.inl (ww64 hw)) Via.refl e50 f52 (g := (mkF m 28 #[.val (.ref o0), .val (.long q1), .second, .val (.ref b6), .val (.int 4)] [(.ref o0), (.int 4)])) rfl rfl (hb hby d10_28)
  refine step st51 ?_
  show G T51 (mkF m 31 #[.val (.ref o0), .val (.long q1), .second, .val (.ref b6), .val (.int 4)] [(.int 4), (.int 4)])
  refine step (fun t k => XS.icmpYes X51.here hx rfl (pc0 := 31) (pc' := 62) rfl (hb hby d10_31) rfl (flt (by decide : ¬ ((4 : Int32) < (4 : Int32)))).2.1 (by decide) (by decide) k) ?_
  show G T51 (mkF m 62 #[.val (.ref o0), .val (.long q1), .second, .val (.ref b6), .val (.int 4)] [])
  refine step (fun t k => XS.aloadN X51.here hx rfl (hb hby d10_62) rfl rfl k) ?_
  show G T51 (mkF m 63 #[.val (.ref o0), .val (.long q1), .second, .val (.ref b6), .val (.int 4)] [(.ref o0)])
  refine step (fun t k => XS.aloadN X51.here hx rfl (hb hby d10_63) rfl rfl k) ?_
  show G T51 (mkF m 64 #[.val (.ref o0), .val (.long q1), .second, .val (.ref b6), .val (.int 4)] [(.ref b6), (.ref o0)])
  have f54 := (Fld.other W50 f43 (Or.inl (Nat.ne_of_lt lt_o0_b6)))
  have f55 := (Exa.wr W50 (Exa.wr W39 (Exa.wr W28 (Exa.wr W17 (Exa.ext E6 Ex)))))
  obtain ⟨T53, h53, X53, e53, W53, st53⟩ := putF X51 hx hZ hown (host := "") (Or.inl (ww57 hw)) Via.refl e51 f54 f55 (Or.inl (ww58 hw)) (ww50 hw) (ty := (.array .long)) (by decide) rfl rfl (g := (mkF m 64 #[.val (.ref o0), .val (.long q1), .second, .val (.ref b6), .val (.int 4)] [(.ref b6), (.ref o0)])) rfl rfl (hb hby d10_64)
  have F53 : Fld Z h53 o0 cn_0 "times" "[J" (.ref b6) := Fld.same W53 f54
  have N53 := Fr.snoc X53 N50 geo
  obtain ⟨lc53, X53, N53⟩ := own_gen X53 N53
  have O53 := O50.wr W53 geo
  have K53 : Keep h0 h53 [o0] := K50.wr W53 (Or.inl (List.mem_of_getElem? (i := 0) rfl))
  refine step st53 ?_
  show G T53 (mkF m 67 #[.val (.ref o0), .val (.long q1), .second, .val (.ref b6), .val (.int 4)] [])
  refine step (fun t k => XS.aloadN X53.here hx rfl (hb hby d10_67) rfl rfl k) ?_
  show G T53 (mkF m 68 #[.val (.ref o0), .val (.long q1), .second, .val (.ref b6), .val (.int 4)] [(.ref o0)])
  refine step (fun t k => XS.iconst X53.here hx rfl (hb hby d10_68) k) ?_
  show G T53 (mkF m 69 #[.val (.ref o0), .val (.long q1), .second, .val (.ref b6), .val (.int 4)] [(.int 0), (.ref o0)])
  have f57 := (Fld.other W53 (Fld.other W50 f45 (Or.inl (Nat.ne_of_lt lt_o0_b6))) (Or.inr (slot_ne (Or.inl (ww67 hw)) (Or.inl (ww58 hw)) (by decide) (t := .int) (t' := (.array .long)) (by decide) (by decide))))
  have f58 := (Exa.wr W53 f55)
  obtain ⟨T56, h56, X56, e56, W56, st56⟩ := putF X53 hx hZ hown (host := "") (Or.inl (ww66 hw)) Via.refl e53 f57 f58 (Or.inl (ww67 hw)) (ww50 hw) (ty := .int) (by decide) rfl rfl (g := (mkF m 69 #[.val (.ref o0), .val (.long q1), .second, .val (.ref b6), .val (.int 4)] [(.int 0), (.ref o0)])) rfl rfl (hb hby d10_69)
  have F56 : Fld Z h56 o0 cn_0 "head" "I" (.int 0) := Fld.same W56 f57
  have N56 := Fr.snoc X56 N53 geo
  obtain ⟨lc56, X56, N56⟩ := own_gen X56 N56
  have O56 := O53.wr W56 geo
  have K56 : Keep h0 h56 [o0] := K53.wr W56 (Or.inl (List.mem_of_getElem? (i := 0) rfl))
  refine step st56 ?_
  show G T56 (mkF m 72 #[.val (.ref o0), .val (.long q1), .second, .val (.ref b6), .val (.int 4)] [])
  refine step (fun t k => XS.aloadN X56.here hx rfl (hb hby d10_72) rfl rfl k) ?_
  show G T56 (mkF m 73 #[.val (.ref o0), .val (.long q1), .second, .val (.ref b6), .val (.int 4)] [(.ref o0)])
  have f60 := (Fld.other W56 F53 (Or.inr (slot_ne (Or.inl (ww58 hw)) (Or.inl (ww67 hw)) (by decide) (t := (.array .long)) (t' := .int) (by decide) (by decide))))
  obtain ⟨T59, X59, e59, st59⟩ := getF X56 hx hZ hown (host := "") (Or.inl (ww57 hw)) Via.refl e56 f60 (g := (mkF m 73 #[.val (.ref o0), .val (.long q1), .second, .val (.ref b6), .val (.int 4)] [(.ref o0)])) rfl rfl (hb hby d10_73)
  refine step st59 ?_
  show G T59 (mkF m 76 #[.val (.ref o0), .val (.long q1), .second, .val (.ref b6), .val (.int 4)] [(.ref b6)])
  refine step (fun t k => XS.aloadN X59.here hx rfl (hb hby d10_76) rfl rfl k) ?_
  show G T59 (mkF m 77 #[.val (.ref o0), .val (.long q1), .second, .val (.ref b6), .val (.int 4)] [(.ref o0), (.ref b6)])
  obtain ⟨T61, X61, e61, st61⟩ := getF X59 hx hZ hown (host := "") (Or.inl (ww66 hw)) Via.refl e59 F56 (g := (mkF m 77 #[.val (.ref o0), .val (.long q1), .second, .val (.ref b6), .val (.int 4)] [(.ref o0), (.ref b6)])) rfl rfl (hb hby d10_77)
  refine step st61 ?_
  show G T61 (mkF m 80 #[.val (.ref o0), .val (.long q1), .second, .val (.ref b6), .val (.int 4)] [(.int 0), (.ref b6)])
  refine step (fun t k => XS.aloadN X61.here hx rfl (hb hby d10_80) rfl rfl k) ?_
  show G T61 (mkF m 81 #[.val (.ref o0), .val (.long q1), .second, .val (.ref b6), .val (.int 4)] [(.ref o0), (.int 0), (.ref b6)])
  have f63 := (Fld.other W56 (Fld.other W53 f52 (Or.inr (slot_ne (Or.inl (ww65 hw)) (Or.inl (ww58 hw)) (by decide) (t := .int) (t' := (.array .long)) (by decide) (by decide)))) (Or.inr (slot_ne (Or.inl (ww65 hw)) (Or.inl (ww67 hw)) (by decide) (t := .int) (t' := .int) (by decide) (by decide))))
  obtain ⟨T62, X62, e62, st62⟩ := getF X61 hx hZ hown (host := "") (Or.inl (ww64 hw)) Via.refl e61 f63 (g := (mkF m 81 #[.val (.ref o0), .val (.long q1), .second, .val (.ref b6), .val (.int 4)] [(.ref o0), (.int 0), (.ref b6)])) rfl rfl (hb hby d10_81)
  refine step st62 ?_
  show G T62 (mkF m 84 #[.val (.ref o0), .val (.long q1), .second, .val (.ref b6), .val (.int 4)] [(.int 4), (.int 0), (.ref b6)])
  refine step (fun t k => XS.iadd X62.here hx rfl (hb hby d10_84) rfl k) ?_
  show G T62 (mkF m 85 #[.val (.ref o0), .val (.long q1), .second, .val (.ref b6), .val (.int 4)] [(.int ((0 : Int32) + (4 : Int32))), (.ref b6)])
  rw [(by decide : ((0 : Int32) + (4 : Int32)) = (4 : Int32))]
  show G T62 (mkF m 85 #[.val (.ref o0), .val (.long q1), .second, .val (.ref b6), .val (.int 4)] [(.int 4), (.ref b6)])
  refine step (fun t k => XS.aloadN X62.here hx rfl (hb hby d10_85) rfl rfl k) ?_
  show G T62 (mkF m 86 #[.val (.ref o0), .val (.long q1), .second, .val (.ref b6), .val (.int 4)] [(.ref o0), (.int 4), (.ref b6)])
  obtain ⟨T64, X64, e64, st64⟩ := getF X62 hx hZ hown (host := "") (Or.inl (ww57 hw)) Via.refl e62 f60 (g := (mkF m 86 #[.val (.ref o0), .val (.long q1), .second, .val (.ref b6), .val (.int 4)] [(.ref o0), (.int 4), (.ref b6)])) rfl rfl (hb hby d10_86)
  refine step st64 ?_
  show G T64 (mkF m 89 #[.val (.ref o0), .val (.long q1), .second, .val (.ref b6), .val (.int 4)] [(.ref b6), (.int 4), (.ref b6)])
  have f65 := (Arv.other (Arv.other V50 W53 (Nat.ne_of_gt lt_o0_b6)) W56 (Nat.ne_of_gt lt_o0_b6))
  have q66 := own_len X64 hx hZ e64 f65 (g := (mkF m 89 #[.val (.ref o0), .val (.long q1), .second, .val (.ref b6), .val (.int 4)] [(.ref b6), (.int 4), (.ref b6)])) rfl rfl (hb hby d10_89)
  refine step q66 ?_
  show G T64 (mkF m 90 #[.val (.ref o0), .val (.long q1), .second, .val (.ref b6), .val (.int 4)] [(.int 8), (.int 4), (.ref b6)])
  refine step (fun t k => iremM X64 hx rfl (hb hby d10_90) rfl (by decide) k) ?_
  show G T64 (mkF m 91 #[.val (.ref o0), .val (.long q1), .second, .val (.ref b6), .val (.int 4)] [(.int ((4 : Int32) % (8 : Int32))), (.ref b6)])
  rw [(by decide : ((4 : Int32) % (8 : Int32)) = (4 : Int32))]
  show G T64 (mkF m 91 #[.val (.ref o0), .val (.long q1), .second, .val (.ref b6), .val (.int 4)] [(.int 4), (.ref b6)])
  refine step (fun t k => XS.lloadN X64.here hx rfl (hb hby d10_91) rfl k) ?_
  show G T64 (mkF m 92 #[.val (.ref o0), .val (.long q1), .second, .val (.ref b6), .val (.int 4)] [(.long q1), (.int 4), (.ref b6)])
  obtain ⟨T67, h67, X67, e67, W67, V67, st67⟩ := own_stJ X64 hx hZ e64 f65 (j := (4 : Int32)) (by decide) (i := 4) rfl (by show 4 < 8; decide) (g := (mkF m 92 #[.val (.ref o0), .val (.long q1), .second, .val (.ref b6), .val (.int 4)] [(.long q1), (.int 4), (.ref b6)])) rfl rfl (hb hby d10_92)
  replace V67 : Arv Z h67 b6 k6 .long (8 : Int32) [(.long x2), (.long x3), (.long x0), (.long x1), (.long q1), (.long 0), (.long 0), (.long 0)] (.long 0) := V67
  have N67 := Fr.snoc X67 N56 ge_b6
  obtain ⟨lc67, X67, N67⟩ := own_gen X67 N67
  have O67 := O56.wr W67 ge_b6
  have K67 : Keep h0 h67 [o0] := K56.wr W67 (Or.inr sz_b6)
  refine step st67 ?_
  show G T67 (mkF m 93 #[.val (.ref o0), .val (.long q1), .second, .val (.ref b6), .val (.int 4)] [])
  refine step (fun t k => XS.aloadN X67.here hx rfl (hb hby d10_93) rfl rfl k) ?_
  show G T67 (mkF m 94 #[.val (.ref o0), .val (.long q1), .second, .val (.ref b6), .val (.int 4)] [(.ref o0)])
  refine step (fun t k => XS.dup X67.here hx rfl (hb hby d10_94) rfl rfl k) ?_
  show G T67 (mkF m 95 #[.val (.ref o0), .val (.long q1), .second, .val (.ref b6), .val (.int 4)] [(.ref o0), (.ref o0)])
  have f69 := (Fld.other W67 f63 (Or.inl (Nat.ne_of_lt lt_o0_b6)))
  obtain ⟨T68, X68, e68, st68⟩ := getF X67 hx hZ hown (host := "") (Or.inl (ww64 hw)) Via.refl e67 f69 (g := (mkF m 95 #[.val (.ref o0), .val (.long q1), .second, .val (.ref b6), .val (.int 4)] [(.ref o0), (.ref o0)])) rfl rfl (hb hby d10_95)
  refine step st68 ?_
  show G T68 (mkF m 98 #[.val (.ref o0), .val (.long q1), .second, .val (.ref b6), .val (.int 4)] [(.int 4), (.ref o0)])
  refine step (fun t k => XS.iconst X68.here hx rfl (hb hby d10_98) k) ?_
  show G T68 (mkF m 99 #[.val (.ref o0), .val (.long q1), .second, .val (.ref b6), .val (.int 4)] [(.int 1), (.int 4), (.ref o0)])
  refine step (fun t k => XS.iadd X68.here hx rfl (hb hby d10_99) rfl k) ?_
  show G T68 (mkF m 100 #[.val (.ref o0), .val (.long q1), .second, .val (.ref b6), .val (.int 4)] [(.int ((4 : Int32) + (1 : Int32))), (.ref o0)])
  rw [(by decide : ((4 : Int32) + (1 : Int32)) = (5 : Int32))]
  show G T68 (mkF m 100 #[.val (.ref o0), .val (.long q1), .second, .val (.ref b6), .val (.int 4)] [(.int 5), (.ref o0)])
  have f71 := (Exa.wr W67 (Exa.wr W56 f58))
  obtain ⟨T70, h70, X70, e70, W70, st70⟩ := putF X68 hx hZ hown (host := "") (Or.inl (ww64 hw)) Via.refl e68 f69 f71 (Or.inl (ww65 hw)) (ww50 hw) (ty := .int) (by decide) rfl rfl (g := (mkF m 100 #[.val (.ref o0), .val (.long q1), .second, .val (.ref b6), .val (.int 4)] [(.int 5), (.ref o0)])) rfl rfl (hb hby d10_100)
  have F70 : Fld Z h70 o0 cn_0 "size" "I" (.int 5) := Fld.same W70 f69
  have N70 := Fr.snoc X70 N67 geo
  obtain ⟨lc70, X70, N70⟩ := own_gen X70 N70
  have O70 := O67.wr W70 geo
  have K70 : Keep h0 h70 [o0] := K67.wr W70 (Or.inl (List.mem_of_getElem? (i := 0) rfl))
  refine step st70 ?_
  show G T70 (mkF m 103 #[.val (.ref o0), .val (.long q1), .second, .val (.ref b6), .val (.int 4)] [])
  have f72 := (Exa.wr W70 f71)
  have f73 := (Fld.other W70 (Fld.other W67 f60 (Or.inl (Nat.ne_of_lt lt_o0_b6))) (Or.inr (slot_ne (Or.inl (ww58 hw)) (Or.inl (ww65 hw)) (by decide) (t := (.array .long)) (t' := .int) (by decide) (by decide))))
  have f74 := (Fld.other W70 (Fld.other W67 F56 (Or.inl (Nat.ne_of_lt lt_o0_b6))) (Or.inr (slot_ne (Or.inl (ww67 hw)) (Or.inl (ww65 hw)) (by decide) (t := .int) (t' := .int) (by decide) (by decide))))
  have f75 := (Arv.other V67 W70 (Nat.ne_of_gt lt_o0_b6))
  exact ret (v := none) X70 (fun _ => rfl) (fun fs hr => X70.returnOut hx Bd.returns (hb hby d10_103) hr) e70 ⟨b6, k6, rfl, N70, K70, sz_b6, f72, f73, f74, F70, f75⟩ (by decide) (by decide)
abbrev rr_for_4_0_4_3 : Room := { frames := 0, cells := 0, slots := 0, locals := 0 }
theorem ef_for_4_0_4_3 (m : MethodId) (o0 : Addr) (q1 : Int64) : entryFrame m #[(.ref o0), (.long q1)] 3 = mkF m 0 #[.val (.ref o0), .val (.long q1), .second] [] := by first | (simp [entryFrame, mkF, argsToLocals, Value.category]; done) | rfl
def Q_for_4_0_4_3 (Z : State) (w_0 : Addr) (w_1 : Addr) (w_2 : Addr) (o0 : Addr) (q1 : Int64) (ar : Addr) (ka : ClassId) (x0 : Int64) (x1 : Int64) (x2 : Int64) (x3 : Int64) (h0 : Heap) (n0 : Nat) (v : Option Value) (h : Heap) (L : List Loc) : Prop := v = none ∧ Fr n0 L ∧ Keep h0 h [o0] ∧ Exa Z h o0 cn_0 ∧ Fld Z h o0 cn_0 "times" "[J" (.ref ar) ∧ Fld Z h o0 cn_0 "head" "I" (.int 3) ∧ Fld Z h o0 cn_0 "size" "I" (.int 1)
set_option maxRecDepth 65536 in
set_option maxHeartbeats 40000000 in
theorem rm_for_4_0_4_3 (l : Launch) (Z : State) (a0 : Array Value) (hw : ∀ d ∈ tables_1, d.before a0 Z = true) (ws : List Jvm.Cond) (w_0 : Addr) (w_1 : Addr) (w_2 : Addr) (o0 : Addr) (q1 : Int64) (ar : Addr) (ka : ClassId) (x0 : Int64) (x1 : Int64) (x2 : Int64) (x3 : Int64) (h0 : Heap) (n0 : Nat) (Z0 : n0 ≤ h0.size) (ST : own_St Z w_0 w_1 w_2) (O0 : Old Z n0 h0) (Ex : Exa Z h0 o0 cn_0) (geo : n0 ≤ o0) (Ft : Fld Z h0 o0 cn_0 "times" "[J" (.ref ar)) (gea : n0 ≤ ar) (Fh : Fld Z h0 o0 cn_0 "head" "I" (.int 0)) (Fs : Fld Z h0 o0 cn_0 "size" "I" (.int 4)) (Va : Arv Z h0 ar ka .long (4 : Int32) [(.long x0), (.long x1), (.long x2), (.long x3)] (.long 0)) (hp0 : ¬ (q1 < x0)) (hp1 : ¬ (q1 < x1)) (hp2 : ¬ (q1 < x2)) (hp3 : q1 < x3) :
    MetFree l y_11 (head1 (Jvm.Cond.code y_11 prog_2_method_5_code 3 none :: ws) rr_for_4_0_4_3) (fun a U => a = #[(.ref o0), (.long q1)] ∧ Z.Warmed39 U.vm ∧ U.heap = h0) (fun _ _ _ _ _ => True) (fun _ U o U' => ∃ v L, o = .returned v ∧ Q_for_4_0_4_3 Z w_0 w_1 w_2 o0 q1 ar ka x0 x1 x2 x3 h0 n0 v U'.heap L ∧ FrameEnd U o U' L rr_for_4_0_4_3.cells rr_for_4_0_4_3.slots) := by
  refine MetFree.of_bodySF (plainFor_of_name pn_3) hisR ?_
  intro p e s m args below meth c s₁ Bd hml0 hP hK
  obtain ⟨rfl, hZ, hh⟩ := hP
  have hx := Bd.exec
  have hby := Bd.bytes
  have hml : c.maxLocals = 3 := hml0
  have hown : s.vm.findClass cn_0 = some m.cls := findClass_of_methodNamed Bd.named
  have hnm := (name_of_methodNamed Bd.named Bd.method).1
  have X0 : Stand p l e rr_for_4_0_4_3 s m #[(.ref o0), (.long q1)] below meth c s₁ [] 0 0 := Stand.of_body Bd
  have e0 : s₁.heap = h0 := by rw [← hh, Bd.state]; rfl
  have N0 := Fr.nil n0
  have K0 : Keep h0 h0 [o0] := Keep.refl _ _
  obtain ⟨G, step, ret, fin⟩ := own_open (p := p) (l := l) (e := e) (R := rr_for_4_0_4_3) (s := s) (m := m) (args := #[(.ref o0), (.long q1)]) (below := below) (meth := meth) (c := c) (rr_for_4_0_4_3.cells) (rr_for_4_0_4_3.slots) (Q_for_4_0_4_3 Z w_0 w_1 w_2 o0 q1 ar ka x0 x1 x2 x3 h0 n0) Bd.notSynchronized
  refine fin (g := entryFrame m #[(.ref o0), (.long q1)] 3) ?_
  rw [ef_for_4_0_4_3 m o0 q1]
  have ne_o0_ar : o0 ≠ ar := own_ne_arv Ex (ww50 hw) Va
  show G s₁ (mkF m 0 #[.val (.ref o0), .val (.long q1), .second] [])
  refine step (fun t k => XS.aloadN X0.here hx rfl (hb hby d11_0) rfl rfl k) ?_
  show G s₁ (mkF m 1 #[.val (.ref o0), .val (.long q1), .second] [(.ref o0)])
  obtain ⟨T1, X1, e1, st1⟩ := getF X0 hx hZ hown (host := "") (Or.inl (ww64 hw)) Via.refl e0 Fs (g := (mkF m 1 #[.val (.ref o0), .val (.long q1), .second] [(.ref o0)])) rfl rfl (hb hby d11_1)
  refine step st1 ?_
  show G T1 (mkF m 4 #[.val (.ref o0), .val (.long q1), .second] [(.int 4)])
  refine step (fun t k => XS.ifNo X1.here hx rfl (hb hby d11_4) rfl ((if0 _ _).trans (tlt (by decide : (0 : Int32) < (4 : Int32))).2.2.2) k) ?_
  show G T1 (mkF m 7 #[.val (.ref o0), .val (.long q1), .second] [])
  refine step (fun t k => XS.aloadN X1.here hx rfl (hb hby d11_7) rfl rfl k) ?_
  show G T1 (mkF m 8 #[.val (.ref o0), .val (.long q1), .second] [(.ref o0)])
  obtain ⟨T2, X2, e2, st2⟩ := getF X1 hx hZ hown (host := "") (Or.inl (ww57 hw)) Via.refl e1 Ft (g := (mkF m 8 #[.val (.ref o0), .val (.long q1), .second] [(.ref o0)])) rfl rfl (hb hby d11_8)
  refine step st2 ?_
  show G T2 (mkF m 11 #[.val (.ref o0), .val (.long q1), .second] [(.ref ar)])
  refine step (fun t k => XS.aloadN X2.here hx rfl (hb hby d11_11) rfl rfl k) ?_
  show G T2 (mkF m 12 #[.val (.ref o0), .val (.long q1), .second] [(.ref o0), (.ref ar)])
  obtain ⟨T3, X3, e3, st3⟩ := getF X2 hx hZ hown (host := "") (Or.inl (ww66 hw)) Via.refl e2 Fh (g := (mkF m 12 #[.val (.ref o0), .val (.long q1), .second] [(.ref o0), (.ref ar)])) rfl rfl (hb hby d11_12)
  refine step st3 ?_
  show G T3 (mkF m 15 #[.val (.ref o0), .val (.long q1), .second] [(.int 0), (.ref ar)])
  have q4 := own_ldJ X3 hx hZ e3 Va (j := (0 : Int32)) (v := (.long x0)) (by decide) (own_at (i := 0) rfl rfl) (g := (mkF m 15 #[.val (.ref o0), .val (.long q1), .second] [(.int 0), (.ref ar)])) rfl rfl (hb hby d11_15)
  refine step q4 ?_
  show G T3 (mkF m 16 #[.val (.ref o0), .val (.long q1), .second] [(.long x0)])
  refine step (fun t k => XS.lloadN X3.here hx rfl (hb hby d11_16) rfl k) ?_
  show G T3 (mkF m 17 #[.val (.ref o0), .val (.long q1), .second] [(.long q1), (.long x0)])
  refine step (fun t k => XS.lcmp X3.here hx rfl (hb hby d11_17) rfl k) ?_
  show G T3 (mkF m 18 #[.val (.ref o0), .val (.long q1), .second] [(.int (lcmpW x0 q1))])
  refine step (fun t k => XS.ifNo X3.here hx rfl (hb hby d11_18) rfl ((if0 _ _).trans (flt (fun q => hp0 ((lw_gt _ _).mp q))).2.2.1) k) ?_
  show G T3 (mkF m 21 #[.val (.ref o0), .val (.long q1), .second] [])
  refine step (fun t k => XS.aloadN X3.here hx rfl (hb hby d11_21) rfl rfl k) ?_
  show G T3 (mkF m 22 #[.val (.ref o0), .val (.long q1), .second] [(.ref o0)])
  refine step (fun t k => XS.aloadN X3.here hx rfl (hb hby d11_22) rfl rfl k) ?_
  show G T3 (mkF m 23 #[.val (.ref o0), .val (.long q1), .second] [(.ref o0), (.ref o0)])
  obtain ⟨T5, X5, e5, st5⟩ := getF X3 hx hZ hown (host := "") (Or.inl (ww66 hw)) Via.refl e3 Fh (g := (mkF m 23 #[.val (.ref o0), .val (.long q1), .second] [(.ref o0), (.ref o0)])) rfl rfl (hb hby d11_23)
  refine step st5 ?_
  show G T5 (mkF m 26 #[.val (.ref o0), .val (.long q1), .second] [(.int 0), (.ref o0)])
  refine step (fun t k => XS.iconst X5.here hx rfl (hb hby d11_26) k) ?_
  show G T5 (mkF m 27 #[.val (.ref o0), .val (.long q1), .second] [(.int 1), (.int 0), (.ref o0)])
  refine step (fun t k => XS.iadd X5.here hx rfl (hb hby d11_27) rfl k) ?_
  show G T5 (mkF m 28 #[.val (.ref o0), .val (.long q1), .second] [(.int ((0 : Int32) + (1 : Int32))), (.ref o0)])
  rw [(by decide : ((0 : Int32) + (1 : Int32)) = (1 : Int32))]
  show G T5 (mkF m 28 #[.val (.ref o0), .val (.long q1), .second] [(.int 1), (.ref o0)])
  refine step (fun t k => XS.aloadN X5.here hx rfl (hb hby d11_28) rfl rfl k) ?_
  show G T5 (mkF m 29 #[.val (.ref o0), .val (.long q1), .second] [(.ref o0), (.int 1), (.ref o0)])
  obtain ⟨T6, X6, e6, st6⟩ := getF X5 hx hZ hown (host := "") (Or.inl (ww57 hw)) Via.refl e5 Ft (g := (mkF m 29 #[.val (.ref o0), .val (.long q1), .second] [(.ref o0), (.int 1), (.ref o0)])) rfl rfl (hb hby d11_29)
  refine step st6 ?_
  show G T6 (mkF m 32 #[.val (.ref o0), .val (.long q1), .second] [(.ref ar), (.int 1), (.ref o0)])
  have q7 := own_len X6 hx hZ e6 Va (g := (mkF m 32 #[.val (.ref o0), .val (.long q1), .second] [(.ref ar), (.int 1), (.ref o0)])) rfl rfl (hb hby d11_32)
  refine step q7 ?_
  show G T6 (mkF m 33 #[.val (.ref o0), .val (.long q1), .second] [(.int 4), (.int 1), (.ref o0)])
  refine step (fun t k => iremM X6 hx rfl (hb hby d11_33) rfl (by decide) k) ?_
  show G T6 (mkF m 34 #[.val (.ref o0), .val (.long q1), .second] [(.int ((1 : Int32) % (4 : Int32))), (.ref o0)])
  rw [(by decide : ((1 : Int32) % (4 : Int32)) = (1 : Int32))]
  show G T6 (mkF m 34 #[.val (.ref o0), .val (.long q1), .second] [(.int 1), (.ref o0)])
  obtain ⟨T8, h8, X8, e8, W8, st8⟩ := putF X6 hx hZ hown (host := "") (Or.inl (ww66 hw)) Via.refl e6 Fh Ex (Or.inl (ww67 hw)) (ww50 hw) (ty := .int) (by decide) rfl rfl (g := (mkF m 34 #[.val (.ref o0), .val (.long q1), .second] [(.int 1), (.ref o0)])) rfl rfl (hb hby d11_34)
  have F8 : Fld Z h8 o0 cn_0 "head" "I" (.int 1) := Fld.same W8 Fh
  have N8 := Fr.snoc X8 N0 geo
  obtain ⟨lc8, X8, N8⟩ := own_gen X8 N8
  have O8 := O0.wr W8 geo
  have K8 : Keep h0 h8 [o0] := K0.wr W8 (Or.inl (List.mem_of_getElem? (i := 0) rfl))
  refine step st8 ?_
  show G T8 (mkF m 37 #[.val (.ref o0), .val (.long q1), .second] [])
  refine step (fun t k => XS.aloadN X8.here hx rfl (hb hby d11_37) rfl rfl k) ?_
  show G T8 (mkF m 38 #[.val (.ref o0), .val (.long q1), .second] [(.ref o0)])
  refine step (fun t k => XS.dup X8.here hx rfl (hb hby d11_38) rfl rfl k) ?_
  show G T8 (mkF m 39 #[.val (.ref o0), .val (.long q1), .second] [(.ref o0), (.ref o0)])
  have f10 := (Fld.other W8 Fs (Or.inr (slot_ne (Or.inl (ww65 hw)) (Or.inl (ww67 hw)) (by decide) (t := .int) (t' := .int) (by decide) (by decide))))
  obtain ⟨T9, X9, e9, st9⟩ := getF X8 hx hZ hown (host := "") (Or.inl (ww64 hw)) Via.refl e8 f10 (g := (mkF m 39 #[.val (.ref o0), .val (.long q1), .second] [(.ref o0), (.ref o0)])) rfl rfl (hb hby d11_39)
  refine step st9 ?_
  show G T9 (mkF m 42 #[.val (.ref o0), .val (.long q1), .second] [(.int 4), (.ref o0)])
  refine step (fun t k => XS.iconst X9.here hx rfl (hb hby d11_42) k) ?_
  show G T9 (mkF m 43 #[.val (.ref o0), .val (.long q1), .second] [(.int 1), (.int 4), (.ref o0)])
  refine step (fun t k => XS.isub X9.here hx rfl (hb hby d11_43) rfl k) ?_
  show G T9 (mkF m 44 #[.val (.ref o0), .val (.long q1), .second] [(.int ((4 : Int32) - (1 : Int32))), (.ref o0)])
  rw [(by decide : ((4 : Int32) - (1 : Int32)) = (3 : Int32))]
  show G T9 (mkF m 44 #[.val (.ref o0), .val (.long q1), .second] [(.int 3), (.ref o0)])
  have f12 := (Exa.wr W8 Ex)
  obtain ⟨T11, h11, X11, e11, W11, st11⟩ := putF X9 hx hZ hown (host := "") (Or.inl (ww64 hw)) Via.refl e9 f10 f12 (Or.inl (ww65 hw)) (ww50 hw) (ty := .int) (by decide) rfl rfl (g := (mkF m 44 #[.val (.ref o0), .val (.long q1), .second] [(.int 3), (.ref o0)])) rfl rfl (hb hby d11_44)
  have F11 : Fld Z h11 o0 cn_0 "size" "I" (.int 3) := Fld.same W11 f10
  have N11 := Fr.snoc X11 N8 geo
  obtain ⟨lc11, X11, N11⟩ := own_gen X11 N11
  have O11 := O8.wr W11 geo
  have K11 : Keep h0 h11 [o0] := K8.wr W11 (Or.inl (List.mem_of_getElem? (i := 0) rfl))
  refine step st11 ?_
  show G T11 (mkF m 47 #[.val (.ref o0), .val (.long q1), .second] [])
  refine step (fun t k => XS.goto X11.here hx rfl (pc0 := 47) (pc' := 0) rfl (hb hby d11_47) (by decide) (by decide) k) ?_
  show G T11 (mkF m 0 #[.val (.ref o0), .val (.long q1), .second] [])
  refine step (fun t k => XS.aloadN X11.here hx rfl (hb hby d11_0) rfl rfl k) ?_
  show G T11 (mkF m 1 #[.val (.ref o0), .val (.long q1), .second] [(.ref o0)])
  obtain ⟨T13, X13, e13, st13⟩ := getF X11 hx hZ hown (host := "") (Or.inl (ww64 hw)) Via.refl e11 F11 (g := (mkF m 1 #[.val (.ref o0), .val (.long q1), .second] [(.ref o0)])) rfl rfl (hb hby d11_1)
  refine step st13 ?_
  show G T13 (mkF m 4 #[.val (.ref o0), .val (.long q1), .second] [(.int 3)])
  refine step (fun t k => XS.ifNo X13.here hx rfl (hb hby d11_4) rfl ((if0 _ _).trans (tlt (by decide : (0 : Int32) < (3 : Int32))).2.2.2) k) ?_
  show G T13 (mkF m 7 #[.val (.ref o0), .val (.long q1), .second] [])
  refine step (fun t k => XS.aloadN X13.here hx rfl (hb hby d11_7) rfl rfl k) ?_
  show G T13 (mkF m 8 #[.val (.ref o0), .val (.long q1), .second] [(.ref o0)])
  have f15 := (Fld.other W11 (Fld.other W8 Ft (Or.inr (slot_ne (Or.inl (ww58 hw)) (Or.inl (ww67 hw)) (by decide) (t := (.array .long)) (t' := .int) (by decide) (by decide)))) (Or.inr (slot_ne (Or.inl (ww58 hw)) (Or.inl (ww65 hw)) (by decide) (t := (.array .long)) (t' := .int) (by decide) (by decide))))
  obtain ⟨T14, X14, e14, st14⟩ := getF X13 hx hZ hown (host := "") (Or.inl (ww57 hw)) Via.refl e13 f15 (g := (mkF m 8 #[.val (.ref o0), .val (.long q1), .second] [(.ref o0)])) rfl rfl (hb hby d11_8)
  refine step st14 ?_
  show G T14 (mkF m 11 #[.val (.ref o0), .val (.long q1), .second] [(.ref ar)])
  refine step (fun t k => XS.aloadN X14.here hx rfl (hb hby d11_11) rfl rfl k) ?_
  show G T14 (mkF m 12 #[.val (.ref o0), .val (.long q1), .second] [(.ref o0), (.ref ar)])
  have f17 := (Fld.other W11 F8 (Or.inr (slot_ne (Or.inl (ww67 hw)) (Or.inl (ww65 hw)) (by decide) (t := .int) (t' := .int) (by decide) (by decide))))
  obtain ⟨T16, X16, e16, st16⟩ := getF X14 hx hZ hown (host := "") (Or.inl (ww66 hw)) Via.refl e14 f17 (g := (mkF m 12 #[.val (.ref o0), .val (.long q1), .second] [(.ref o0), (.ref ar)])) rfl rfl (hb hby d11_12)
  refine step st16 ?_
  show G T16 (mkF m 15 #[.val (.ref o0), .val (.long q1), .second] [(.int 1), (.ref ar)])
  have f18 := (Arv.other (Arv.other Va W8 (Ne.symm ne_o0_ar)) W11 (Ne.symm ne_o0_ar))
  have q19 := own_ldJ X16 hx hZ e16 f18 (j := (1 : Int32)) (v := (.long x1)) (by decide) (own_at (i := 1) rfl rfl) (g := (mkF m 15 #[.val (.ref o0), .val (.long q1), .second] [(.int 1), (.ref ar)])) rfl rfl (hb hby d11_15)
  refine step q19 ?_
  show G T16 (mkF m 16 #[.val (.ref o0), .val (.long q1), .second] [(.long x1)])
  refine step (fun t k => XS.lloadN X16.here hx rfl (hb hby d11_16) rfl k) ?_
  show G T16 (mkF m 17 #[.val (.ref o0), .val (.long q1), .second] [(.long q1), (.long x1)])
  refine step (fun t k => XS.lcmp X16.here hx rfl (hb hby d11_17) rfl k) ?_
  show G T16 (mkF m 18 #[.val (.ref o0), .val (.long q1), .second] [(.int (lcmpW x1 q1))])
  refine step (fun t k => XS.ifNo X16.here hx rfl (hb hby d11_18) rfl ((if0 _ _).trans (flt (fun q => hp1 ((lw_gt _ _).mp q))).2.2.1) k) ?_
  show G T16 (mkF m 21 #[.val (.ref o0), .val (.long q1), .second] [])
  refine step (fun t k => XS.aloadN X16.here hx rfl (hb hby d11_21) rfl rfl k) ?_
  show G T16 (mkF m 22 #[.val (.ref o0), .val (.long q1), .second] [(.ref o0)])
  refine step (fun t k => XS.aloadN X16.here hx rfl (hb hby d11_22) rfl rfl k) ?_
  show G T16 (mkF m 23 #[.val (.ref o0), .val (.long q1), .second] [(.ref o0), (.ref o0)])
  obtain ⟨T20, X20, e20, st20⟩ := getF X16 hx hZ hown (host := "") (Or.inl (ww66 hw)) Via.refl e16 f17 (g := (mkF m 23 #[.val (.ref o0), .val (.long q1), .second] [(.ref o0), (.ref o0)])) rfl rfl (hb hby d11_23)
  refine step st20 ?_
  show G T20 (mkF m 26 #[.val (.ref o0), .val (.long q1), .second] [(.int 1), (.ref o0)])
  refine step (fun t k => XS.iconst X20.here hx rfl (hb hby d11_26) k) ?_
  show G T20 (mkF m 27 #[.val (.ref o0), .val (.long q1), .second] [(.int 1), (.int 1), (.ref o0)])
  refine step (fun t k => XS.iadd X20.here hx rfl (hb hby d11_27) rfl k) ?_
  show G T20 (mkF m 28 #[.val (.ref o0), .val (.long q1), .second] [(.int ((1 : Int32) + (1 : Int32))), (.ref o0)])
  rw [(by decide : ((1 : Int32) + (1 : Int32)) = (2 : Int32))]
  show G T20 (mkF m 28 #[.val (.ref o0), .val (.long q1), .second] [(.int 2), (.ref o0)])
  refine step (fun t k => XS.aloadN X20.here hx rfl (hb hby d11_28) rfl rfl k) ?_
  show G T20 (mkF m 29 #[.val (.ref o0), .val (.long q1), .second] [(.ref o0), (.int 2), (.ref o0)])
  obtain ⟨T21, X21, e21, st21⟩ := getF X20 hx hZ hown (host := "") (Or.inl (ww57 hw)) Via.refl e20 f15 (g := (mkF m 29 #[.val (.ref o0), .val (.long q1), .second] [(.ref o0), (.int 2), (.ref o0)])) rfl rfl (hb hby d11_29)
  refine step st21 ?_
  show G T21 (mkF m 32 #[.val (.ref o0), .val (.long q1), .second] [(.ref ar), (.int 2), (.ref o0)])
  have q22 := own_len X21 hx hZ e21 f18 (g := (mkF m 32 #[.val (.ref o0), .val (.long q1), .second] [(.ref ar), (.int 2), (.ref o0)])) rfl rfl (hb hby d11_32)
  refine step q22 ?_
  show G T21 (mkF m 33 #[.val (.ref o0), .val (.long q1), .second] [(.int 4), (.int 2), (.ref o0)])
  refine step (fun t k => iremM X21 hx rfl (hb hby d11_33) rfl (by decide) k) ?_
  show G T21 (mkF m 34 #[.val (.ref o0), .val (.long q1), .second] [(.int ((2 : Int32) % (4 : Int32))), (.ref o0)])
  rw [(by decide : ((2 : Int32) % (4 : Int32)) = (2 : Int32))]
  show G T21 (mkF m 34 #[.val (.ref o0), .val (.long q1), .second] [(.int 2), (.ref o0)])
  have f24 := (Exa.wr W11 f12)
  obtain ⟨T23, h23, X23, e23, W23, st23⟩ := putF X21 hx hZ hown (host := "") (Or.inl (ww66 hw)) Via.refl e21 f17 f24 (Or.inl (ww67 hw)) (ww50 hw) (ty := .int) (by decide) rfl rfl (g := (mkF m 34 #[.val (.ref o0), .val (.long q1), .second] [(.int 2), (.ref o0)])) rfl rfl (hb hby d11_34)
  have F23 : Fld Z h23 o0 cn_0 "head" "I" (.int 2) := Fld.same W23 f17
  have N23 := Fr.snoc X23 N11 geo
  obtain ⟨lc23, X23, N23⟩ := own_gen X23 N23
  have O23 := O11.wr W23 geo
  have K23 : Keep h0 h23 [o0] := K11.wr W23 (Or.inl (List.mem_of_getElem? (i := 0) rfl))
  refine step st23 ?_
  show G T23 (mkF m 37 #[.val (.ref o0), .val (.long q1), .second] [])
  refine step (fun t k => XS.aloadN X23.here hx rfl (hb hby d11_37) rfl rfl k) ?_
  show G T23 (mkF m 38 #[.val (.ref o0), .val (.long q1), .second] [(.ref o0)])
  refine step (fun t k => XS.dup X23.here hx rfl (hb hby d11_38) rfl rfl k) ?_
  show G T23 (mkF m 39 #[.val (.ref o0), .val (.long q1), .second] [(.ref o0), (.ref o0)])
  have f26 := (Fld.other W23 F11 (Or.inr (slot_ne (Or.inl (ww65 hw)) (Or.inl (ww67 hw)) (by decide) (t := .int) (t' := .int) (by decide) (by decide))))
  obtain ⟨T25, X25, e25, st25⟩ := getF X23 hx hZ hown (host := "") (Or.inl (ww64 hw)) Via.refl e23 f26 (g := (mkF m 39 #[.val (.ref o0), .val (.long q1), .second] [(.ref o0), (.ref o0)])) rfl rfl (hb hby d11_39)
  refine step st25 ?_
  show G T25 (mkF m 42 #[.val (.ref o0), .val (.long q1), .second] [(.int 3), (.ref o0)])
  refine step (fun t k => XS.iconst X25.here hx rfl (hb hby d11_42) k) ?_
  show G T25 (mkF m 43 #[.val (.ref o0), .val (.long q1), .second] [(.int 1), (.int 3), (.ref o0)])
  refine step (fun t k => XS.isub X25.here hx rfl (hb hby d11_43) rfl k) ?_
  show G T25 (mkF m 44 #[.val (.ref o0), .val (.long q1), .second] [(.int ((3 : Int32) - (1 : Int32))), (.ref o0)])
  rw [(by decide : ((3 : Int32) - (1 : Int32)) = (2 : Int32))]
  show G T25 (mkF m 44 #[.val (.ref o0), .val (.long q1), .second] [(.int 2), (.ref o0)])
  have f28 := (Exa.wr W23 f24)
  obtain ⟨T27, h27, X27, e27, W27, st27⟩ := putF X25 hx hZ hown (host := "") (Or.inl (ww64 hw)) Via.refl e25 f26 f28 (Or.inl (ww65 hw)) (ww50 hw) (ty := .int) (by decide) rfl rfl (g := (mkF m 44 #[.val (.ref o0), .val (.long q1), .second] [(.int 2), (.ref o0)])) rfl rfl (hb hby d11_44)
  have F27 : Fld Z h27 o0 cn_0 "size" "I" (.int 2) := Fld.same W27 f26
  have N27 := Fr.snoc X27 N23 geo
  obtain ⟨lc27, X27, N27⟩ := own_gen X27 N27
  have O27 := O23.wr W27 geo
  have K27 : Keep h0 h27 [o0] := K23.wr W27 (Or.inl (List.mem_of_getElem? (i := 0) rfl))
  refine step st27 ?_
  show G T27 (mkF m 47 #[.val (.ref o0), .val (.long q1), .second] [])
  refine step (fun t k => XS.goto X27.here hx rfl (pc0 := 47) (pc' := 0) rfl (hb hby d11_47) (by decide) (by decide) k) ?_
  show G T27 (mkF m 0 #[.val (.ref o0), .val (.long q1), .second] [])
  refine step (fun t k => XS.aloadN X27.here hx rfl (hb hby d11_0) rfl rfl k) ?_
  show G T27 (mkF m 1 #[.val (.ref o0), .val (.long q1), .second] [(.ref o0)])
  obtain ⟨T29, X29, e29, st29⟩ := getF X27 hx hZ hown (host := "") (Or.inl (ww64 hw)) Via.refl e27 F27 (g := (mkF m 1 #[.val (.ref o0), .val (.long q1), .second] [(.ref o0)])) rfl rfl (hb hby d11_1)
  refine step st29 ?_
  show G T29 (mkF m 4 #[.val (.ref o0), .val (.long q1), .second] [(.int 2)])
  refine step (fun t k => XS.ifNo X29.here hx rfl (hb hby d11_4) rfl ((if0 _ _).trans (tlt (by decide : (0 : Int32) < (2 : Int32))).2.2.2) k) ?_
  show G T29 (mkF m 7 #[.val (.ref o0), .val (.long q1), .second] [])
  refine step (fun t k => XS.aloadN X29.here hx rfl (hb hby d11_7) rfl rfl k) ?_
  show G T29 (mkF m 8 #[.val (.ref o0), .val (.long q1), .second] [(.ref o0)])
  have f31 := (Fld.other W27 (Fld.other W23 f15 (Or.inr (slot_ne (Or.inl (ww58 hw)) (Or.inl (ww67 hw)) (by decide) (t := (.array .long)) (t' := .int) (by decide) (by decide)))) (Or.inr (slot_ne (Or.inl (ww58 hw)) (Or.inl (ww65 hw)) (by decide) (t := (.array .long)) (t' := .int) (by decide) (by decide))))
  obtain ⟨T30, X30, e30, st30⟩ := getF X29 hx hZ hown (host := "") (Or.inl (ww57 hw)) Via.refl e29 f31 (g := (mkF m 8 #[.val (.ref o0), .val (.long q1), .second] [(.ref o0)])) rfl rfl (hb hby d11_8)
  refine step st30 ?_
  show G T30 (mkF m 11 #[.val (.ref o0), .val (.long q1), .second] [(.ref ar)])
  refine step (fun t k => XS.aloadN X30.here hx rfl (hb hby d11_11) rfl rfl k) ?_
  show G T30 (mkF m 12 #[.val (.ref o0), .val (.long q1), .second] [(.ref o0), (.ref ar)])
  have f33 := (Fld.other W27 F23 (Or.inr (slot_ne (Or.inl (ww67 hw)) (Or.inl (ww65 hw)) (by decide) (t := .int) (t' := .int) (by decide) (by decide))))
  obtain ⟨T32, X32, e32, st32⟩ := getF X30 hx hZ hown (host := "") (Or.inl (ww66 hw)) Via.refl e30 f33 (g := (mkF m 12 #[.val (.ref o0), .val (.long q1), .second] [(.ref o0), (.ref ar)])) rfl rfl (hb hby d11_12)
  refine step st32 ?_
  show G T32 (mkF m 15 #[.val (.ref o0), .val (.long q1), .second] [(.int 2), (.ref ar)])
  have f34 := (Arv.other (Arv.other f18 W23 (Ne.symm ne_o0_ar)) W27 (Ne.symm ne_o0_ar))
  have q35 := own_ldJ X32 hx hZ e32 f34 (j := (2 : Int32)) (v := (.long x2)) (by decide) (own_at (i := 2) rfl rfl) (g := (mkF m 15 #[.val (.ref o0), .val (.long q1), .second] [(.int 2), (.ref ar)])) rfl rfl (hb hby d11_15)
  refine step q35 ?_
  show G T32 (mkF m 16 #[.val (.ref o0), .val (.long q1), .second] [(.long x2)])
  refine step (fun t k => XS.lloadN X32.here hx rfl (hb hby d11_16) rfl k) ?_
  show G T32 (mkF m 17 #[.val (.ref o0), .val (.long q1), .second] [(.long q1), (.long x2)])
  refine step (fun t k => XS.lcmp X32.here hx rfl (hb hby d11_17) rfl k) ?_
  show G T32 (mkF m 18 #[.val (.ref o0), .val (.long q1), .second] [(.int (lcmpW x2 q1))])
  refine step (fun t k => XS.ifNo X32.here hx rfl (hb hby d11_18) rfl ((if0 _ _).trans (flt (fun q => hp2 ((lw_gt _ _).mp q))).2.2.1) k) ?_
  show G T32 (mkF m 21 #[.val (.ref o0), .val (.long q1), .second] [])
  refine step (fun t k => XS.aloadN X32.here hx rfl (hb hby d11_21) rfl rfl k) ?_
  show G T32 (mkF m 22 #[.val (.ref o0), .val (.long q1), .second] [(.ref o0)])
  refine step (fun t k => XS.aloadN X32.here hx rfl (hb hby d11_22) rfl rfl k) ?_
  show G T32 (mkF m 23 #[.val (.ref o0), .val (.long q1), .second] [(.ref o0), (.ref o0)])
  obtain ⟨T36, X36, e36, st36⟩ := getF X32 hx hZ hown (host := "") (Or.inl (ww66 hw)) Via.refl e32 f33 (g := (mkF m 23 #[.val (.ref o0), .val (.long q1), .second] [(.ref o0), (.ref o0)])) rfl rfl (hb hby d11_23)
  refine step st36 ?_
  show G T36 (mkF m 26 #[.val (.ref o0), .val (.long q1), .second] [(.int 2), (.ref o0)])
  refine step (fun t k => XS.iconst X36.here hx rfl (hb hby d11_26) k) ?_
  show G T36 (mkF m 27 #[.val (.ref o0), .val (.long q1), .second] [(.int 1), (.int 2), (.ref o0)])
  refine step (fun t k => XS.iadd X36.here hx rfl (hb hby d11_27) rfl k) ?_
  show G T36 (mkF m 28 #[.val (.ref o0), .val (.long q1), .second] [(.int ((2 : Int32) + (1 : Int32))), (.ref o0)])
  rw [(by decide : ((2 : Int32) + (1 : Int32)) = (3 : Int32))]
  show G T36 (mkF m 28 #[.val (.ref o0), .val (.long q1), .second] [(.int 3), (.ref o0)])
  refine step (fun t k => XS.aloadN X36.here hx rfl (hb hby d11_28) rfl rfl k) ?_
  show G T36 (mkF m 29 #[.val (.ref o0), .val (.long q1), .second] [(.ref o0), (.int 3), (.ref o0)])
  obtain ⟨T37, X37, e37, st37⟩ := getF X36 hx hZ hown (host := "") (Or.inl (ww57 hw)) Via.refl e36 f31 (g := (mkF m 29 #[.val (.ref o0), .val (.long q1), .second] [(.ref o0), (.int 3), (.ref o0)])) rfl rfl (hb hby d11_29)
  refine step st37 ?_
  show G T37 (mkF m 32 #[.val (.ref o0), .val (.long q1), .second] [(.ref ar), (.int 3), (.ref o0)])
  have q38 := own_len X37 hx hZ e37 f34 (g := (mkF m 32 #[.val (.ref o0), .val (.long q1), .second] [(.ref ar), (.int 3), (.ref o0)])) rfl rfl (hb hby d11_32)
  refine step q38 ?_
  show G T37 (mkF m 33 #[.val (.ref o0), .val (.long q1), .second] [(.int 4), (.int 3), (.ref o0)])
  refine step (fun t k => iremM X37 hx rfl (hb hby d11_33) rfl (by decide) k) ?_
  show G T37 (mkF m 34 #[.val (.ref o0), .val (.long q1), .second] [(.int ((3 : Int32) % (4 : Int32))), (.ref o0)])
  rw [(by decide : ((3 : Int32) % (4 : Int32)) = (3 : Int32))]
  show G T37 (mkF m 34 #[.val (.ref o0), .val (.long q1), .second] [(.int 3), (.ref o0)])
  have f40 := (Exa.wr W27 f28)
  obtain ⟨T39, h39, X39, e39, W39, st39⟩ := putF X37 hx hZ hown (host := "") (Or.inl (ww66 hw)) Via.refl e37 f33 f40 (Or.inl (ww67 hw)) (ww50 hw) (ty := .int) (by decide) rfl rfl (g := (mkF m 34 #[.val (.ref o0), .val (.long q1), .second] [(.int 3), (.ref o0)])) rfl rfl (hb hby d11_34)
  have F39 : Fld Z h39 o0 cn_0 "head" "I" (.int 3) := Fld.same W39 f33
  have N39 := Fr.snoc X39 N27 geo
  obtain ⟨lc39, X39, N39⟩ := own_gen X39 N39
  have O39 := O27.wr W39 geo
  have K39 : Keep h0 h39 [o0] := K27.wr W39 (Or.inl (List.mem_of_getElem? (i := 0) rfl))
  refine step st39 ?_
  show G T39 (mkF m 37 #[.val (.ref o0), .val (.long q1), .second] [])
  refine step (fun t k => XS.aloadN X39.here hx rfl (hb hby d11_37) rfl rfl k) ?_
  show G T39 (mkF m 38 #[.val (.ref o0), .val (.long q1), .second] [(.ref o0)])
  refine step (fun t k => XS.dup X39.here hx rfl (hb hby d11_38) rfl rfl k) ?_
  show G T39 (mkF m 39 #[.val (.ref o0), .val (.long q1), .second] [(.ref o0), (.ref o0)])
  have f42 := (Fld.other W39 F27 (Or.inr (slot_ne (Or.inl (ww65 hw)) (Or.inl (ww67 hw)) (by decide) (t := .int) (t' := .int) (by decide) (by decide))))
  obtain ⟨T41, X41, e41, st41⟩ := getF X39 hx hZ hown (host := "") (Or.inl (ww64 hw)) Via.refl e39 f42 (g := (mkF m 39 #[.val (.ref o0), .val (.long q1), .second] [(.ref o0), (.ref o0)])) rfl rfl (hb hby d11_39)
  refine step st41 ?_
  show G T41 (mkF m 42 #[.val (.ref o0), .val (.long q1), .second] [(.int 2), (.ref o0)])
  refine step (fun t k => XS.iconst X41.here hx rfl (hb hby d11_42) k) ?_
  show G T41 (mkF m 43 #[.val (.ref o0), .val (.long q1), .second] [(.int 1), (.int 2), (.ref o0)])
  refine step (fun t k => XS.isub X41.here hx rfl (hb hby d11_43) rfl k) ?_
  show G T41 (mkF m 44 #[.val (.ref o0), .val (.long q1), .second] [(.int ((2 : Int32) - (1 : Int32))), (.ref o0)])
  rw [(by decide : ((2 : Int32) - (1 : Int32)) = (1 : Int32))]
  show G T41 (mkF m 44 #[.val (.ref o0), .val (.long q1), .second] [(.int 1), (.ref o0)])
  have f44 := (Exa.wr W39 f40)
  obtain ⟨T43, h43, X43, e43, W43, st43⟩ := putF X41 hx hZ hown (host := "") (Or.inl (ww64 hw)) Via.refl e41 f42 f44 (Or.inl (ww65 hw)) (ww50 hw) (ty := .int) (by decide) rfl rfl (g := (mkF m 44 #[.val (.ref o0), .val (.long q1), .second] [(.int 1), (.ref o0)])) rfl rfl (hb hby d11_44)
  have F43 : Fld Z h43 o0 cn_0 "size" "I" (.int 1) := Fld.same W43 f42
  have N43 := Fr.snoc X43 N39 geo
  obtain ⟨lc43, X43, N43⟩ := own_gen X43 N43
  have O43 := O39.wr W43 geo
  have K43 : Keep h0 h43 [o0] := K39.wr W43 (Or.inl (List.mem_of_getElem? (i := 0) rfl))
  refine step st43 ?_
  show G T43 (mkF m 47 #[.val (.ref o0), .val (.long q1), .second] [])
  refine step (fun t k => XS.goto X43.here hx rfl (pc0 := 47) (pc' := 0) rfl (hb hby d11_47) (by decide) (by decide) k) ?_
  show G T43 (mkF m 0 #[.val (.ref o0), .val (.long q1), .second] [])
  refine step (fun t k => XS.aloadN X43.here hx rfl (hb hby d11_0) rfl rfl k) ?_
  show G T43 (mkF m 1 #[.val (.ref o0), .val (.long q1), .second] [(.ref o0)])
  obtain ⟨T45, X45, e45, st45⟩ := getF X43 hx hZ hown (host := "") (Or.inl (ww64 hw)) Via.refl e43 F43 (g := (mkF m 1 #[.val (.ref o0), .val (.long q1), .second] [(.ref o0)])) rfl rfl (hb hby d11_1)
  refine step st45 ?_
  show G T45 (mkF m 4 #[.val (.ref o0), .val (.long q1), .second] [(.int 1)])
  refine step (fun t k => XS.ifNo X45.here hx rfl (hb hby d11_4) rfl ((if0 _ _).trans (tlt (by decide : (0 : Int32) < (1 : Int32))).2.2.2) k) ?_
  show G T45 (mkF m 7 #[.val (.ref o0), .val (.long q1), .second] [])
  refine step (fun t k => XS.aloadN X45.here hx rfl (hb hby d11_7) rfl rfl k) ?_
  show G T45 (mkF m 8 #[.val (.ref o0), .val (.long q1), .second] [(.ref o0)])
  have f47 := (Fld.other W43 (Fld.other W39 f31 (Or.inr (slot_ne (Or.inl (ww58 hw)) (Or.inl (ww67 hw)) (by decide) (t := (.array .long)) (t' := .int) (by decide) (by decide)))) (Or.inr (slot_ne (Or.inl (ww58 hw)) (Or.inl (ww65 hw)) (by decide) (t := (.array .long)) (t' := .int) (by decide) (by decide))))
  obtain ⟨T46, X46, e46, st46⟩ := getF X45 hx hZ hown (host := "") (Or.inl (ww57 hw)) Via.refl e45 f47 (g := (mkF m 8 #[.val (.ref o0), .val (.long q1), .second] [(.ref o0)])) rfl rfl (hb hby d11_8)
  refine step st46 ?_
  show G T46 (mkF m 11 #[.val (.ref o0), .val (.long q1), .second] [(.ref ar)])
  refine step (fun t k => XS.aloadN X46.here hx rfl (hb hby d11_11) rfl rfl k) ?_
  show G T46 (mkF m 12 #[.val (.ref o0), .val (.long q1), .second] [(.ref o0), (.ref ar)])
  have f49 := (Fld.other W43 F39 (Or.inr (slot_ne (Or.inl (ww67 hw)) (Or.inl (ww65 hw)) (by decide) (t := .int) (t' := .int) (by decide) (by decide))))
  obtain ⟨T48, X48, e48, st48⟩ := getF X46 hx hZ hown (host := "") (Or.inl (ww66 hw)) Via.refl e46 f49 (g := (mkF m 12 #[.val (.ref o0), .val (.long q1), .second] [(.ref o0), (.ref ar)])) rfl rfl (hb hby d11_12)
  refine step st48 ?_
  show G T48 (mkF m 15 #[.val (.ref o0), .val (.long q1), .second] [(.int 3), (.ref ar)])
  have f50 := (Arv.other (Arv.other f34 W39 (Ne.symm ne_o0_ar)) W43 (Ne.symm ne_o0_ar))
  have q51 := own_ldJ X48 hx hZ e48 f50 (j := (3 : Int32)) (v := (.long x3)) (by decide) (own_at (i := 3) rfl rfl) (g := (mkF m 15 #[.val (.ref o0), .val (.long q1), .second] [(.int 3), (.ref ar)])) rfl rfl (hb hby d11_15)
  refine step q51 ?_
  show G T48 (mkF m 16 #[.val (.ref o0), .val (.long q1), .second] [(.long x3)])
  refine step (fun t k => XS.lloadN X48.here hx rfl (hb hby d11_16) rfl k) ?_
  show G T48 (mkF m 17 #[.val (.ref o0), .val (.long q1), .second] [(.long q1), (.long x3)])
  refine step (fun t k => XS.lcmp X48.here hx rfl (hb hby d11_17) rfl k) ?_
  show G T48 (mkF m 18 #[.val (.ref o0), .val (.long q1), .second] [(.int (lcmpW x3 q1))])
  refine step (fun t k => XS.ifYes X48.here hx rfl (pc0 := 18) (pc' := 50) rfl (hb hby d11_18) rfl ((if0 _ _).trans (tlt ((lw_gt _ _).mpr hp3)).2.2.1) (by decide) (by decide) k) ?_
  show G T48 (mkF m 50 #[.val (.ref o0), .val (.long q1), .second] [])
  have f52 := (Exa.wr W43 f44)
  exact ret (v := none) X48 (fun _ => rfl) (fun fs hr => X48.returnOut hx Bd.returns (hb hby d11_50) hr) e48 ⟨rfl, N43, K43, f52, f47, f49, F43⟩ (by decide) (by decide)
abbrev rr_cnt_4_0_4_3 : Room := { frames := 1, cells := 0, slots := 0, locals := 15 }
theorem ef_cnt_4_0_4_3 (m : MethodId) (o0 : Addr) (o1 : Addr) (q2 : Int64) : entryFrame m #[(.ref o0), (.ref o1), (.long q2)] 4 = mkF m 0 #[.val (.ref o0), .val (.ref o1), .val (.long q2), .second] [] := by first | (simp [entryFrame, mkF, argsToLocals, Value.category]; done) | rfl
def Q_cnt_4_0_4_3 (Z : State) (w_0 : Addr) (w_1 : Addr) (w_2 : Addr) (o0 : Addr) (o1 : Addr) (q2 : Int64) (ar : Addr) (ka : ClassId) (x0 : Int64) (x1 : Int64) (x2 : Int64) (x3 : Int64) (mm : Int64) (h0 : Heap) (n0 : Nat) (v : Option Value) (h : Heap) (L : List Loc) : Prop := v = some (.int 1) ∧ Fr n0 L ∧ Keep h0 h [o0] ∧ Exa Z h o0 cn_0 ∧ Fld Z h o0 cn_0 "times" "[J" (.ref ar) ∧ Fld Z h o0 cn_0 "head" "I" (.int 3) ∧ Fld Z h o0 cn_0 "size" "I" (.int 1)
set_option maxRecDepth 65536 in
set_option maxHeartbeats 40000000 in
theorem rm_cnt_4_0_4_3 (l : Launch) (Z : State) (a0 : Array Value) (hw : ∀ d ∈ tables_1, d.before a0 Z = true) (ws : List Jvm.Cond) (w_0 : Addr) (w_1 : Addr) (w_2 : Addr) (o0 : Addr) (o1 : Addr) (q2 : Int64) (ar : Addr) (ka : ClassId) (x0 : Int64) (x1 : Int64) (x2 : Int64) (x3 : Int64) (mm : Int64) (h0 : Heap) (n0 : Nat) (Z0 : n0 ≤ h0.size) (ST : own_St Z w_0 w_1 w_2) (O0 : Old Z n0 h0) (Ex : Exa Z h0 o0 cn_0) (geo : n0 ≤ o0) (Ft : Fld Z h0 o0 cn_0 "times" "[J" (.ref ar)) (gea : n0 ≤ ar) (Fh : Fld Z h0 o0 cn_0 "head" "I" (.int 0)) (Fs : Fld Z h0 o0 cn_0 "size" "I" (.int 4)) (Va : Arv Z h0 ar ka .long (4 : Int32) [(.long x0), (.long x1), (.long x2), (.long x3)] (.long 0)) (Ew : Exa Z h0 o1 cn_1) (Fwt : Fld Z h0 o1 cn_1 "type" cn_4 (.ref w_0)) (Fwm : Fld Z h0 o1 cn_1 "millis" "J" (.long mm)) (hp0 : ¬ ((q2 - mm) < x0)) (hp1 : ¬ ((q2 - mm) < x1)) (hp2 : ¬ ((q2 - mm) < x2)) (hp3 : (q2 - mm) < x3) :
    MetFree l y_13 (head1 (Jvm.Cond.code y_13 prog_2_method_2_code 4 (some .int) :: ws) rr_cnt_4_0_4_3) (fun a U => a = #[(.ref o0), (.ref o1), (.long q2)] ∧ Z.Warmed39 U.vm ∧ U.heap = h0) (fun _ _ _ _ _ => True) (fun _ U o U' => ∃ v L, o = .returned v ∧ Q_cnt_4_0_4_3 Z w_0 w_1 w_2 o0 o1 q2 ar ka x0 x1 x2 x3 mm h0 n0 v U'.heap L ∧ FrameEnd U o U' L rr_cnt_4_0_4_3.cells rr_cnt_4_0_4_3.slots) := by
  refine MetFree.of_bodySF (plainFor_of_name pn_3) hisR ?_
  intro p e s m args below meth c s₁ Bd hml0 hP hK
  obtain ⟨rfl, hZ, hh⟩ := hP
  have hx := Bd.exec
  have hby := Bd.bytes
  have hml : c.maxLocals = 4 := hml0
  have hown : s.vm.findClass cn_0 = some m.cls := findClass_of_methodNamed Bd.named
  have hnm := (name_of_methodNamed Bd.named Bd.method).1
  have X0 : Stand p l e rr_cnt_4_0_4_3 s m #[(.ref o0), (.ref o1), (.long q2)] below meth c s₁ [] 0 0 := Stand.of_body Bd
  have e0 : s₁.heap = h0 := by rw [← hh, Bd.state]; rfl
  have N0 := Fr.nil n0
  have K0 : Keep h0 h0 [o0] := Keep.refl _ _
  obtain ⟨G, step, ret, fin⟩ := own_open (p := p) (l := l) (e := e) (R := rr_cnt_4_0_4_3) (s := s) (m := m) (args := #[(.ref o0), (.ref o1), (.long q2)]) (below := below) (meth := meth) (c := c) (rr_cnt_4_0_4_3.cells) (rr_cnt_4_0_4_3.slots) (Q_cnt_4_0_4_3 Z w_0 w_1 w_2 o0 o1 q2 ar ka x0 x1 x2 x3 mm h0 n0) Bd.notSynchronized
  refine fin (g := entryFrame m #[(.ref o0), (.ref o1), (.long q2)] 4) ?_
  rw [ef_cnt_4_0_4_3 m o0 o1 q2]
  have ne_o0_o1 : o0 ≠ o1 := ne_exa Ex Ew (by decide)
  have ne_o0_ar : o0 ≠ ar := own_ne_arv Ex (ww50 hw) Va
  have ne_o1_ar : o1 ≠ ar := own_ne_arv Ew (ww14 hw) Va
  show G s₁ (mkF m 0 #[.val (.ref o0), .val (.ref o1), .val (.long q2), .second] [])
  obtain ⟨T1, X1, e1, st1⟩ := getS2 X0 hx hZ hown (host := "") (Or.inl (ww75 hw)) Via.refl e0 (Sta.ext O0.2 ST.k6) (g := (mkF m 0 #[.val (.ref o0), .val (.ref o1), .val (.long q2), .second] [])) rfl (hb hby d12_0)
  refine step st1 ?_
  show G T1 (mkF m 3 #[.val (.ref o0), .val (.ref o1), .val (.long q2), .second] [(.ref w_2)])
  refine step (fun t k => XS.aloadN X1.here hx rfl (hb hby d12_3) rfl rfl k) ?_
  show G T1 (mkF m 4 #[.val (.ref o0), .val (.ref o1), .val (.long q2), .second] [(.ref o1), (.ref w_2)])
  have hK2 := (backOf (R := rr_cnt_4_0_4_3) (p := p) (e := e) (below := below) (s := s) (args := #[(.ref o0), (.ref o1), (.long q2)]) (len := 3) (W := 1) (rm_ty l Z a0 hw [] w_0 w_1 w_2 o1 w_0 h0 n0 (own_old_le O0) ST O0 Fwt) hZ (ww82 hw) (ww11 hw) (by decide) (by decide))
  obtain ⟨cq2, kq2, q2a, q2b, q2c⟩ := isOf hZ e1 Ew
  obtain ⟨_, _, ⟨T2, L2, k2, n2⟩, -, X2, ⟨Lc2, hQ2, l2, y2, z2⟩, st2⟩ := X1.virtualBack hx (y := y_5) (z := y_5) hown (mvT hZ (ww78 hw)) (mvT hZ (ww79 hw)) (notFace_of_selects (args := #[]) (mvT hZ (ww81 hw))) (mvT hZ (ww81 hw)) (mvT hZ (ww80 hw)) (by decide) hK2 q2a q2c (g := (mkF m 4 #[.val (.ref o0), .val (.ref o1), .val (.long q2), .second] [(.ref o1), (.ref w_2)])) rfl (by rw [hml]; rfl) (Steps.refl _) (argsL := []) (rest := [(.ref w_2)]) (lenOf pd_6 rfl) rfl (by show 2 * 0 + _ ≤ _; exact Nat.le_of_eq rfl) (hb hby d12_4) (fun _ _ => ⟨rfl, e1, (by decide : 0 + 0 ≤ _), (by decide : 0 + 0 ≤ _)⟩)
  dsimp only [Pt.U, Pt.locs, Pt.cells, Pt.slots] at X2 l2 y2 z2 st2 hQ2
  subst l2 y2 z2
  obtain ⟨rfl, N2q, e2⟩ := hQ2
  have N2 := Fr.app N0 N2q
  obtain ⟨lc2, X2, N2⟩ := own_gen X2 N2
  refine step (fun t k => st2.trans k) ?_
  show G T2 (mkF m 7 #[.val (.ref o0), .val (.ref o1), .val (.long q2), .second] [(.ref (f_ty w_0 w_1 w_2 o1 w_0)), (.ref w_2)])
  have r3 : (f_ty w_0 w_1 w_2 o1 w_0) = w_0 := rfl
  rw [r3]
  show G T2 (mkF m 7 #[.val (.ref o0), .val (.ref o1), .val (.long q2), .second] [(.ref w_0), (.ref w_2)])
  have hK4 := (backOf (R := rr_cnt_4_0_4_3) (p := p) (e := e) (below := below) (s := s) (args := #[(.ref o0), (.ref o1), (.long q2)]) (len := 3) (W := 1) (rm_od l Z a0 hw [] w_0 w_1 w_2 w_0 (0 : Int32) h0 n0 (own_old_le O0) ST O0 (Fld.ext O0.2 ST.k4)) hZ (ww89 hw) (ww88 hw) (by decide) (by decide))
  obtain ⟨cq4, kq4, q4a, q4b, q4c⟩ := isOf hZ e2 (Exa.ext O0.2 ST.k1)
  obtain ⟨_, _, ⟨T4, L4, k4, n4⟩, -, X4, ⟨Lc4, hQ4, l4, y4, z4⟩, st4⟩ := X2.virtualBackUp hx (x := y_12) (y := y_7) (owner := cn_7) hown (mvT hZ (ww83 hw)) (mvT hZ (ww84 hw)) (mvT hZ (ww85 hw)) (by decide) (mvT hZ (ww87 hw)) (mvT hZ (ww86 hw)) hK4 q4a q4c (g := (mkF m 7 #[.val (.ref o0), .val (.ref o1), .val (.long q2), .second] [(.ref w_0), (.ref w_2)])) rfl (by rw [hml]; rfl) (Steps.refl _) (argsL := []) (rest := [(.ref w_2)]) (lenOf pd_7 rfl) rfl (by show 2 * 0 + _ ≤ _; exact Nat.le_of_eq rfl) (hb hby d12_7) (fun _ _ => ⟨rfl, e2, (by decide : 0 + 0 ≤ _), (by decide : 0 + 0 ≤ _)⟩)
  dsimp only [Pt.U, Pt.locs, Pt.cells, Pt.slots] at X4 l4 y4 z4 st4 hQ4
  subst l4 y4 z4
  obtain ⟨rfl, N4q, e4⟩ := hQ4
  have N4 := Fr.app N2 N4q
  obtain ⟨lc4, X4, N4⟩ := own_gen X4 N4
  refine step (fun t k => st4.trans k) ?_
  show G T4 (mkF m 10 #[.val (.ref o0), .val (.ref o1), .val (.long q2), .second] [(.int (f_od w_0 w_1 w_2 w_0 (0 : Int32))), (.ref w_2)])
  have r5 : (f_od w_0 w_1 w_2 w_0 (0 : Int32)) = (0 : Int32) := rfl
  rw [r5]
  show G T4 (mkF m 10 #[.val (.ref o0), .val (.ref o1), .val (.long q2), .second] [(.int 0), (.ref w_2)])
  obtain ⟨kw6, Vw6⟩ := ST.k7
  have q7 := own_ldI X4 hx hZ e4 (Arv.ext Vw6 O0.2) (j := (0 : Int32)) (v := (.int 1)) (by decide) (own_at (i := 0) rfl rfl) (g := (mkF m 10 #[.val (.ref o0), .val (.ref o1), .val (.long q2), .second] [(.int 0), (.ref w_2)])) rfl rfl (hb hby d12_10)
  refine step q7 ?_
  show G T4 (mkF m 11 #[.val (.ref o0), .val (.ref o1), .val (.long q2), .second] [(.int 1)])
  refine step (fun t k => XS.tswIn X4.here hx rfl (pc0 := 11) (pc' := 36) rfl (hb hby d12_11) rfl (by decide) rfl (by decide) (by decide) k) ?_
  show G T4 (mkF m 36 #[.val (.ref o0), .val (.ref o1), .val (.long q2), .second] [])
  refine step (fun t k => XS.aloadN X4.here hx rfl (hb hby d12_36) rfl rfl k) ?_
  show G T4 (mkF m 37 #[.val (.ref o0), .val (.ref o1), .val (.long q2), .second] [(.ref o0)])
  refine step (fun t k => XS.lloadN X4.here hx rfl (hb hby d12_37) rfl k) ?_
  show G T4 (mkF m 38 #[.val (.ref o0), .val (.ref o1), .val (.long q2), .second] [(.long q2), (.ref o0)])
  refine step (fun t k => XS.aloadN X4.here hx rfl (hb hby d12_38) rfl rfl k) ?_
  show G T4 (mkF m 39 #[.val (.ref o0), .val (.ref o1), .val (.long q2), .second] [(.ref o1), (.long q2), (.ref o0)])
  have hK8 := (backOf (R := rr_cnt_4_0_4_3) (p := p) (e := e) (below := below) (s := s) (args := #[(.ref o0), (.ref o1), (.long q2)]) (len := 3) (W := 3) (rm_mi l Z a0 hw [] w_0 w_1 w_2 o1 mm h0 n0 (own_old_le O0) ST O0 Fwm) hZ (ww96 hw) (ww11 hw) (by decide) (by decide))
  obtain ⟨cq8, kq8, q8a, q8b, q8c⟩ := isOf hZ e4 Ew
  obtain ⟨_, _, ⟨T8, L8, k8, n8⟩, -, X8, ⟨Lc8, hQ8, l8, y8, z8⟩, st8⟩ := X4.virtualBack hx (y := y_6) (z := y_6) hown (mvT hZ (ww92 hw)) (mvT hZ (ww93 hw)) (notFace_of_selects (args := #[]) (mvT hZ (ww95 hw))) (mvT hZ (ww95 hw)) (mvT hZ (ww94 hw)) (by decide) hK8 q8a q8c (g := (mkF m 39 #[.val (.ref o0), .val (.ref o1), .val (.long q2), .second] [(.ref o1), (.long q2), (.ref o0)])) rfl (by rw [hml]; rfl) (Steps.refl _) (argsL := []) (rest := [(.long q2), (.ref o0)]) (lenOf pd_8 rfl) rfl (by show 2 * 0 + _ ≤ _; exact Nat.le_of_eq rfl) (hb hby d12_39) (fun _ _ => ⟨rfl, e4, (by decide : 0 + 0 ≤ _), (by decide : 0 + 0 ≤ _)⟩)
  dsimp only [Pt.U, Pt.locs, Pt.cells, Pt.slots] at X8 l8 y8 z8 st8 hQ8
  subst l8 y8 z8
  obtain ⟨rfl, N8q, e8⟩ := hQ8
  have N8 := Fr.app N4 N8q
  obtain ⟨lc8, X8, N8⟩ := own_gen X8 N8
  refine step (fun t k => st8.trans k) ?_
  show G T8 (mkF m 42 #[.val (.ref o0), .val (.ref o1), .val (.long q2), .second] [(.long (f_mi w_0 w_1 w_2 o1 mm)), (.long q2), (.ref o0)])
  have r9 : (f_mi w_0 w_1 w_2 o1 mm) = mm := rfl
  rw [r9]
  show G T8 (mkF m 42 #[.val (.ref o0), .val (.ref o1), .val (.long q2), .second] [(.long mm), (.long q2), (.ref o0)])
  refine step (fun t k => XS.lsub X8.here hx rfl (hb hby d12_42) rfl k) ?_
  show G T8 (mkF m 43 #[.val (.ref o0), .val (.ref o1), .val (.long q2), .second] [(.long (q2 - mm)), (.ref o0)])
  have hK10 := (backOf (R := rr_cnt_4_0_4_3) (p := p) (e := e) (below := below) (s := s) (args := #[(.ref o0), (.ref o1), (.long q2)]) (len := 3) (W := 0) (rm_for_4_0_4_3 l Z a0 hw [] w_0 w_1 w_2 o0 (q2 - mm) ar ka x0 x1 x2 x3 h0 n0 (own_old_le O0) ST O0 Ex geo Ft gea Fh Fs Va (hp0 : ¬ ((q2 - mm) < x0)) (hp1 : ¬ ((q2 - mm) < x1)) (hp2 : ¬ ((q2 - mm) < x2)) (hp3 : (q2 - mm) < x3)) hZ (ww100 hw) (ww51 hw) (by decide) (by decide))
  obtain ⟨cq10, q10, q10'⟩ := (Ex).cell
  obtain ⟨_, _, ⟨T10, L10, k10, n10⟩, -, X10, ⟨Lc10, hQ10, l10, y10, z10⟩, st10⟩ := X8.privateBack hx (y := y_11) hown (mvT hZ (ww97 hw)) (mvT hZ (ww98 hw)) (own_selpriv hZ (ww99 hw) (ww98 hw) (ww50 hw) (by decide)) (Cond.privateMethod_at (mvP hZ (ww99 hw) (args := #[]))) (mvT hZ (ww100 hw)) (by decide) hK10 (g := (mkF m 43 #[.val (.ref o0), .val (.ref o1), .val (.long q2), .second] [(.long (q2 - mm)), (.ref o0)])) rfl (by rw [hml]; rfl) (Steps.refl _) (a := o0) (by rw [e8]; exact q10) q10' (argsL := [(.long (q2 - mm))]) (rest := []) (lenOf pd_5 rfl) rfl (by show 2 * 0 + _ ≤ _; exact Nat.le_of_eq rfl) (hb hby d12_43) (fun _ _ => ⟨rfl, e8, (by decide : 0 + 0 ≤ _), (by decide : 0 + 0 ≤ _)⟩)
  dsimp only [Pt.U, Pt.locs, Pt.cells, Pt.slots] at X10 l10 y10 z10 st10 hQ10
  subst l10 y10 z10
  obtain ⟨rfl, N10q, K10q, Y10_0, Y10_1, Y10_2, Y10_3⟩ := hQ10
  have N10 := Fr.app N8 N10q
  obtain ⟨lc10, X10, N10⟩ := own_gen X10 N10
  have O10 := O0.keep K10q (allS geo all0)
  have K10 : Keep h0 T10.heap [o0] := K0.trans K10q (allS (Or.inl (List.mem_of_getElem? (i := 0) rfl)) all0)
  refine step (fun t k => st10.trans k) ?_
  show G T10 (mkF m 46 #[.val (.ref o0), .val (.ref o1), .val (.long q2), .second] [])
  refine step (fun t k => XS.goto X10.here hx rfl (pc0 := 46) (pc' := 132) rfl (hb hby d12_46) (by decide) (by decide) k) ?_
  show G T10 (mkF m 132 #[.val (.ref o0), .val (.ref o1), .val (.long q2), .second] [])
  refine step (fun t k => XS.aloadN X10.here hx rfl (hb hby d12_132) rfl rfl k) ?_
  show G T10 (mkF m 133 #[.val (.ref o0), .val (.ref o1), .val (.long q2), .second] [(.ref o0)])
  obtain ⟨T11, X11, e11, st11⟩ := getF X10 hx hZ hown (host := "") (Or.inl (ww64 hw)) Via.refl rfl Y10_3 (g := (mkF m 133 #[.val (.ref o0), .val (.ref o1), .val (.long q2), .second] [(.ref o0)])) rfl rfl (hb hby d12_133)
  refine step st11 ?_
  show G T11 (mkF m 136 #[.val (.ref o0), .val (.ref o1), .val (.long q2), .second] [(.int 1)])
  exact ret (v := some (.int 1)) X11 (fun h => by rw [Bd.returns] at h; cases h) (fun fs hr => retI X11 hx Bd.returns (hb hby d12_136) hr) e11 ⟨rfl, N10, K10, Y10_0, Y10_1, Y10_2, Y10_3⟩ (by decide) (by decide)
abbrev y_15 : MethodName := ⟨cn_3, "law", "(JIIII)Z"⟩
theorem pn_5 : plainName cn_3 = true := by first | (simp [plainName, overriddenIn]; done) | decide +kernel
theorem ef_law (m : MethodId) (q0 : Int64) (p1 : Int32) (p2 : Int32) (p3 : Int32) (p4 : Int32) : entryFrame m #[(.long q0), (.int p1), (.int p2), (.int p3), (.int p4)] maxLocals = mkF m 0 #[.val (.long q0), .second, .val (.int p1), .val (.int p2), .val (.int p3), .val (.int p4), .unset, .unset, .unset, .unset, .unset, .unset, .unset, .unset, .unset, .unset, .unset, .unset, .unset, .unset, .unset, .unset] [] := by first | (simp [entryFrame, mkF, argsToLocals, Value.category, maxLocals]; done) | rfl
def Q_law (Z : State) (w_0 : Addr) (w_1 : Addr) (w_2 : Addr) (q0 : Int64) (p1 : Int32) (p2 : Int32) (p3 : Int32) (p4 : Int32) (h0 : Heap) (n0 : Nat) (v : Option Value) (h : Heap) (L : List Loc) : Prop := v = some (.int 1) ∧ Fr n0 L
set_option maxRecDepth 65536 in
set_option maxHeartbeats 40000000 in
theorem rm_law (l : Launch) (Z : State) (a0 : Array Value) (hw : ∀ d ∈ tables_1, d.before a0 Z = true) (ws : List Jvm.Cond) (w_0 : Addr) (w_1 : Addr) (w_2 : Addr) (q0 : Int64) (p1 : Int32) (p2 : Int32) (p3 : Int32) (p4 : Int32) (h0 : Heap) (n0 : Nat) (Z0 : n0 ≤ h0.size) (ST : own_St Z w_0 w_1 w_2) (O0 : Old Z n0 h0) :
    MetFree l x (head1 (Jvm.Cond.code x code maxLocals ret :: ws) room_1) (fun a U => a = #[(.long q0), (.int p1), (.int p2), (.int p3), (.int p4)] ∧ Z.Warmed39 U.vm ∧ U.heap = h0) (fun _ _ _ _ _ => True) (fun _ U o U' => ∃ v L, o = .returned v ∧ Q_law Z w_0 w_1 w_2 q0 p1 p2 p3 p4 h0 n0 v U'.heap L ∧ ReturnedEndW U o U' L 6 38) := by
  refine MetFree.of_bodySF (plainFor_of_name pn_5) hisR ?_
  intro p e s m args below meth c s₁ Bd hml0 hP hK
  obtain ⟨rfl, hZ, hh⟩ := hP
  have hx := Bd.exec
  have hby := Bd.bytes
  have hml : c.maxLocals = 22 := hml0
  have hown : s.vm.findClass cn_3 = some m.cls := findClass_of_methodNamed Bd.named
  have hnm := (name_of_methodNamed Bd.named Bd.method).1
  have X0 : Stand p l e room_1 (s.setVm s.vm) m #[(.long q0), (.int p1), (.int p2), (.int p3), (.int p4)] below meth c s₁ [] 0 0 := Stand.of_body Bd
  have e0 : s₁.heap = h0 := by rw [← hh, Bd.state]; rfl
  have N0 := Fr.nil n0
  replace hZ : Z.Warmed39 (s.setVm s.vm).vm := hZ
  replace hown : (s.setVm s.vm).vm.findClass cn_3 = some m.cls := hown
  have hS : s.Since s.vm h0.size := (State.WarmedH.refl s).since _
  have hk0 : h0.size ≤ h0.size := Nat.le_refl _
  obtain ⟨G, step, ret, fin⟩ := own_openW (p := p) (l := l) (e := e) (R := room_1) (s := s) (m := m) (args := #[(.long q0), (.int p1), (.int p2), (.int p3), (.int p4)]) (below := below) (meth := meth) (c := c) (6) (38) (Q_law Z w_0 w_1 w_2 q0 p1 p2 p3 p4 h0 n0) Bd.notSynchronized
  refine fin (g := entryFrame m #[(.long q0), (.int p1), (.int p2), (.int p3), (.int p4)] maxLocals) ?_
  rw [ef_law m q0 p1 p2 p3 p4]
  obtain ⟨ls0, hls0⟩  := own_sl #[.val (.long q0), .second, .val (.int p1), .val (.int p2), .val (.int p3), .val (.int p4), .unset, .unset, .unset, .unset, .unset, .unset, .unset, .unset, .unset, .unset, .unset, .unset, .unset, .unset, .unset, .unset]
  suffices hG0 : G s₁ (mkF m 0 ls0 []) by rw [hls0] at hG0; exact hG0
  show G s₁ (mkF m 0 ls0 [])
  refine step (fun t k => XS.lloadN X0.here hx rfl (hb hby at_0) (by rw [hls0]; rfl) k) ?_
  show G s₁ (mkF m 1 ls0 [(.long q0)])
  have q1 := X0.ldc2Long hx hown (mvT hZ (ww0 hw)) (g := (mkF m 1 ls0 [(.long q0)])) rfl (hb hby at_1)
  refine step q1 ?_
  show G s₁ (mkF m 4 ls0 [(.long (-9223372036854775807)), (.long q0)])
  have hK2 := (backOf (R := room_1) (p := p) (e := e) (below := below) (args := #[(.long q0), (.int p1), (.int p2), (.int p3), (.int p4)]) (len := 3) (W := 0) (rm_mx l Z a0 hw [] w_0 w_1 w_2 q0 (-9223372036854775807 : Int64) h0 n0 (own_old_le O0) ST O0) hZ (ww4 hw) (ww3 hw) (by decide) (by decide))
  obtain ⟨_, _, ⟨T2, L2, k2, n2⟩, -, X2, ⟨Lc2, hQ2, l2, y2, z2⟩, st2⟩ := Jvm.LawKit.callS X0 hx (y := y_8) hown (mvT hZ (ww1 hw)) (mvT hZ (ww2 hw)) (mvT hZ (ww3 hw)) (mvT hZ (ww4 hw)) (by decide) hK2 (g := (mkF m 4 ls0 [(.long (-9223372036854775807)), (.long q0)])) rfl (by rw [hml, hls0]; rfl) (argsL := [(.long q0), (.long (-9223372036854775807))]) (rest := []) (lenOf pd_3 rfl) rfl (by show 2 * 0 + _ ≤ _; exact Nat.le_of_eq rfl) (hb hby at_4) (fun _ _ => ⟨rfl, e0, (by decide : 0 + 0 ≤ _), (by decide : 0 + 0 ≤ _)⟩)
  dsimp only [Pt.U, Pt.locs, Pt.cells, Pt.slots] at X2 l2 y2 z2 st2 hQ2
  subst l2 y2 z2
  obtain ⟨rfl, N2q, e2⟩ := hQ2
  have N2 := Fr.app N0 N2q
  obtain ⟨lc2, X2, N2⟩ := own_gen X2 N2
  refine step (fun t k => st2 t k) ?_
  show G T2 (mkF m 7 ls0 [(.long (f_mx w_0 w_1 w_2 q0 (-9223372036854775807 : Int64)))])
  have q3 := X2.ldc2Long hx hown (mvT hZ (ww5 hw)) (g := (mkF m 7 ls0 [(.long (f_mx w_0 w_1 w_2 q0 (-9223372036854775807 : Int64)))])) rfl (hb hby at_7)
  refine step q3 ?_
  show G T2 (mkF m 10 ls0 [(.long 9223372036854773759), (.long (f_mx w_0 w_1 w_2 q0 (-9223372036854775807 : Int64)))])
  have hK4 := (backOf (R := room_1) (p := p) (e := e) (below := below) (args := #[(.long q0), (.int p1), (.int p2), (.int p3), (.int p4)]) (len := 3) (W := 0) (rm_mn l Z a0 hw [] w_0 w_1 w_2 (f_mx w_0 w_1 w_2 q0 (-9223372036854775807 : Int64)) (9223372036854773759 : Int64) h0 n0 (own_old_le O0) ST O0) hZ (ww8 hw) (ww3 hw) (by decide) (by decide))
  obtain ⟨_, _, ⟨T4, L4, k4, n4⟩, -, X4, ⟨Lc4, hQ4, l4, y4, z4⟩, st4⟩ := Jvm.LawKit.callS X2 hx (y := y_9) hown (mvT hZ (ww6 hw)) (mvT hZ (ww7 hw)) (mvT hZ (ww3 hw)) (mvT hZ (ww8 hw)) (by decide) hK4 (g := (mkF m 10 ls0 [(.long 9223372036854773759), (.long (f_mx w_0 w_1 w_2 q0 (-9223372036854775807 : Int64)))])) rfl (by rw [hml, hls0]; rfl) (argsL := [(.long (f_mx w_0 w_1 w_2 q0 (-9223372036854775807 : Int64))), (.long 9223372036854773759)]) (rest := []) (lenOf pd_3 rfl) rfl (by show 2 * 0 + _ ≤ _; exact Nat.le_of_eq rfl) (hb hby at_10) (fun _ _ => ⟨rfl, e2, (by decide : 0 + 0 ≤ _), (by decide : 0 + 0 ≤ _)⟩)
  dsimp only [Pt.U, Pt.locs, Pt.cells, Pt.slots] at X4 l4 y4 z4 st4 hQ4
  subst l4 y4 z4
  obtain ⟨rfl, N4q, e4⟩ := hQ4
  have N4 := Fr.app N2 N4q
  obtain ⟨lc4, X4, N4⟩ := own_gen X4 N4
  refine step (fun t k => st4 t k) ?_
  show G T4 (mkF m 13 ls0 [(.long (f_mn w_0 w_1 w_2 (f_mx w_0 w_1 w_2 q0 (-9223372036854775807 : Int64)) (9223372036854773759 : Int64)))])
  obtain ⟨ls5, hls5⟩  := own_sl #[.val (.long q0), .second, .val (.int p1), .val (.int p2), .val (.int p3), .val (.int p4), .val (.long (f_mn w_0 w_1 w_2 (f_mx w_0 w_1 w_2 q0 (-9223372036854775807 : Int64)) (9223372036854773759 : Int64))), .second, .unset, .unset, .unset, .unset, .unset, .unset, .unset, .unset, .unset, .unset, .unset, .unset, .unset, .unset]
  refine step (fun t k => XS.lstore X4.here hx rfl (hb hby at_13) rfl (l' := ls5) (by rw [hls0, hls5]; rfl) k) ?_
  show G T4 (mkF m 15 ls5 [])
  obtain ⟨bb, hbb⟩ : ∃ z : Int64, z = (f_mn w_0 w_1 w_2 (f_mx w_0 w_1 w_2 q0 (-9223372036854775807 : Int64)) (9223372036854773759 : Int64)) := ⟨_, rfl⟩
  obtain ⟨ls6, hls6⟩  := own_sl #[.val (.long q0), .second, .val (.int p1), .val (.int p2), .val (.int p3), .val (.int p4), .val (.long bb), .second, .unset, .unset, .unset, .unset, .unset, .unset, .unset, .unset, .unset, .unset, .unset, .unset, .unset, .unset]
  rw [show ls5 = ls6 from by rw [hls5, hls6, hbb]]
  show G T4 (mkF m 15 ls6 [])
  have hbb1 := own_base hbb
  have tB0 : bb.toInt = bb.toInt + 0 * (0 : Int) := by rw [Int.zero_mul, Int.add_zero]
  refine step (fun t k => XS.iloadN X4.here hx rfl (hb hby at_15) (by rw [hls6]; rfl) k) ?_
  show G T4 (mkF m 16 ls6 [(.int p1)])
  refine step (fun t k => XS.sipush X4.here hx rfl (hb hby at_16) k) ?_
  show G T4 (mkF m 19 ls6 [(.int 255), (.int p1)])
  refine step (fun t k => XS.iand X4.here hx rfl (hb hby at_19) rfl k) ?_
  show G T4 (mkF m 20 ls6 [(.int (p1 &&& (255 : Int32)))])
  refine step (fun t k => XS.iconst X4.here hx rfl (hb hby at_20) k) ?_
  show G T4 (mkF m 21 ls6 [(.int 1), (.int (p1 &&& (255 : Int32)))])
  refine step (fun t k => XS.iadd X4.here hx rfl (hb hby at_21) rfl k) ?_
  show G T4 (mkF m 22 ls6 [(.int ((p1 &&& (255 : Int32)) + (1 : Int32)))])
  refine step (fun t k => XS.i2l X4.here hx rfl (hb hby at_22) rfl k) ?_
  show G T4 (mkF m 23 ls6 [(.long (((p1 &&& (255 : Int32)) + (1 : Int32)).toInt64))])
  obtain ⟨ls7, hls7⟩  := own_sl #[.val (.long q0), .second, .val (.int p1), .val (.int p2), .val (.int p3), .val (.int p4), .val (.long bb), .second, .val (.long (((p1 &&& (255 : Int32)) + (1 : Int32)).toInt64)), .second, .unset, .unset, .unset, .unset, .unset, .unset, .unset, .unset, .unset, .unset, .unset, .unset]
  refine step (fun t k => XS.lstore X4.here hx rfl (hb hby at_23) rfl (l' := ls7) (by rw [hls6, hls7]; rfl) k) ?_
  show G T4 (mkF m 25 ls7 [])
  obtain ⟨sp, hsp⟩ : ∃ z : Int64, z = (((p1 &&& (255 : Int32)) + (1 : Int32)).toInt64) := ⟨_, rfl⟩
  obtain ⟨ls8, hls8⟩  := own_sl #[.val (.long q0), .second, .val (.int p1), .val (.int p2), .val (.int p3), .val (.int p4), .val (.long bb), .second, .val (.long sp), .second, .unset, .unset, .unset, .unset, .unset, .unset, .unset, .unset, .unset, .unset, .unset, .unset]
  rw [show ls7 = ls8 from by rw [hls7, hls8, hsp]]
  show G T4 (mkF m 25 ls8 [])
  have hsp1 := own_step hsp
  replace tB0 : bb.toInt = bb.toInt + 0 * sp.toInt := by rw [Int.zero_mul, Int.add_zero]
  have hq0 : bb = (bb + ((0 : Int64) * sp)) := by rw [Int64.zero_mul, Int64.add_zero]
  refine step (fun t k => XS.iloadN X4.here hx rfl (hb hby at_25) (by rw [hls8]; rfl) k) ?_
  show G T4 (mkF m 26 ls8 [(.int p2)])
  refine step (fun t k => XS.iconst X4.here hx rfl (hb hby at_26) k) ?_
  show G T4 (mkF m 27 ls8 [(.int 3), (.int p2)])
  refine step (fun t k => XS.iand X4.here hx rfl (hb hby at_27) rfl k) ?_
  show G T4 (mkF m 28 ls8 [(.int (p2 &&& (3 : Int32)))])
  obtain ⟨ls9, hls9⟩  := own_sl #[.val (.long q0), .second, .val (.int p1), .val (.int p2), .val (.int p3), .val (.int p4), .val (.long bb), .second, .val (.long sp), .second, .val (.int (p2 &&& (3 : Int32))), .unset, .unset, .unset, .unset, .unset, .unset, .unset, .unset, .unset, .unset, .unset]
  refine step (fun t k => XS.istore X4.here hx rfl (hb hby at_28) rfl (l' := ls9) (by rw [hls8, hls9]; rfl) k) ?_
  show G T4 (mkF m 30 ls9 [])
  refine step (fun t k => XS.iload X4.here hx rfl (hb hby at_30) (by rw [hls9]; rfl) k) ?_
  show G T4 (mkF m 32 ls9 [(.int p3)])
  refine step (fun t k => XS.iconst X4.here hx rfl (hb hby at_32) k) ?_
  show G T4 (mkF m 33 ls9 [(.int 3), (.int p3)])
  refine step (fun t k => XS.iand X4.here hx rfl (hb hby at_33) rfl k) ?_
  show G T4 (mkF m 34 ls9 [(.int (p3 &&& (3 : Int32)))])
  obtain ⟨ls10, hls10⟩  := own_sl #[.val (.long q0), .second, .val (.int p1), .val (.int p2), .val (.int p3), .val (.int p4), .val (.long bb), .second, .val (.long sp), .second, .val (.int (p2 &&& (3 : Int32))), .val (.int (p3 &&& (3 : Int32))), .unset, .unset, .unset, .unset, .unset, .unset, .unset, .unset, .unset, .unset]
  refine step (fun t k => XS.istore X4.here hx rfl (hb hby at_34) rfl (l' := ls10) (by rw [hls9, hls10]; rfl) k) ?_
  show G T4 (mkF m 36 ls10 [])
  refine step (fun t k => XS.lconst X4.here hx rfl (hb hby at_36) k) ?_
  show G T4 (mkF m 37 ls10 [(.long 1)])
  have hK11 := (backOfS (R := room_1) (p := p) (e := e) (below := below) (args := #[(.long q0), (.int p1), (.int p2), (.int p3), (.int p4)]) (len := 3) (W := 0) (rm_sl l Z a0 hw [] w_0 w_1 w_2 (1 : Int64) h0 n0 (own_old_le O0) ST O0 ((by decide) : (0 : Int64) < (1 : Int64))) hZ (ww12 hw) (ww11 hw) (by decide) (by decide))
  obtain ⟨_, _, ⟨T11, L11, k11, n11⟩, -, X11, hS11, hg11, ⟨Lc11, hQ11, l11, y11, z11⟩, st11⟩ := callSS X4 hx (y := y_3) hown (mvT hZ (ww9 hw)) (mvT hZ (ww10 hw)) (mvT hZ (ww11 hw)) (mvT hZ (ww12 hw)) (by decide) hK11 (g := (mkF m 37 ls10 [(.long 1)])) rfl (by rw [hml, hls10]; rfl) (argsL := [(.long 1)]) (rest := []) (lenOf pd_4 rfl) rfl (by show 2 * 0 + _ ≤ _; exact Nat.le_of_eq rfl) (hb hby at_37) (fun _ _ => ⟨rfl, e4, (by decide : 0 + 3 ≤ _), (by decide : 0 + 23 ≤ _)⟩)
  dsimp only [Pt.U, Pt.locs, Pt.cells, Pt.slots] at X11 l11 y11 z11 st11 hQ11 hS11 hg11
  subst l11 y11 z11
  obtain ⟨X11, hS, hZ, hown⟩ := rebS (s := s) hS (by rw [e4]; exact hk0) X11 hS11 hg11 hZ hown
  obtain ⟨b11, rfl, N11q, K11q, Y11_0, Y11_1, Y11_2, Y11_3⟩ := hQ11
  have N11 := Fr.app N4 N11q
  obtain ⟨lc11, X11, N11⟩ := own_gen X11 N11
  have O11 := O0.keep K11q all0
  have ge_b11 : n0 ≤ b11 := Nat.le_trans (own_old_le O0) Y11_0
  have hk11 : _ ≤ T11.heap.size := Nat.le_refl _
  refine step (fun t k => st11.trans k) ?_
  show G T11 (mkF m 40 ls10 [(.ref b11)])
  obtain ⟨ls12, hls12⟩  := own_sl #[.val (.long q0), .second, .val (.int p1), .val (.int p2), .val (.int p3), .val (.int p4), .val (.long bb), .second, .val (.long sp), .second, .val (.int (p2 &&& (3 : Int32))), .val (.int (p3 &&& (3 : Int32))), .val (.ref b11), .unset, .unset, .unset, .unset, .unset, .unset, .unset, .unset, .unset]
  refine step (fun t k => XS.astore X11.here hx rfl (hb hby at_40) rfl rfl (l' := ls12) (by rw [hls10, hls12]; rfl) k) ?_
  show G T11 (mkF m 42 ls12 [])
  obtain ⟨T13, h13, X13, e13, E13, A13, D13, -, st13⟩ := newO X11 hx hZ hown (ww49 hw) (ww50 hw) (ww51 hw) rfl (g := (mkF m 42 ls12 [])) rfl (hb hby at_42) (by decide) (by decide)
  obtain ⟨b13, g13⟩ : ∃ z, z = T11.heap.size := ⟨_, rfl⟩
  rw [← g13] at A13 D13 st13
  have ge_b13 : n0 ≤ b13 := Nat.le_trans (own_old_le O11) (Nat.le_of_eq g13.symm)
  have lt_b11_b13 : b11 < b13 := Nat.lt_of_lt_of_le Y11_1.lt (Nat.le_of_eq g13.symm)
  have O13 := O11.ext E13
  have hk13 := Nat.le_trans hk11 E13.1
  have F13_times : Fld Z h13 b13 cn_0 "times" "[J" .null := D13 (Or.inl (ww58 hw)) (ty := (.array .long)) (by decide)
  have F13_size : Fld Z h13 b13 cn_0 "size" "I" (.int 0) := D13 (Or.inl (ww65 hw)) (ty := .int) (by decide)
  have F13_head : Fld Z h13 b13 cn_0 "head" "I" (.int 0) := D13 (Or.inl (ww67 hw)) (ty := .int) (by decide)
  refine step st13 ?_
  show G T13 (mkF m 45 ls12 [(.ref b13)])
  refine step (fun t k => XS.dup X13.here hx rfl (hb hby at_45) rfl rfl k) ?_
  show G T13 (mkF m 46 ls12 [(.ref b13), (.ref b13)])
  have hK14 := (backOf (R := room_1) (p := p) (e := e) (below := below) (args := #[(.long q0), (.int p1), (.int p2), (.int p3), (.int p4)]) (len := 3) (W := 1) (rm_at l Z a0 hw [] w_0 w_1 w_2 b13 h13 n0 (own_old_le O13) ST O13 A13 ge_b13 F13_times F13_head F13_size) hZ (ww54 hw) (ww51 hw) (by decide) (by decide))
  obtain ⟨_, _, ⟨T14, L14, k14, n14⟩, -, X14, ⟨Lc14, hQ14, l14, y14, z14⟩, st14⟩ := X13.specialBack hx (y := y_4) rfl hown (mvT hZ (ww52 hw)) (mvT hZ (ww53 hw)) (mvT hZ (ww54 hw)) (by decide) hK14 (g := (mkF m 46 ls12 [(.ref b13), (.ref b13)])) rfl (by rw [hml, hls12]; rfl) (Steps.refl _) (a := b13) (argsL := []) (rest := [(.ref b13)]) (lenOf pd_0 rfl) rfl (by show 2 * 0 + _ ≤ _; exact Nat.le_of_eq rfl) (hb hby at_46) (fun _ _ => ⟨rfl, e13, (by decide : 4 + 1 ≤ _), (by decide : 26 + 4 ≤ _)⟩)
  dsimp only [Pt.U, Pt.locs, Pt.cells, Pt.slots] at X14 l14 y14 z14 st14 hQ14
  subst l14 y14 z14
  have f15 := (Exa.ext E13 Y11_1)
  obtain ⟨b14, kb_14, rfl, N14q, K14q, Y14_0, Y14_1, Y14_2, Y14_3, Y14_4, Y14_5⟩ := hQ14
  have N14 := Fr.app N11 N14q
  obtain ⟨lc14, X14, N14⟩ := own_gen X14 N14
  have O14 := O13.keep K14q (allS ge_b13 all0)
  have ge_b14 : n0 ≤ b14 := Nat.le_trans (own_old_le O13) Y14_0
  have lt_b11_b14 : b11 < b14 := Nat.lt_of_lt_of_le f15.lt Y14_0
  have lt_b13_b14 : b13 < b14 := Nat.lt_of_lt_of_le A13.lt Y14_0
  have hk14 : _ ≤ T14.heap.size := Nat.le_trans hk13 K14q.1
  refine step (fun t k => st14.trans k) ?_
  show G T14 (mkF m 49 ls12 [(.ref b13)])
  obtain ⟨ls16, hls16⟩  := own_sl #[.val (.long q0), .second, .val (.int p1), .val (.int p2), .val (.int p3), .val (.int p4), .val (.long bb), .second, .val (.long sp), .second, .val (.int (p2 &&& (3 : Int32))), .val (.int (p3 &&& (3 : Int32))), .val (.ref b11), .val (.ref b13), .unset, .unset, .unset, .unset, .unset, .unset, .unset, .unset]
  refine step (fun t k => XS.astore X14.here hx rfl (hb hby at_49) rfl rfl (l' := ls16) (by rw [hls12, hls16]; rfl) k) ?_
  show G T14 (mkF m 51 ls16 [])
  refine step (fun t k => XS.aload X14.here hx rfl (hb hby at_51) (by rw [hls16]; rfl) rfl k) ?_
  show G T14 (mkF m 53 ls16 [(.ref b13)])
  refine step (fun t k => XS.lload X14.here hx rfl (hb hby at_53) (by rw [hls16]; rfl) k) ?_
  show G T14 (mkF m 55 ls16 [(.long bb), (.ref b13)])
  have hK17 := (backOf (R := room_1) (p := p) (e := e) (below := below) (args := #[(.long q0), (.int p1), (.int p2), (.int p3), (.int p4)]) (len := 3) (W := 0) (rm_add_4_0 l Z a0 hw [] w_0 w_1 w_2 b13 bb b14 kb_14 (0 : Int64) (0 : Int64) (0 : Int64) (0 : Int64) (0 : Int32) (0 : Int32) (1 : Int32) T14.heap n0 (own_old_le O14) ST O14 Y14_1 ge_b13 Y14_2 ge_b14 Y14_3 Y14_4 Y14_5 (by decide : ¬ ((0 : Int32) = (4 : Int32))) (by decide : ((0 : Int32) + (1 : Int32)) = (1 : Int32)) (by decide : (((0 : Int32) + (0 : Int32)) % (4 : Int32)) = (0 : Int32))) hZ (ww63 hw) (ww51 hw) (by decide) (by decide))
  obtain ⟨cq17, kq17, q17a, q17b, q17c⟩ := isOf hZ rfl Y14_1
  obtain ⟨_, _, ⟨T17, L17, k17, n17⟩, -, X17, ⟨Lc17, hQ17, l17, y17, z17⟩, st17⟩ := X14.virtualBack hx (y := y_10) (z := y_10) hown (mvT hZ (ww59 hw)) (mvT hZ (ww60 hw)) (notFace_of_selects (args := #[]) (mvT hZ (ww62 hw))) (mvT hZ (ww62 hw)) (mvT hZ (ww61 hw)) (by decide) hK17 q17a q17c (g := (mkF m 55 ls16 [(.long bb), (.ref b13)])) rfl (by rw [hml, hls16]; rfl) (Steps.refl _) (argsL := [(.long bb)]) (rest := []) (lenOf pd_5 rfl) rfl (by show 2 * 0 + _ ≤ _; exact Nat.le_of_eq rfl) (hb hby at_55) (fun _ _ => ⟨rfl, rfl, (by decide : 5 + 0 ≤ _), (by decide : 30 + 0 ≤ _)⟩)
  dsimp only [Pt.U, Pt.locs, Pt.cells, Pt.slots] at X17 l17 y17 z17 st17 hQ17
  subst l17 y17 z17
  obtain ⟨rfl, N17q, K17q, Y17_0, Y17_1, Y17_2, Y17_3, Y17_4⟩ := hQ17
  have N17 := Fr.app N14 N17q
  obtain ⟨lc17, X17, N17⟩ := own_gen X17 N17
  have O17 := O14.keep K17q (allS ge_b13 (allS ge_b14 all0))
  have hk17 : _ ≤ T17.heap.size := Nat.le_trans hk14 K17q.1
  refine step (fun t k => st17.trans k) ?_
  show G T17 (mkF m 58 ls16 [])
  refine step (fun t k => XS.aload X17.here hx rfl (hb hby at_58) (by rw [hls16]; rfl) rfl k) ?_
  show G T17 (mkF m 60 ls16 [(.ref b13)])
  refine step (fun t k => XS.lload X17.here hx rfl (hb hby at_60) (by rw [hls16]; rfl) k) ?_
  show G T17 (mkF m 62 ls16 [(.long bb), (.ref b13)])
  refine step (fun t k => XS.lload X17.here hx rfl (hb hby at_62) (by rw [hls16]; rfl) k) ?_
  show G T17 (mkF m 64 ls16 [(.long sp), (.long bb), (.ref b13)])
  refine step (fun t k => XS.ladd X17.here hx rfl (hb hby at_64) rfl k) ?_
  show G T17 (mkF m 65 ls16 [(.long (bb + sp)), (.ref b13)])
  obtain ⟨B1, hB1⟩ : ∃ z : Int64, z = (bb + sp) := ⟨_, rfl⟩
  rw [← hB1]
  show G T17 (mkF m 65 ls16 [(.long B1), (.ref b13)])
  have tB1 := own_B1 hbb1 hsp1 hB1
  have hq1 : B1 = (bb + ((1 : Int64) * sp)) := by rw [Int64.one_mul]; exact hB1
  have hK18 := (backOf (R := room_1) (p := p) (e := e) (below := below) (args := #[(.long q0), (.int p1), (.int p2), (.int p3), (.int p4)]) (len := 3) (W := 0) (rm_add_4_1 l Z a0 hw [] w_0 w_1 w_2 b13 B1 b14 kb_14 bb (0 : Int64) (0 : Int64) (0 : Int64) (0 : Int32) (1 : Int32) (2 : Int32) T17.heap n0 (own_old_le O17) ST O17 Y17_0 ge_b13 Y17_1 ge_b14 Y17_2 Y17_3 Y17_4 (by decide : ¬ ((1 : Int32) = (4 : Int32))) (by decide : ((1 : Int32) + (1 : Int32)) = (2 : Int32)) (by decide : (((0 : Int32) + (1 : Int32)) % (4 : Int32)) = (1 : Int32))) hZ (ww63 hw) (ww51 hw) (by decide) (by decide))
  obtain ⟨cq18, kq18, q18a, q18b, q18c⟩ := isOf hZ rfl Y17_0
  obtain ⟨_, _, ⟨T18, L18, k18, n18⟩, -, X18, ⟨Lc18, hQ18, l18, y18, z18⟩, st18⟩ := X17.virtualBack hx (y := y_10) (z := y_10) hown (mvT hZ (ww59 hw)) (mvT hZ (ww60 hw)) (notFace_of_selects (args := #[]) (mvT hZ (ww62 hw))) (mvT hZ (ww62 hw)) (mvT hZ (ww61 hw)) (by decide) hK18 q18a q18c (g := (mkF m 65 ls16 [(.long B1), (.ref b13)])) rfl (by rw [hml, hls16]; rfl) (Steps.refl _) (argsL := [(.long B1)]) (rest := []) (lenOf pd_5 rfl) rfl (by show 2 * 0 + _ ≤ _; exact Nat.le_of_eq rfl) (hb hby at_65) (fun _ _ => ⟨rfl, rfl, (by decide : 5 + 0 ≤ _), (by decide : 30 + 0 ≤ _)⟩)
  dsimp only [Pt.U, Pt.locs, Pt.cells, Pt.slots] at X18 l18 y18 z18 st18 hQ18
  subst l18 y18 z18
  obtain ⟨rfl, N18q, K18q, Y18_0, Y18_1, Y18_2, Y18_3, Y18_4⟩ := hQ18
  have N18 := Fr.app N17 N18q
  obtain ⟨lc18, X18, N18⟩ := own_gen X18 N18
  have O18 := O17.keep K18q (allS ge_b13 (allS ge_b14 all0))
  have hk18 : _ ≤ T18.heap.size := Nat.le_trans hk17 K18q.1
  refine step (fun t k => st18.trans k) ?_
  show G T18 (mkF m 68 ls16 [])
  refine step (fun t k => XS.aload X18.here hx rfl (hb hby at_68) (by rw [hls16]; rfl) rfl k) ?_
  show G T18 (mkF m 70 ls16 [(.ref b13)])
  refine step (fun t k => XS.lload X18.here hx rfl (hb hby at_70) (by rw [hls16]; rfl) k) ?_
  show G T18 (mkF m 72 ls16 [(.long bb), (.ref b13)])
  have q19 := X18.ldc2Long hx hown (mvT hZ (ww68 hw)) (g := (mkF m 72 ls16 [(.long bb), (.ref b13)])) rfl (hb hby at_72)
  refine step q19 ?_
  show G T18 (mkF m 75 ls16 [(.long 2), (.long bb), (.ref b13)])
  refine step (fun t k => XS.lload X18.here hx rfl (hb hby at_75) (by rw [hls16]; rfl) k) ?_
  show G T18 (mkF m 77 ls16 [(.long sp), (.long 2), (.long bb), (.ref b13)])
  refine step (fun t k => XS.lmul X18.here hx rfl (hb hby at_77) rfl k) ?_
  show G T18 (mkF m 78 ls16 [(.long ((2 : Int64) * sp)), (.long bb), (.ref b13)])
  refine step (fun t k => XS.ladd X18.here hx rfl (hb hby at_78) rfl k) ?_
  show G T18 (mkF m 79 ls16 [(.long (bb + ((2 : Int64) * sp))), (.ref b13)])
  obtain ⟨B2, hB2⟩ : ∃ z : Int64, z = (bb + ((2 : Int64) * sp)) := ⟨_, rfl⟩
  rw [← hB2]
  show G T18 (mkF m 79 ls16 [(.long B2), (.ref b13)])
  have tB2 := own_B (2 : Int64) 2 (by decide) (by decide) (by decide) hbb1 hsp1 hB2
  have hq2 := hB2
  have hK20 := (backOf (R := room_1) (p := p) (e := e) (below := below) (args := #[(.long q0), (.int p1), (.int p2), (.int p3), (.int p4)]) (len := 3) (W := 0) (rm_add_4_2 l Z a0 hw [] w_0 w_1 w_2 b13 B2 b14 kb_14 bb B1 (0 : Int64) (0 : Int64) (0 : Int32) (2 : Int32) (3 : Int32) T18.heap n0 (own_old_le O18) ST O18 Y18_0 ge_b13 Y18_1 ge_b14 Y18_2 Y18_3 Y18_4 (by decide : ¬ ((2 : Int32) = (4 : Int32))) (by decide : ((2 : Int32) + (1 : Int32)) = (3 : Int32)) (by decide : (((0 : Int32) + (2 : Int32)) % (4 : Int32)) = (2 : Int32))) hZ (ww63 hw) (ww51 hw) (by decide) (by decide))
  obtain ⟨cq20, kq20, q20a, q20b, q20c⟩ := isOf hZ rfl Y18_0
  obtain ⟨_, _, ⟨T20, L20, k20, n20⟩, -, X20, ⟨Lc20, hQ20, l20, y20, z20⟩, st20⟩ := X18.virtualBack hx (y := y_10) (z := y_10) hown (mvT hZ (ww59 hw)) (mvT hZ (ww60 hw)) (notFace_of_selects (args := #[]) (mvT hZ (ww62 hw))) (mvT hZ (ww62 hw)) (mvT hZ (ww61 hw)) (by decide) hK20 q20a q20c (g := (mkF m 79 ls16 [(.long B2), (.ref b13)])) rfl (by rw [hml, hls16]; rfl) (Steps.refl _) (argsL := [(.long B2)]) (rest := []) (lenOf pd_5 rfl) rfl (by show 2 * 0 + _ ≤ _; exact Nat.le_of_eq rfl) (hb hby at_79) (fun _ _ => ⟨rfl, rfl, (by decide : 5 + 0 ≤ _), (by decide : 30 + 0 ≤ _)⟩)
  dsimp only [Pt.U, Pt.locs, Pt.cells, Pt.slots] at X20 l20 y20 z20 st20 hQ20
  subst l20 y20 z20
  obtain ⟨rfl, N20q, K20q, Y20_0, Y20_1, Y20_2, Y20_3, Y20_4⟩ := hQ20
  have N20 := Fr.app N18 N20q
  obtain ⟨lc20, X20, N20⟩ := own_gen X20 N20
  have O20 := O18.keep K20q (allS ge_b13 (allS ge_b14 all0))
  have hk20 : _ ≤ T20.heap.size := Nat.le_trans hk18 K20q.1
  refine step (fun t k => st20.trans k) ?_
  show G T20 (mkF m 82 ls16 [])
  refine step (fun t k => XS.aload X20.here hx rfl (hb hby at_82) (by rw [hls16]; rfl) rfl k) ?_
  show G T20 (mkF m 84 ls16 [(.ref b13)])
  refine step (fun t k => XS.lload X20.here hx rfl (hb hby at_84) (by rw [hls16]; rfl) k) ?_
  show G T20 (mkF m 86 ls16 [(.long bb), (.ref b13)])
  have q21 := X20.ldc2Long hx hown (mvT hZ (ww69 hw)) (g := (mkF m 86 ls16 [(.long bb), (.ref b13)])) rfl (hb hby at_86)
  refine step q21 ?_
  show G T20 (mkF m 89 ls16 [(.long 3), (.long bb), (.ref b13)])
  refine step (fun t k => XS.lload X20.here hx rfl (hb hby at_89) (by rw [hls16]; rfl) k) ?_
  show G T20 (mkF m 91 ls16 [(.long sp), (.long 3), (.long bb), (.ref b13)])
  refine step (fun t k => XS.lmul X20.here hx rfl (hb hby at_91) rfl k) ?_
  show G T20 (mkF m 92 ls16 [(.long ((3 : Int64) * sp)), (.long bb), (.ref b13)])
  refine step (fun t k => XS.ladd X20.here hx rfl (hb hby at_92) rfl k) ?_
  show G T20 (mkF m 93 ls16 [(.long (bb + ((3 : Int64) * sp))), (.ref b13)])
  obtain ⟨B3, hB3⟩ : ∃ z : Int64, z = (bb + ((3 : Int64) * sp)) := ⟨_, rfl⟩
  rw [← hB3]
  show G T20 (mkF m 93 ls16 [(.long B3), (.ref b13)])
  have tB3 := own_B (3 : Int64) 3 (by decide) (by decide) (by decide) hbb1 hsp1 hB3
  have hq3 := hB3
  have hK22 := (backOf (R := room_1) (p := p) (e := e) (below := below) (args := #[(.long q0), (.int p1), (.int p2), (.int p3), (.int p4)]) (len := 3) (W := 0) (rm_add_4_3 l Z a0 hw [] w_0 w_1 w_2 b13 B3 b14 kb_14 bb B1 B2 (0 : Int64) (0 : Int32) (3 : Int32) (4 : Int32) T20.heap n0 (own_old_le O20) ST O20 Y20_0 ge_b13 Y20_1 ge_b14 Y20_2 Y20_3 Y20_4 (by decide : ¬ ((3 : Int32) = (4 : Int32))) (by decide : ((3 : Int32) + (1 : Int32)) = (4 : Int32)) (by decide : (((0 : Int32) + (3 : Int32)) % (4 : Int32)) = (3 : Int32))) hZ (ww63 hw) (ww51 hw) (by decide) (by decide))
  obtain ⟨cq22, kq22, q22a, q22b, q22c⟩ := isOf hZ rfl Y20_0
  obtain ⟨_, _, ⟨T22, L22, k22, n22⟩, -, X22, ⟨Lc22, hQ22, l22, y22, z22⟩, st22⟩ := X20.virtualBack hx (y := y_10) (z := y_10) hown (mvT hZ (ww59 hw)) (mvT hZ (ww60 hw)) (notFace_of_selects (args := #[]) (mvT hZ (ww62 hw))) (mvT hZ (ww62 hw)) (mvT hZ (ww61 hw)) (by decide) hK22 q22a q22c (g := (mkF m 93 ls16 [(.long B3), (.ref b13)])) rfl (by rw [hml, hls16]; rfl) (Steps.refl _) (argsL := [(.long B3)]) (rest := []) (lenOf pd_5 rfl) rfl (by show 2 * 0 + _ ≤ _; exact Nat.le_of_eq rfl) (hb hby at_93) (fun _ _ => ⟨rfl, rfl, (by decide : 5 + 0 ≤ _), (by decide : 30 + 0 ≤ _)⟩)
  dsimp only [Pt.U, Pt.locs, Pt.cells, Pt.slots] at X22 l22 y22 z22 st22 hQ22
  subst l22 y22 z22
  obtain ⟨rfl, N22q, K22q, Y22_0, Y22_1, Y22_2, Y22_3, Y22_4⟩ := hQ22
  have N22 := Fr.app N20 N22q
  obtain ⟨lc22, X22, N22⟩ := own_gen X22 N22
  have O22 := O20.keep K22q (allS ge_b13 (allS ge_b14 all0))
  have hk22 : _ ≤ T22.heap.size := Nat.le_trans hk20 K22q.1
  refine step (fun t k => st22.trans k) ?_
  show G T22 (mkF m 96 ls16 [])
  rcases own_k4 p2 with hkk | hkk | hkk | hkk
  · skip
    obtain ⟨ls23, hls23⟩  := own_sl #[.val (.long q0), .second, .val (.int p1), .val (.int p2), .val (.int p3), .val (.int p4), .val (.long bb), .second, .val (.long sp), .second, .val (.int 0), .val (.int (p3 &&& (3 : Int32))), .val (.ref b11), .val (.ref b13), .unset, .unset, .unset, .unset, .unset, .unset, .unset, .unset]
    rw [show ls16 = ls23 from by rw [hls16, hls23, hkk]]
    show G T22 (mkF m 96 ls23 [])
    refine step (fun t k => XS.lload X22.here hx rfl (hb hby at_96) (by rw [hls23]; rfl) k) ?_
    show G T22 (mkF m 98 ls23 [(.long bb)])
    refine step (fun t k => XS.iload X22.here hx rfl (hb hby at_98) (by rw [hls23]; rfl) k) ?_
    show G T22 (mkF m 100 ls23 [(.int 0), (.long bb)])
    refine step (fun t k => XS.i2l X22.here hx rfl (hb hby at_100) rfl k) ?_
    show G T22 (mkF m 101 ls23 [(.long ((0 : Int32).toInt64)), (.long bb)])
    rw [(by decide : ((0 : Int32).toInt64) = (0 : Int64))]
    show G T22 (mkF m 101 ls23 [(.long 0), (.long bb)])
    refine step (fun t k => XS.lload X22.here hx rfl (hb hby at_101) (by rw [hls23]; rfl) k) ?_
    show G T22 (mkF m 103 ls23 [(.long sp), (.long 0), (.long bb)])
    refine step (fun t k => XS.lmul X22.here hx rfl (hb hby at_103) rfl k) ?_
    show G T22 (mkF m 104 ls23 [(.long ((0 : Int64) * sp)), (.long bb)])
    refine step (fun t k => XS.ladd X22.here hx rfl (hb hby at_104) rfl k) ?_
    show G T22 (mkF m 105 ls23 [(.long (bb + ((0 : Int64) * sp)))])
    obtain ⟨ls24, hls24⟩  := own_sl #[.val (.long q0), .second, .val (.int p1), .val (.int p2), .val (.int p3), .val (.int p4), .val (.long bb), .second, .val (.long sp), .second, .val (.int 0), .val (.int (p3 &&& (3 : Int32))), .val (.ref b11), .val (.ref b13), .val (.long (bb + ((0 : Int64) * sp))), .second, .unset, .unset, .unset, .unset, .unset, .unset]
    refine step (fun t k => XS.lstore X22.here hx rfl (hb hby at_105) rfl (l' := ls24) (by rw [hls23, hls24]; rfl) k) ?_
    show G T22 (mkF m 107 ls24 [])
    obtain ⟨nw, hnw⟩ : ∃ z : Int64, z = (bb + ((0 : Int64) * sp)) := ⟨_, rfl⟩
    obtain ⟨ls25, hls25⟩  := own_sl #[.val (.long q0), .second, .val (.int p1), .val (.int p2), .val (.int p3), .val (.int p4), .val (.long bb), .second, .val (.long sp), .second, .val (.int 0), .val (.int (p3 &&& (3 : Int32))), .val (.ref b11), .val (.ref b13), .val (.long nw), .second, .unset, .unset, .unset, .unset, .unset, .unset]
    rw [show ls24 = ls25 from by rw [hls24, hls25, hnw]]
    show G T22 (mkF m 107 ls25 [])
    have tnw := own_B (0 : Int64) 0 (by decide) (by decide) (by decide) hbb1 hsp1 hnw
    have tnw1 := own_nw1 (by decide) (by decide) hbb1 hsp1 tnw
    refine step (fun t k => XS.aload X22.here hx rfl (hb hby at_107) (by rw [hls25]; rfl) rfl k) ?_
    show G T22 (mkF m 109 ls25 [(.ref b13)])
    refine step (fun t k => XS.aload X22.here hx rfl (hb hby at_109) (by rw [hls25]; rfl) rfl k) ?_
    show G T22 (mkF m 111 ls25 [(.ref b11), (.ref b13)])
    refine step (fun t k => XS.lload X22.here hx rfl (hb hby at_111) (by rw [hls25]; rfl) k) ?_
    show G T22 (mkF m 113 ls25 [(.long nw), (.ref b11), (.ref b13)])
    have f27 := (Exa.keep (Exa.keep (Exa.keep (Exa.keep (Exa.keep f15 K14q) K17q) K18q) K20q) K22q)
    have f28 := (Fld.keep (Fld.keep (Fld.keep (Fld.keep (Fld.keep (Fld.ext E13 Y11_2) K14q (ninS (Nat.ne_of_lt lt_b11_b13) nin0)) K17q (ninS (Nat.ne_of_lt lt_b11_b13) (ninS (Nat.ne_of_lt lt_b11_b14) nin0))) K18q (ninS (Nat.ne_of_lt lt_b11_b13) (ninS (Nat.ne_of_lt lt_b11_b14) nin0))) K20q (ninS (Nat.ne_of_lt lt_b11_b13) (ninS (Nat.ne_of_lt lt_b11_b14) nin0))) K22q (ninS (Nat.ne_of_lt lt_b11_b13) (ninS (Nat.ne_of_lt lt_b11_b14) nin0)))
    have f29 := (Fld.keep (Fld.keep (Fld.keep (Fld.keep (Fld.keep (Fld.ext E13 Y11_3) K14q (ninS (Nat.ne_of_lt lt_b11_b13) nin0)) K17q (ninS (Nat.ne_of_lt lt_b11_b13) (ninS (Nat.ne_of_lt lt_b11_b14) nin0))) K18q (ninS (Nat.ne_of_lt lt_b11_b13) (ninS (Nat.ne_of_lt lt_b11_b14) nin0))) K20q (ninS (Nat.ne_of_lt lt_b11_b13) (ninS (Nat.ne_of_lt lt_b11_b14) nin0))) K22q (ninS (Nat.ne_of_lt lt_b11_b13) (ninS (Nat.ne_of_lt lt_b11_b14) nin0)))
    have hK26 := (backOf (R := room_1) (p := p) (e := e) (below := below) (args := #[(.long q0), (.int p1), (.int p2), (.int p3), (.int p4)]) (len := 3) (W := 0) (rm_cnt0_4 l Z a0 hw [] w_0 w_1 w_2 b13 b11 nw b14 kb_14 bb B1 B2 B3 (0 : Int32) (4 : Int32) (1 : Int64) T22.heap n0 (own_old_le O22) ST O22 Y22_0 ge_b13 Y22_1 ge_b14 Y22_2 Y22_3 Y22_4 ((by decide) : (0 : Int32) < (4 : Int32)) (by decide) f27 f28 f29 (show (nw - (1 : Int64)) < bb from (own_ltB tnw1 tB0 hsp1.1 (by decide)))) hZ (ww74 hw) (ww51 hw) (by decide) (by decide))
    obtain ⟨cq26, kq26, q26a, q26b, q26c⟩ := isOf hZ rfl Y22_0
    obtain ⟨_, _, ⟨T26, L26, k26, n26⟩, -, X26, ⟨Lc26, hQ26, l26, y26, z26⟩, st26⟩ := X22.virtualBack hx (y := y_13) (z := y_13) hown (mvT hZ (ww70 hw)) (mvT hZ (ww71 hw)) (notFace_of_selects (args := #[]) (mvT hZ (ww73 hw))) (mvT hZ (ww73 hw)) (mvT hZ (ww72 hw)) (by decide) hK26 q26a q26c (g := (mkF m 113 ls25 [(.long nw), (.ref b11), (.ref b13)])) rfl (by rw [hml, hls25]; rfl) (Steps.refl _) (argsL := [(.ref b11), (.long nw)]) (rest := []) (lenOf pd_9 rfl) rfl (by show 2 * 0 + _ ≤ _; exact Nat.le_of_eq rfl) (hb hby at_113) (fun _ _ => ⟨rfl, rfl, (by decide : 5 + 0 ≤ _), (by decide : 30 + 0 ≤ _)⟩)
    dsimp only [Pt.U, Pt.locs, Pt.cells, Pt.slots] at X26 l26 y26 z26 st26 hQ26
    subst l26 y26 z26
    obtain ⟨rfl, N26q, K26q, Y26_0, Y26_1, Y26_2, Y26_3⟩ := hQ26
    have N26 := Fr.app N22 N26q
    obtain ⟨lc26, X26, N26⟩ := own_gen X26 N26
    have O26 := O22.keep K26q (allS ge_b13 all0)
    have hk26 : _ ≤ T26.heap.size := Nat.le_trans hk22 K26q.1
    refine step (fun t k => st26.trans k) ?_
    show G T26 (mkF m 116 ls25 [(.int 4)])
    obtain ⟨ls30, hls30⟩  := own_sl #[.val (.long q0), .second, .val (.int p1), .val (.int p2), .val (.int p3), .val (.int p4), .val (.long bb), .second, .val (.long sp), .second, .val (.int 0), .val (.int (p3 &&& (3 : Int32))), .val (.ref b11), .val (.ref b13), .val (.long nw), .second, .val (.int 4), .unset, .unset, .unset, .unset, .unset]
    refine step (fun t k => XS.istore X26.here hx rfl (hb hby at_116) rfl (l' := ls30) (by rw [hls25, hls30]; rfl) k) ?_
    show G T26 (mkF m 118 ls30 [])
    rcases own_k4 p3 with hee | hee | hee | hee
    · skip
      obtain ⟨ls31, hls31⟩  := own_sl #[.val (.long q0), .second, .val (.int p1), .val (.int p2), .val (.int p3), .val (.int p4), .val (.long bb), .second, .val (.long sp), .second, .val (.int 0), .val (.int 0), .val (.ref b11), .val (.ref b13), .val (.long nw), .second, .val (.int 4), .unset, .unset, .unset, .unset, .unset]
      rw [show ls30 = ls31 from by rw [hls30, hls31, hee]]
      show G T26 (mkF m 118 ls31 [])
      refine step (fun t k => XS.iload X26.here hx rfl (hb hby at_118) (by rw [hls31]; rfl) k) ?_
      show G T26 (mkF m 120 ls31 [(.int 0)])
      refine step (fun t k => XS.iconst X26.here hx rfl (hb hby at_120) k) ?_
      show G T26 (mkF m 121 ls31 [(.int 1), (.int 0)])
      refine step (fun t k => XS.icmpYes X26.here hx rfl (pc0 := 121) (pc' := 138) rfl (hb hby at_121) rfl (tlt (by decide : (0 : Int32) < (1 : Int32))).1 (by decide) (by decide) k) ?_
      show G T26 (mkF m 138 ls31 [])
      refine step (fun t k => XS.iload X26.here hx rfl (hb hby at_138) (by rw [hls31]; rfl) k) ?_
      show G T26 (mkF m 140 ls31 [(.int 0)])
      refine step (fun t k => XS.iconst X26.here hx rfl (hb hby at_140) k) ?_
      show G T26 (mkF m 141 ls31 [(.int 2), (.int 0)])
      refine step (fun t k => XS.icmpYes X26.here hx rfl (pc0 := 141) (pc' := 158) rfl (hb hby at_141) rfl (tlt (by decide : (0 : Int32) < (2 : Int32))).1 (by decide) (by decide) k) ?_
      show G T26 (mkF m 158 ls31 [])
      refine step (fun t k => XS.iload X26.here hx rfl (hb hby at_158) (by rw [hls31]; rfl) k) ?_
      show G T26 (mkF m 160 ls31 [(.int 0)])
      refine step (fun t k => XS.iconst X26.here hx rfl (hb hby at_160) k) ?_
      show G T26 (mkF m 161 ls31 [(.int 3), (.int 0)])
      refine step (fun t k => XS.icmpYes X26.here hx rfl (pc0 := 161) (pc' := 178) rfl (hb hby at_161) rfl (tlt (by decide : (0 : Int32) < (3 : Int32))).1 (by decide) (by decide) k) ?_
      show G T26 (mkF m 178 ls31 [])
      refine step (fun t k => XS.iconst X26.here hx rfl (hb hby at_178) k) ?_
      show G T26 (mkF m 179 ls31 [(.int 4)])
      refine step (fun t k => XS.iload X26.here hx rfl (hb hby at_179) (by rw [hls31]; rfl) k) ?_
      show G T26 (mkF m 181 ls31 [(.int 0), (.int 4)])
      refine step (fun t k => XS.isub X26.here hx rfl (hb hby at_181) rfl k) ?_
      show G T26 (mkF m 182 ls31 [(.int ((4 : Int32) - (0 : Int32)))])
      rw [(by decide : ((4 : Int32) - (0 : Int32)) = (4 : Int32))]
      show G T26 (mkF m 182 ls31 [(.int 4)])
      refine step (fun t k => XS.iload X26.here hx rfl (hb hby at_182) (by rw [hls31]; rfl) k) ?_
      show G T26 (mkF m 184 ls31 [(.int 0), (.int 4)])
      refine step (fun t k => XS.iadd X26.here hx rfl (hb hby at_184) rfl k) ?_
      show G T26 (mkF m 185 ls31 [(.int ((4 : Int32) + (0 : Int32)))])
      rw [(by decide : ((4 : Int32) + (0 : Int32)) = (4 : Int32))]
      show G T26 (mkF m 185 ls31 [(.int 4)])
      obtain ⟨ls32, hls32⟩  := own_sl #[.val (.long q0), .second, .val (.int p1), .val (.int p2), .val (.int p3), .val (.int p4), .val (.long bb), .second, .val (.long sp), .second, .val (.int 0), .val (.int 0), .val (.ref b11), .val (.ref b13), .val (.long nw), .second, .val (.int 4), .val (.int 4), .unset, .unset, .unset, .unset]
      refine step (fun t k => XS.istore X26.here hx rfl (hb hby at_185) rfl (l' := ls32) (by rw [hls31, hls32]; rfl) k) ?_
      show G T26 (mkF m 187 ls32 [])
      refine step (fun t k => XS.aload X26.here hx rfl (hb hby at_187) (by rw [hls32]; rfl) rfl k) ?_
      show G T26 (mkF m 189 ls32 [(.ref b13)])
      refine step (fun t k => XS.aload X26.here hx rfl (hb hby at_189) (by rw [hls32]; rfl) rfl k) ?_
      show G T26 (mkF m 191 ls32 [(.ref b11), (.ref b13)])
      refine step (fun t k => XS.lload X26.here hx rfl (hb hby at_191) (by rw [hls32]; rfl) k) ?_
      show G T26 (mkF m 193 ls32 [(.long nw), (.ref b11), (.ref b13)])
      have f34 := (Arv.keep Y22_4 K26q (ninS (Nat.ne_of_gt lt_b13_b14) nin0))
      have f35 := (Exa.keep f27 K26q)
      have f36 := (Fld.keep f28 K26q (ninS (Nat.ne_of_lt lt_b11_b13) nin0))
      have f37 := (Fld.keep f29 K26q (ninS (Nat.ne_of_lt lt_b11_b13) nin0))
      have hK33 := (backOf (R := room_1) (p := p) (e := e) (below := below) (args := #[(.long q0), (.int p1), (.int p2), (.int p3), (.int p4)]) (len := 3) (W := 0) (rm_cnt0_4 l Z a0 hw [] w_0 w_1 w_2 b13 b11 nw b14 kb_14 bb B1 B2 B3 (0 : Int32) (4 : Int32) (1 : Int64) T26.heap n0 (own_old_le O26) ST O26 Y26_0 ge_b13 Y26_1 ge_b14 Y26_2 Y26_3 f34 ((by decide) : (0 : Int32) < (4 : Int32)) (by decide) f35 f36 f37 (show (nw - (1 : Int64)) < bb from (own_ltB tnw1 tB0 hsp1.1 (by decide)))) hZ (ww74 hw) (ww51 hw) (by decide) (by decide))
      obtain ⟨cq33, kq33, q33a, q33b, q33c⟩ := isOf hZ rfl Y26_0
      obtain ⟨_, _, ⟨T33, L33, k33, n33⟩, -, X33, ⟨Lc33, hQ33, l33, y33, z33⟩, st33⟩ := X26.virtualBack hx (y := y_13) (z := y_13) hown (mvT hZ (ww70 hw)) (mvT hZ (ww71 hw)) (notFace_of_selects (args := #[]) (mvT hZ (ww73 hw))) (mvT hZ (ww73 hw)) (mvT hZ (ww72 hw)) (by decide) hK33 q33a q33c (g := (mkF m 193 ls32 [(.long nw), (.ref b11), (.ref b13)])) rfl (by rw [hml, hls32]; rfl) (Steps.refl _) (argsL := [(.ref b11), (.long nw)]) (rest := []) (lenOf pd_9 rfl) rfl (by show 2 * 0 + _ ≤ _; exact Nat.le_of_eq rfl) (hb hby at_193) (fun _ _ => ⟨rfl, rfl, (by decide : 5 + 0 ≤ _), (by decide : 30 + 0 ≤ _)⟩)
      dsimp only [Pt.U, Pt.locs, Pt.cells, Pt.slots] at X33 l33 y33 z33 st33 hQ33
      subst l33 y33 z33
      obtain ⟨rfl, N33q, K33q, Y33_0, Y33_1, Y33_2, Y33_3⟩ := hQ33
      have N33 := Fr.app N26 N33q
      obtain ⟨lc33, X33, N33⟩ := own_gen X33 N33
      have O33 := O26.keep K33q (allS ge_b13 all0)
      have hk33 : _ ≤ T33.heap.size := Nat.le_trans hk26 K33q.1
      refine step (fun t k => st33.trans k) ?_
      show G T33 (mkF m 196 ls32 [(.int 4)])
      obtain ⟨ls38, hls38⟩  := own_sl #[.val (.long q0), .second, .val (.int p1), .val (.int p2), .val (.int p3), .val (.int p4), .val (.long bb), .second, .val (.long sp), .second, .val (.int 0), .val (.int 0), .val (.ref b11), .val (.ref b13), .val (.long nw), .second, .val (.int 4), .val (.int 4), .val (.int 4), .unset, .unset, .unset]
      refine step (fun t k => XS.istore X33.here hx rfl (hb hby at_196) rfl (l' := ls38) (by rw [hls32, hls38]; rfl) k) ?_
      show G T33 (mkF m 198 ls38 [])
      refine step (fun t k => XS.iload X33.here hx rfl (hb hby at_198) (by rw [hls38]; rfl) k) ?_
      show G T33 (mkF m 200 ls38 [(.int p4)])
      have q39 := X33.ldcInt hx hown (mvT hZ (ww101 hw)) (g := (mkF m 200 ls38 [(.int p4)])) rfl (hb hby at_200)
      refine step q39 ?_
      show G T33 (mkF m 202 ls38 [(.int 2147483647), (.int p4)])
      refine step (fun t k => XS.iand X33.here hx rfl (hb hby at_202) rfl k) ?_
      show G T33 (mkF m 203 ls38 [(.int (p4 &&& (2147483647 : Int32)))])
      refine step (fun t k => XS.iload X33.here hx rfl (hb hby at_203) (by rw [hls38]; rfl) k) ?_
      show G T33 (mkF m 205 ls38 [(.int 4), (.int (p4 &&& (2147483647 : Int32)))])
      refine step (fun t k => iremM X33 hx rfl (hb hby at_205) rfl (by decide) k) ?_
      show G T33 (mkF m 206 ls38 [(.int ((p4 &&& (2147483647 : Int32)) % (4 : Int32)))])
      obtain ⟨ls40, hls40⟩  := own_sl #[.val (.long q0), .second, .val (.int p1), .val (.int p2), .val (.int p3), .val (.int p4), .val (.long bb), .second, .val (.long sp), .second, .val (.int 0), .val (.int 0), .val (.ref b11), .val (.ref b13), .val (.long nw), .second, .val (.int 4), .val (.int 4), .val (.int 4), .val (.int ((p4 &&& (2147483647 : Int32)) % (4 : Int32))), .unset, .unset]
      refine step (fun t k => XS.istore X33.here hx rfl (hb hby at_206) rfl (l' := ls40) (by rw [hls38, hls40]; rfl) k) ?_
      show G T33 (mkF m 208 ls40 [])
      obtain ⟨jj, hjj⟩ : ∃ z : Int32, z = ((p4 &&& (2147483647 : Int32)) % (4 : Int32)) := ⟨_, rfl⟩
      obtain ⟨ls41, hls41⟩  := own_sl #[.val (.long q0), .second, .val (.int p1), .val (.int p2), .val (.int p3), .val (.int p4), .val (.long bb), .second, .val (.long sp), .second, .val (.int 0), .val (.int 0), .val (.ref b11), .val (.ref b13), .val (.long nw), .second, .val (.int 4), .val (.int 4), .val (.int 4), .val (.int jj), .unset, .unset]
      rw [show ls40 = ls41 from by rw [hls40, hls41, hjj]]
      show G T33 (mkF m 208 ls41 [])
      have hj := own_j4 p4
      rw [← hjj] at hj
      refine step (fun t k => XS.aload X33.here hx rfl (hb hby at_208) (by rw [hls41]; rfl) rfl k) ?_
      show G T33 (mkF m 210 ls41 [(.ref b13)])
      refine step (fun t k => XS.iload X33.here hx rfl (hb hby at_210) (by rw [hls41]; rfl) k) ?_
      show G T33 (mkF m 212 ls41 [(.int jj), (.ref b13)])
      have f43 := (Arv.keep f34 K33q (ninS (Nat.ne_of_gt lt_b13_b14) nin0))
      have hK42 := (backOf (R := room_1) (p := p) (e := e) (below := below) (args := #[(.long q0), (.int p1), (.int p2), (.int p3), (.int p4)]) (len := 3) (W := 0) (rm_get4 l Z a0 hw [] w_0 w_1 w_2 b13 jj b14 kb_14 bb B1 B2 B3 (0 : Int32) T33.heap n0 (own_old_le O33) ST O33 Y33_1 Y33_2 f43 (by rcases hj with h | h | h | h <;> (rw [h]; decide))) hZ (ww106 hw) (ww51 hw) (by decide) (by decide))
      obtain ⟨cq42, kq42, q42a, q42b, q42c⟩ := isOf hZ rfl Y33_0
      obtain ⟨_, _, ⟨T42, L42, k42, n42⟩, -, X42, ⟨Lc42, hQ42, l42, y42, z42⟩, st42⟩ := X33.virtualBack hx (y := y_14) (z := y_14) hown (mvT hZ (ww102 hw)) (mvT hZ (ww103 hw)) (notFace_of_selects (args := #[]) (mvT hZ (ww105 hw))) (mvT hZ (ww105 hw)) (mvT hZ (ww104 hw)) (by decide) hK42 q42a q42c (g := (mkF m 212 ls41 [(.int jj), (.ref b13)])) rfl (by rw [hml, hls41]; rfl) (Steps.refl _) (argsL := [(.int jj)]) (rest := []) (lenOf pd_10 rfl) rfl (by show 2 * 0 + _ ≤ _; exact Nat.le_of_eq rfl) (hb hby at_212) (fun _ _ => ⟨rfl, rfl, (by decide : 5 + 0 ≤ _), (by decide : 30 + 0 ≤ _)⟩)
      dsimp only [Pt.U, Pt.locs, Pt.cells, Pt.slots] at X42 l42 y42 z42 st42 hQ42
      subst l42 y42 z42
      obtain ⟨rfl, N42q, e42⟩ := hQ42
      have N42 := Fr.app N33 N42q
      obtain ⟨lc42, X42, N42⟩ := own_gen X42 N42
      refine step (fun t k => st42.trans k) ?_
      show G T42 (mkF m 215 ls41 [(.long (f_get4 w_0 w_1 w_2 b13 jj b14 kb_14 bb B1 B2 B3 (0 : Int32)))])
      have r44 : (f_get4 w_0 w_1 w_2 b13 jj b14 kb_14 bb B1 B2 B3 (0 : Int32)) = (own_at4 bb B1 B2 B3 (((0 : Int32) + jj) % (4 : Int32))) := rfl
      rw [r44]
      show G T42 (mkF m 215 ls41 [(.long (own_at4 bb B1 B2 B3 (((0 : Int32) + jj) % (4 : Int32))))])
      obtain ⟨ls45, hls45⟩  := own_sl #[.val (.long q0), .second, .val (.int p1), .val (.int p2), .val (.int p3), .val (.int p4), .val (.long bb), .second, .val (.long sp), .second, .val (.int 0), .val (.int 0), .val (.ref b11), .val (.ref b13), .val (.long nw), .second, .val (.int 4), .val (.int 4), .val (.int 4), .val (.int jj), .val (.long (own_at4 bb B1 B2 B3 (((0 : Int32) + jj) % (4 : Int32)))), .second]
      refine step (fun t k => XS.lstore X42.here hx rfl (hb hby at_215) rfl (l' := ls45) (by rw [hls41, hls45]; rfl) k) ?_
      show G T42 (mkF m 217 ls45 [])
      refine step (fun t k => XS.iload X42.here hx rfl (hb hby at_217) (by rw [hls45]; rfl) k) ?_
      show G T42 (mkF m 219 ls45 [(.int 4)])
      refine step (fun t k => XS.iconst X42.here hx rfl (hb hby at_219) k) ?_
      show G T42 (mkF m 220 ls45 [(.int 4), (.int 4)])
      refine step (fun t k => XS.iload X42.here hx rfl (hb hby at_220) (by rw [hls45]; rfl) k) ?_
      show G T42 (mkF m 222 ls45 [(.int 0), (.int 4), (.int 4)])
      refine step (fun t k => XS.isub X42.here hx rfl (hb hby at_222) rfl k) ?_
      show G T42 (mkF m 223 ls45 [(.int ((4 : Int32) - (0 : Int32))), (.int 4)])
      rw [(by decide : ((4 : Int32) - (0 : Int32)) = (4 : Int32))]
      show G T42 (mkF m 223 ls45 [(.int 4), (.int 4)])
      refine step (fun t k => XS.icmpNo X42.here hx rfl (hb hby at_223) rfl (teq (by decide : (4 : Int32) = (4 : Int32))).2 k) ?_
      show G T42 (mkF m 226 ls45 [])
      refine step (fun t k => XS.iload X42.here hx rfl (hb hby at_226) (by rw [hls45]; rfl) k) ?_
      show G T42 (mkF m 228 ls45 [(.int 4)])
      refine step (fun t k => XS.iload X42.here hx rfl (hb hby at_228) (by rw [hls45]; rfl) k) ?_
      show G T42 (mkF m 230 ls45 [(.int 4), (.int 4)])
      refine step (fun t k => XS.icmpNo X42.here hx rfl (hb hby at_230) rfl (teq (by decide : (4 : Int32) = (4 : Int32))).2 k) ?_
      show G T42 (mkF m 233 ls45 [])
      refine step (fun t k => XS.lload X42.here hx rfl (hb hby at_233) (by rw [hls45]; rfl) k) ?_
      show G T42 (mkF m 235 ls45 [(.long (own_at4 bb B1 B2 B3 (((0 : Int32) + jj) % (4 : Int32))))])
      refine step (fun t k => XS.lload X42.here hx rfl (hb hby at_235) (by rw [hls45]; rfl) k) ?_
      show G T42 (mkF m 237 ls45 [(.long bb), (.long (own_at4 bb B1 B2 B3 (((0 : Int32) + jj) % (4 : Int32))))])
      refine step (fun t k => XS.iload X42.here hx rfl (hb hby at_237) (by rw [hls45]; rfl) k) ?_
      show G T42 (mkF m 239 ls45 [(.int 0), (.long bb), (.long (own_at4 bb B1 B2 B3 (((0 : Int32) + jj) % (4 : Int32))))])
      refine step (fun t k => XS.iload X42.here hx rfl (hb hby at_239) (by rw [hls45]; rfl) k) ?_
      show G T42 (mkF m 241 ls45 [(.int jj), (.int 0), (.long bb), (.long (own_at4 bb B1 B2 B3 (((0 : Int32) + jj) % (4 : Int32))))])
      refine step (fun t k => XS.iadd X42.here hx rfl (hb hby at_241) rfl k) ?_
      show G T42 (mkF m 242 ls45 [(.int ((0 : Int32) + jj)), (.long bb), (.long (own_at4 bb B1 B2 B3 (((0 : Int32) + jj) % (4 : Int32))))])
      refine step (fun t k => XS.i2l X42.here hx rfl (hb hby at_242) rfl k) ?_
      show G T42 (mkF m 243 ls45 [(.long (((0 : Int32) + jj).toInt64)), (.long bb), (.long (own_at4 bb B1 B2 B3 (((0 : Int32) + jj) % (4 : Int32))))])
      refine step (fun t k => XS.lload X42.here hx rfl (hb hby at_243) (by rw [hls45]; rfl) k) ?_
      show G T42 (mkF m 245 ls45 [(.long sp), (.long (((0 : Int32) + jj).toInt64)), (.long bb), (.long (own_at4 bb B1 B2 B3 (((0 : Int32) + jj) % (4 : Int32))))])
      refine step (fun t k => XS.lmul X42.here hx rfl (hb hby at_245) rfl k) ?_
      show G T42 (mkF m 246 ls45 [(.long ((((0 : Int32) + jj).toInt64) * sp)), (.long bb), (.long (own_at4 bb B1 B2 B3 (((0 : Int32) + jj) % (4 : Int32))))])
      refine step (fun t k => XS.ladd X42.here hx rfl (hb hby at_246) rfl k) ?_
      show G T42 (mkF m 247 ls45 [(.long (bb + ((((0 : Int32) + jj).toInt64) * sp))), (.long (own_at4 bb B1 B2 B3 (((0 : Int32) + jj) % (4 : Int32))))])
      refine step (fun t k => XS.lcmp X42.here hx rfl (hb hby at_247) rfl k) ?_
      show G T42 (mkF m 248 ls45 [(.int (lcmpW (own_at4 bb B1 B2 B3 (((0 : Int32) + jj) % (4 : Int32))) (bb + ((((0 : Int32) + jj).toInt64) * sp))))])
      refine step (fun t k => XS.ifNo X42.here hx rfl (hb hby at_248) rfl ((if0 _ _).trans (teq ((lw_eq _ _).mpr (by rcases hj with h | h | h | h <;> rw [h] <;> first | exact hq0 | exact hq1 | exact hq2 | exact hq3))).2) k) ?_
      show G T42 (mkF m 251 ls45 [])
      refine step (fun t k => XS.iconst X42.here hx rfl (hb hby at_251) k) ?_
      show G T42 (mkF m 252 ls45 [(.int 1)])
      refine step (fun t k => XS.goto X42.here hx rfl (pc0 := 252) (pc' := 256) rfl (hb hby at_252) (by decide) (by decide) k) ?_
      show G T42 (mkF m 256 ls45 [(.int 1)])
      exact ret (v := some (.int 1)) X42 hS hk33 (fun h => by rw [Bd.returns] at h; cases h) (fun fs hr => retN X42 hx (t := .boolean) Bd.returns (by simp) (hb hby at_256) hr) e42 ⟨rfl, N42⟩ (by decide) (by decide)
    · skip
      obtain ⟨ls46, hls46⟩  := own_sl #[.val (.long q0), .second, .val (.int p1), .val (.int p2), .val (.int p3), .val (.int p4), .val (.long bb), .second, .val (.long sp), .second, .val (.int 0), .val (.int 1), .val (.ref b11), .val (.ref b13), .val (.long nw), .second, .val (.int 4), .unset, .unset, .unset, .unset, .unset]
      rw [show ls30 = ls46 from by rw [hls30, hls46, hee]]
      show G T26 (mkF m 118 ls46 [])
      refine step (fun t k => XS.iload X26.here hx rfl (hb hby at_118) (by rw [hls46]; rfl) k) ?_
      show G T26 (mkF m 120 ls46 [(.int 1)])
      refine step (fun t k => XS.iconst X26.here hx rfl (hb hby at_120) k) ?_
      show G T26 (mkF m 121 ls46 [(.int 1), (.int 1)])
      refine step (fun t k => XS.icmpNo X26.here hx rfl (hb hby at_121) rfl (flt (by decide : ¬ ((1 : Int32) < (1 : Int32)))).1 k) ?_
      show G T26 (mkF m 124 ls46 [])
      refine step (fun t k => XS.aload X26.here hx rfl (hb hby at_124) (by rw [hls46]; rfl) rfl k) ?_
      show G T26 (mkF m 126 ls46 [(.ref b13)])
      refine step (fun t k => XS.lload X26.here hx rfl (hb hby at_126) (by rw [hls46]; rfl) k) ?_
      show G T26 (mkF m 128 ls46 [(.long bb), (.ref b13)])
      have q47 := X26.ldc2Long hx hown (mvT hZ (ww107 hw)) (g := (mkF m 128 ls46 [(.long bb), (.ref b13)])) rfl (hb hby at_128)
      refine step q47 ?_
      show G T26 (mkF m 131 ls46 [(.long 4), (.long bb), (.ref b13)])
      refine step (fun t k => XS.lload X26.here hx rfl (hb hby at_131) (by rw [hls46]; rfl) k) ?_
      show G T26 (mkF m 133 ls46 [(.long sp), (.long 4), (.long bb), (.ref b13)])
      refine step (fun t k => XS.lmul X26.here hx rfl (hb hby at_133) rfl k) ?_
      show G T26 (mkF m 134 ls46 [(.long ((4 : Int64) * sp)), (.long bb), (.ref b13)])
      refine step (fun t k => XS.ladd X26.here hx rfl (hb hby at_134) rfl k) ?_
      show G T26 (mkF m 135 ls46 [(.long (bb + ((4 : Int64) * sp))), (.ref b13)])
      obtain ⟨B4, hB4⟩ : ∃ z : Int64, z = (bb + ((4 : Int64) * sp)) := ⟨_, rfl⟩
      rw [← hB4]
      show G T26 (mkF m 135 ls46 [(.long B4), (.ref b13)])
      have tB4 := own_B (4 : Int64) 4 (by decide) (by decide) (by decide) hbb1 hsp1 hB4
      have hq4 := hB4
      have f49 := (Arv.keep Y22_4 K26q (ninS (Nat.ne_of_gt lt_b13_b14) nin0))
      have hK48 := (backOf (R := room_1) (p := p) (e := e) (below := below) (args := #[(.long q0), (.int p1), (.int p2), (.int p3), (.int p4)]) (len := 3) (W := 0) (rm_addg_4_0 l Z a0 hw [] w_0 w_1 w_2 b13 B4 b14 kb_14 bb B1 B2 B3 T26.heap n0 (own_old_le O26) ST O26 Y26_0 ge_b13 Y26_1 ge_b14 Y26_2 Y26_3 f49) hZ (ww63 hw) (ww51 hw) (by decide) (by decide))
      obtain ⟨cq48, kq48, q48a, q48b, q48c⟩ := isOf hZ rfl Y26_0
      obtain ⟨_, _, ⟨T48, L48, k48, n48⟩, -, X48, ⟨Lc48, hQ48, l48, y48, z48⟩, st48⟩ := X26.virtualBack hx (y := y_10) (z := y_10) hown (mvT hZ (ww59 hw)) (mvT hZ (ww60 hw)) (notFace_of_selects (args := #[]) (mvT hZ (ww62 hw))) (mvT hZ (ww62 hw)) (mvT hZ (ww61 hw)) (by decide) hK48 q48a q48c (g := (mkF m 135 ls46 [(.long B4), (.ref b13)])) rfl (by rw [hml, hls46]; rfl) (Steps.refl _) (argsL := [(.long B4)]) (rest := []) (lenOf pd_5 rfl) rfl (by show 2 * 0 + _ ≤ _; exact Nat.le_of_eq rfl) (hb hby at_135) (fun _ _ => ⟨rfl, rfl, (by decide : 5 + 1 ≤ _), (by decide : 30 + 8 ≤ _)⟩)
      dsimp only [Pt.U, Pt.locs, Pt.cells, Pt.slots] at X48 l48 y48 z48 st48 hQ48
      subst l48 y48 z48
      have f50 := (Exa.keep f27 K26q)
      obtain ⟨b48, kb_48, rfl, N48q, K48q, Y48_0, Y48_1, Y48_2, Y48_3, Y48_4, Y48_5⟩ := hQ48
      have N48 := Fr.app N26 N48q
      obtain ⟨lc48, X48, N48⟩ := own_gen X48 N48
      have O48 := O26.keep K48q (allS ge_b13 all0)
      have ge_b48 : n0 ≤ b48 := Nat.le_trans (own_old_le O26) Y48_0
      have lt_b11_b48 : b11 < b48 := Nat.lt_of_lt_of_le f50.lt Y48_0
      have lt_b13_b48 : b13 < b48 := Nat.lt_of_lt_of_le Y26_0.lt Y48_0
      have lt_b14_b48 : b14 < b48 := Nat.lt_of_lt_of_le f49.lt Y48_0
      have hk48 : _ ≤ T48.heap.size := Nat.le_trans hk26 K48q.1
      refine step (fun t k => st48.trans k) ?_
      show G T48 (mkF m 138 ls46 [])
      refine step (fun t k => XS.iload X48.here hx rfl (hb hby at_138) (by rw [hls46]; rfl) k) ?_
      show G T48 (mkF m 140 ls46 [(.int 1)])
      refine step (fun t k => XS.iconst X48.here hx rfl (hb hby at_140) k) ?_
      show G T48 (mkF m 141 ls46 [(.int 2), (.int 1)])
      refine step (fun t k => XS.icmpYes X48.here hx rfl (pc0 := 141) (pc' := 158) rfl (hb hby at_141) rfl (tlt (by decide : (1 : Int32) < (2 : Int32))).1 (by decide) (by decide) k) ?_
      show G T48 (mkF m 158 ls46 [])
      refine step (fun t k => XS.iload X48.here hx rfl (hb hby at_158) (by rw [hls46]; rfl) k) ?_
      show G T48 (mkF m 160 ls46 [(.int 1)])
      refine step (fun t k => XS.iconst X48.here hx rfl (hb hby at_160) k) ?_
      show G T48 (mkF m 161 ls46 [(.int 3), (.int 1)])
      refine step (fun t k => XS.icmpYes X48.here hx rfl (pc0 := 161) (pc' := 178) rfl (hb hby at_161) rfl (tlt (by decide : (1 : Int32) < (3 : Int32))).1 (by decide) (by decide) k) ?_
      show G T48 (mkF m 178 ls46 [])
      refine step (fun t k => XS.iconst X48.here hx rfl (hb hby at_178) k) ?_
      show G T48 (mkF m 179 ls46 [(.int 4)])
      refine step (fun t k => XS.iload X48.here hx rfl (hb hby at_179) (by rw [hls46]; rfl) k) ?_
      show G T48 (mkF m 181 ls46 [(.int 0), (.int 4)])
      refine step (fun t k => XS.isub X48.here hx rfl (hb hby at_181) rfl k) ?_
      show G T48 (mkF m 182 ls46 [(.int ((4 : Int32) - (0 : Int32)))])
      rw [(by decide : ((4 : Int32) - (0 : Int32)) = (4 : Int32))]
      show G T48 (mkF m 182 ls46 [(.int 4)])
      refine step (fun t k => XS.iload X48.here hx rfl (hb hby at_182) (by rw [hls46]; rfl) k) ?_
      show G T48 (mkF m 184 ls46 [(.int 1), (.int 4)])
      refine step (fun t k => XS.iadd X48.here hx rfl (hb hby at_184) rfl k) ?_
      show G T48 (mkF m 185 ls46 [(.int ((4 : Int32) + (1 : Int32)))])
      rw [(by decide : ((4 : Int32) + (1 : Int32)) = (5 : Int32))]
      show G T48 (mkF m 185 ls46 [(.int 5)])
      obtain ⟨ls51, hls51⟩  := own_sl #[.val (.long q0), .second, .val (.int p1), .val (.int p2), .val (.int p3), .val (.int p4), .val (.long bb), .second, .val (.long sp), .second, .val (.int 0), .val (.int 1), .val (.ref b11), .val (.ref b13), .val (.long nw), .second, .val (.int 4), .val (.int 5), .unset, .unset, .unset, .unset]
      refine step (fun t k => XS.istore X48.here hx rfl (hb hby at_185) rfl (l' := ls51) (by rw [hls46, hls51]; rfl) k) ?_
      show G T48 (mkF m 187 ls51 [])
      refine step (fun t k => XS.aload X48.here hx rfl (hb hby at_187) (by rw [hls51]; rfl) rfl k) ?_
      show G T48 (mkF m 189 ls51 [(.ref b13)])
      refine step (fun t k => XS.aload X48.here hx rfl (hb hby at_189) (by rw [hls51]; rfl) rfl k) ?_
      show G T48 (mkF m 191 ls51 [(.ref b11), (.ref b13)])
      refine step (fun t k => XS.lload X48.here hx rfl (hb hby at_191) (by rw [hls51]; rfl) k) ?_
      show G T48 (mkF m 193 ls51 [(.long nw), (.ref b11), (.ref b13)])
      have f53 := (Exa.keep f50 K48q)
      have f54 := (Fld.keep (Fld.keep f28 K26q (ninS (Nat.ne_of_lt lt_b11_b13) nin0)) K48q (ninS (Nat.ne_of_lt lt_b11_b13) nin0))
      have f55 := (Fld.keep (Fld.keep f29 K26q (ninS (Nat.ne_of_lt lt_b11_b13) nin0)) K48q (ninS (Nat.ne_of_lt lt_b11_b13) nin0))
      have hK52 := (backOf (R := room_1) (p := p) (e := e) (below := below) (args := #[(.long q0), (.int p1), (.int p2), (.int p3), (.int p4)]) (len := 3) (W := 0) (rm_cnt0_8 l Z a0 hw [] w_0 w_1 w_2 b13 b11 nw b48 kb_48 bb B1 B2 B3 B4 (0 : Int64) (0 : Int64) (0 : Int64) (0 : Int32) (5 : Int32) (1 : Int64) T48.heap n0 (own_old_le O48) ST O48 Y48_1 ge_b13 Y48_2 ge_b48 Y48_3 Y48_4 Y48_5 ((by decide) : (0 : Int32) < (5 : Int32)) (by decide) f53 f54 f55 (show (nw - (1 : Int64)) < bb from (own_ltB tnw1 tB0 hsp1.1 (by decide)))) hZ (ww74 hw) (ww51 hw) (by decide) (by decide))
      obtain ⟨cq52, kq52, q52a, q52b, q52c⟩ := isOf hZ rfl Y48_1
      obtain ⟨_, _, ⟨T52, L52, k52, n52⟩, -, X52, ⟨Lc52, hQ52, l52, y52, z52⟩, st52⟩ := X48.virtualBack hx (y := y_13) (z := y_13) hown (mvT hZ (ww70 hw)) (mvT hZ (ww71 hw)) (notFace_of_selects (args := #[]) (mvT hZ (ww73 hw))) (mvT hZ (ww73 hw)) (mvT hZ (ww72 hw)) (by decide) hK52 q52a q52c (g := (mkF m 193 ls51 [(.long nw), (.ref b11), (.ref b13)])) rfl (by rw [hml, hls51]; rfl) (Steps.refl _) (argsL := [(.ref b11), (.long nw)]) (rest := []) (lenOf pd_9 rfl) rfl (by show 2 * 0 + _ ≤ _; exact Nat.le_of_eq rfl) (hb hby at_193) (fun _ _ => ⟨rfl, rfl, (by decide : 6 + 0 ≤ _), (by decide : 38 + 0 ≤ _)⟩)
      dsimp only [Pt.U, Pt.locs, Pt.cells, Pt.slots] at X52 l52 y52 z52 st52 hQ52
      subst l52 y52 z52
      obtain ⟨rfl, N52q, K52q, Y52_0, Y52_1, Y52_2, Y52_3⟩ := hQ52
      have N52 := Fr.app N48 N52q
      obtain ⟨lc52, X52, N52⟩ := own_gen X52 N52
      have O52 := O48.keep K52q (allS ge_b13 all0)
      have hk52 : _ ≤ T52.heap.size := Nat.le_trans hk48 K52q.1
      refine step (fun t k => st52.trans k) ?_
      show G T52 (mkF m 196 ls51 [(.int 5)])
      obtain ⟨ls56, hls56⟩  := own_sl #[.val (.long q0), .second, .val (.int p1), .val (.int p2), .val (.int p3), .val (.int p4), .val (.long bb), .second, .val (.long sp), .second, .val (.int 0), .val (.int 1), .val (.ref b11), .val (.ref b13), .val (.long nw), .second, .val (.int 4), .val (.int 5), .val (.int 5), .unset, .unset, .unset]
      refine step (fun t k => XS.istore X52.here hx rfl (hb hby at_196) rfl (l' := ls56) (by rw [hls51, hls56]; rfl) k) ?_
      show G T52 (mkF m 198 ls56 [])
      refine step (fun t k => XS.iload X52.here hx rfl (hb hby at_198) (by rw [hls56]; rfl) k) ?_
      show G T52 (mkF m 200 ls56 [(.int p4)])
      have q57 := X52.ldcInt hx hown (mvT hZ (ww101 hw)) (g := (mkF m 200 ls56 [(.int p4)])) rfl (hb hby at_200)
      refine step q57 ?_
      show G T52 (mkF m 202 ls56 [(.int 2147483647), (.int p4)])
      refine step (fun t k => XS.iand X52.here hx rfl (hb hby at_202) rfl k) ?_
      show G T52 (mkF m 203 ls56 [(.int (p4 &&& (2147483647 : Int32)))])
      refine step (fun t k => XS.iload X52.here hx rfl (hb hby at_203) (by rw [hls56]; rfl) k) ?_
      show G T52 (mkF m 205 ls56 [(.int 5), (.int (p4 &&& (2147483647 : Int32)))])
      refine step (fun t k => iremM X52 hx rfl (hb hby at_205) rfl (by decide) k) ?_
      show G T52 (mkF m 206 ls56 [(.int ((p4 &&& (2147483647 : Int32)) % (5 : Int32)))])
      obtain ⟨ls58, hls58⟩  := own_sl #[.val (.long q0), .second, .val (.int p1), .val (.int p2), .val (.int p3), .val (.int p4), .val (.long bb), .second, .val (.long sp), .second, .val (.int 0), .val (.int 1), .val (.ref b11), .val (.ref b13), .val (.long nw), .second, .val (.int 4), .val (.int 5), .val (.int 5), .val (.int ((p4 &&& (2147483647 : Int32)) % (5 : Int32))), .unset, .unset]
      refine step (fun t k => XS.istore X52.here hx rfl (hb hby at_206) rfl (l' := ls58) (by rw [hls56, hls58]; rfl) k) ?_
      show G T52 (mkF m 208 ls58 [])
      obtain ⟨jj, hjj⟩ : ∃ z : Int32, z = ((p4 &&& (2147483647 : Int32)) % (5 : Int32)) := ⟨_, rfl⟩
      obtain ⟨ls59, hls59⟩  := own_sl #[.val (.long q0), .second, .val (.int p1), .val (.int p2), .val (.int p3), .val (.int p4), .val (.long bb), .second, .val (.long sp), .second, .val (.int 0), .val (.int 1), .val (.ref b11), .val (.ref b13), .val (.long nw), .second, .val (.int 4), .val (.int 5), .val (.int 5), .val (.int jj), .unset, .unset]
      rw [show ls58 = ls59 from by rw [hls58, hls59, hjj]]
      show G T52 (mkF m 208 ls59 [])
      have hj := own_j5 p4
      rw [← hjj] at hj
      refine step (fun t k => XS.aload X52.here hx rfl (hb hby at_208) (by rw [hls59]; rfl) rfl k) ?_
      show G T52 (mkF m 210 ls59 [(.ref b13)])
      refine step (fun t k => XS.iload X52.here hx rfl (hb hby at_210) (by rw [hls59]; rfl) k) ?_
      show G T52 (mkF m 212 ls59 [(.int jj), (.ref b13)])
      have f61 := (Arv.keep Y48_5 K52q (ninS (Nat.ne_of_gt lt_b13_b48) nin0))
      have hK60 := (backOf (R := room_1) (p := p) (e := e) (below := below) (args := #[(.long q0), (.int p1), (.int p2), (.int p3), (.int p4)]) (len := 3) (W := 0) (rm_get8 l Z a0 hw [] w_0 w_1 w_2 b13 jj b48 kb_48 bb B1 B2 B3 B4 (0 : Int64) (0 : Int64) (0 : Int64) (0 : Int32) T52.heap n0 (own_old_le O52) ST O52 Y52_1 Y52_2 f61 (by rcases hj with h | h | h | h | h <;> (rw [h]; decide))) hZ (ww106 hw) (ww51 hw) (by decide) (by decide))
      obtain ⟨cq60, kq60, q60a, q60b, q60c⟩ := isOf hZ rfl Y52_0
      obtain ⟨_, _, ⟨T60, L60, k60, n60⟩, -, X60, ⟨Lc60, hQ60, l60, y60, z60⟩, st60⟩ := X52.virtualBack hx (y := y_14) (z := y_14) hown (mvT hZ (ww102 hw)) (mvT hZ (ww103 hw)) (notFace_of_selects (args := #[]) (mvT hZ (ww105 hw))) (mvT hZ (ww105 hw)) (mvT hZ (ww104 hw)) (by decide) hK60 q60a q60c (g := (mkF m 212 ls59 [(.int jj), (.ref b13)])) rfl (by rw [hml, hls59]; rfl) (Steps.refl _) (argsL := [(.int jj)]) (rest := []) (lenOf pd_10 rfl) rfl (by show 2 * 0 + _ ≤ _; exact Nat.le_of_eq rfl) (hb hby at_212) (fun _ _ => ⟨rfl, rfl, (by decide : 6 + 0 ≤ _), (by decide : 38 + 0 ≤ _)⟩)
      dsimp only [Pt.U, Pt.locs, Pt.cells, Pt.slots] at X60 l60 y60 z60 st60 hQ60
      subst l60 y60 z60
      obtain ⟨rfl, N60q, e60⟩ := hQ60
      have N60 := Fr.app N52 N60q
      obtain ⟨lc60, X60, N60⟩ := own_gen X60 N60
      refine step (fun t k => st60.trans k) ?_
      show G T60 (mkF m 215 ls59 [(.long (f_get8 w_0 w_1 w_2 b13 jj b48 kb_48 bb B1 B2 B3 B4 (0 : Int64) (0 : Int64) (0 : Int64) (0 : Int32)))])
      have r62 : (f_get8 w_0 w_1 w_2 b13 jj b48 kb_48 bb B1 B2 B3 B4 (0 : Int64) (0 : Int64) (0 : Int64) (0 : Int32)) = (own_at8 bb B1 B2 B3 B4 (0 : Int64) (0 : Int64) (0 : Int64) (((0 : Int32) + jj) % (8 : Int32))) := rfl
      rw [r62]
      show G T60 (mkF m 215 ls59 [(.long (own_at8 bb B1 B2 B3 B4 (0 : Int64) (0 : Int64) (0 : Int64) (((0 : Int32) + jj) % (8 : Int32))))])
      obtain ⟨ls63, hls63⟩  := own_sl #[.val (.long q0), .second, .val (.int p1), .val (.int p2), .val (.int p3), .val (.int p4), .val (.long bb), .second, .val (.long sp), .second, .val (.int 0), .val (.int 1), .val (.ref b11), .val (.ref b13), .val (.long nw), .second, .val (.int 4), .val (.int 5), .val (.int 5), .val (.int jj), .val (.long (own_at8 bb B1 B2 B3 B4 (0 : Int64) (0 : Int64) (0 : Int64) (((0 : Int32) + jj) % (8 : Int32)))), .second]
      refine step (fun t k => XS.lstore X60.here hx rfl (hb hby at_215) rfl (l' := ls63) (by rw [hls59, hls63]; rfl) k) ?_
      show G T60 (mkF m 217 ls63 [])
      refine step (fun t k => XS.iload X60.here hx rfl (hb hby at_217) (by rw [hls63]; rfl) k) ?_
      show G T60 (mkF m 219 ls63 [(.int 4)])
      refine step (fun t k => XS.iconst X60.here hx rfl (hb hby at_219) k) ?_
      show G T60 (mkF m 220 ls63 [(.int 4), (.int 4)])
      refine step (fun t k => XS.iload X60.here hx rfl (hb hby at_220) (by rw [hls63]; rfl) k) ?_
      show G T60 (mkF m 222 ls63 [(.int 0), (.int 4), (.int 4)])
      refine step (fun t k => XS.isub X60.here hx rfl (hb hby at_222) rfl k) ?_
      show G T60 (mkF m 223 ls63 [(.int ((4 : Int32) - (0 : Int32))), (.int 4)])
      rw [(by decide : ((4 : Int32) - (0 : Int32)) = (4 : Int32))]
      show G T60 (mkF m 223 ls63 [(.int 4), (.int 4)])
      refine step (fun t k => XS.icmpNo X60.here hx rfl (hb hby at_223) rfl (teq (by decide : (4 : Int32) = (4 : Int32))).2 k) ?_
      show G T60 (mkF m 226 ls63 [])
      refine step (fun t k => XS.iload X60.here hx rfl (hb hby at_226) (by rw [hls63]; rfl) k) ?_
      show G T60 (mkF m 228 ls63 [(.int 5)])
      refine step (fun t k => XS.iload X60.here hx rfl (hb hby at_228) (by rw [hls63]; rfl) k) ?_
      show G T60 (mkF m 230 ls63 [(.int 5), (.int 5)])
      refine step (fun t k => XS.icmpNo X60.here hx rfl (hb hby at_230) rfl (teq (by decide : (5 : Int32) = (5 : Int32))).2 k) ?_
      show G T60 (mkF m 233 ls63 [])
      refine step (fun t k => XS.lload X60.here hx rfl (hb hby at_233) (by rw [hls63]; rfl) k) ?_
      show G T60 (mkF m 235 ls63 [(.long (own_at8 bb B1 B2 B3 B4 (0 : Int64) (0 : Int64) (0 : Int64) (((0 : Int32) + jj) % (8 : Int32))))])
      refine step (fun t k => XS.lload X60.here hx rfl (hb hby at_235) (by rw [hls63]; rfl) k) ?_
      show G T60 (mkF m 237 ls63 [(.long bb), (.long (own_at8 bb B1 B2 B3 B4 (0 : Int64) (0 : Int64) (0 : Int64) (((0 : Int32) + jj) % (8 : Int32))))])
      refine step (fun t k => XS.iload X60.here hx rfl (hb hby at_237) (by rw [hls63]; rfl) k) ?_
      show G T60 (mkF m 239 ls63 [(.int 0), (.long bb), (.long (own_at8 bb B1 B2 B3 B4 (0 : Int64) (0 : Int64) (0 : Int64) (((0 : Int32) + jj) % (8 : Int32))))])
      refine step (fun t k => XS.iload X60.here hx rfl (hb hby at_239) (by rw [hls63]; rfl) k) ?_
      show G T60 (mkF m 241 ls63 [(.int jj), (.int 0), (.long bb), (.long (own_at8 bb B1 B2 B3 B4 (0 : Int64) (0 : Int64) (0 : Int64) (((0 : Int32) + jj) % (8 : Int32))))])
      refine step (fun t k => XS.iadd X60.here hx rfl (hb hby at_241) rfl k) ?_
      show G T60 (mkF m 242 ls63 [(.int ((0 : Int32) + jj)), (.long bb), (.long (own_at8 bb B1 B2 B3 B4 (0 : Int64) (0 : Int64) (0 : Int64) (((0 : Int32) + jj) % (8 : Int32))))])
      refine step (fun t k => XS.i2l X60.here hx rfl (hb hby at_242) rfl k) ?_
      show G T60 (mkF m 243 ls63 [(.long (((0 : Int32) + jj).toInt64)), (.long bb), (.long (own_at8 bb B1 B2 B3 B4 (0 : Int64) (0 : Int64) (0 : Int64) (((0 : Int32) + jj) % (8 : Int32))))])
      refine step (fun t k => XS.lload X60.here hx rfl (hb hby at_243) (by rw [hls63]; rfl) k) ?_
      show G T60 (mkF m 245 ls63 [(.long sp), (.long (((0 : Int32) + jj).toInt64)), (.long bb), (.long (own_at8 bb B1 B2 B3 B4 (0 : Int64) (0 : Int64) (0 : Int64) (((0 : Int32) + jj) % (8 : Int32))))])
      refine step (fun t k => XS.lmul X60.here hx rfl (hb hby at_245) rfl k) ?_
      show G T60 (mkF m 246 ls63 [(.long ((((0 : Int32) + jj).toInt64) * sp)), (.long bb), (.long (own_at8 bb B1 B2 B3 B4 (0 : Int64) (0 : Int64) (0 : Int64) (((0 : Int32) + jj) % (8 : Int32))))])
      refine step (fun t k => XS.ladd X60.here hx rfl (hb hby at_246) rfl k) ?_
      show G T60 (mkF m 247 ls63 [(.long (bb + ((((0 : Int32) + jj).toInt64) * sp))), (.long (own_at8 bb B1 B2 B3 B4 (0 : Int64) (0 : Int64) (0 : Int64) (((0 : Int32) + jj) % (8 : Int32))))])
      refine step (fun t k => XS.lcmp X60.here hx rfl (hb hby at_247) rfl k) ?_
      show G T60 (mkF m 248 ls63 [(.int (lcmpW (own_at8 bb B1 B2 B3 B4 (0 : Int64) (0 : Int64) (0 : Int64) (((0 : Int32) + jj) % (8 : Int32))) (bb + ((((0 : Int32) + jj).toInt64) * sp))))])
      refine step (fun t k => XS.ifNo X60.here hx rfl (hb hby at_248) rfl ((if0 _ _).trans (teq ((lw_eq _ _).mpr (by rcases hj with h | h | h | h | h <;> rw [h] <;> first | exact hq0 | exact hq1 | exact hq2 | exact hq3 | exact hq4))).2) k) ?_
      show G T60 (mkF m 251 ls63 [])
      refine step (fun t k => XS.iconst X60.here hx rfl (hb hby at_251) k) ?_
      show G T60 (mkF m 252 ls63 [(.int 1)])
      refine step (fun t k => XS.goto X60.here hx rfl (pc0 := 252) (pc' := 256) rfl (hb hby at_252) (by decide) (by decide) k) ?_
      show G T60 (mkF m 256 ls63 [(.int 1)])
      exact ret (v := some (.int 1)) X60 hS hk52 (fun h => by rw [Bd.returns] at h; cases h) (fun fs hr => retN X60 hx (t := .boolean) Bd.returns (by simp) (hb hby at_256) hr) e60 ⟨rfl, N60⟩ (by decide) (by decide)
    · skip
      obtain ⟨ls64, hls64⟩  := own_sl #[.val (.long q0), .second, .val (.int p1), .val (.int p2), .val (.int p3), .val (.int p4), .val (.long bb), .second, .val (.long sp), .second, .val (.int 0), .val (.int 2), .val (.ref b11), .val (.ref b13), .val (.long nw), .second, .val (.int 4), .unset, .unset, .unset, .unset, .unset]
      rw [show ls30 = ls64 from by rw [hls30, hls64, hee]]
      show G T26 (mkF m 118 ls64 [])
      refine step (fun t k => XS.iload X26.here hx rfl (hb hby at_118) (by rw [hls64]; rfl) k) ?_
      show G T26 (mkF m 120 ls64 [(.int 2)])
      refine step (fun t k => XS.iconst X26.here hx rfl (hb hby at_120) k) ?_
      show G T26 (mkF m 121 ls64 [(.int 1), (.int 2)])
      refine step (fun t k => XS.icmpNo X26.here hx rfl (hb hby at_121) rfl (flt (by decide : ¬ ((2 : Int32) < (1 : Int32)))).1 k) ?_
      show G T26 (mkF m 124 ls64 [])
      refine step (fun t k => XS.aload X26.here hx rfl (hb hby at_124) (by rw [hls64]; rfl) rfl k) ?_
      show G T26 (mkF m 126 ls64 [(.ref b13)])
      refine step (fun t k => XS.lload X26.here hx rfl (hb hby at_126) (by rw [hls64]; rfl) k) ?_
      show G T26 (mkF m 128 ls64 [(.long bb), (.ref b13)])
      have q65 := X26.ldc2Long hx hown (mvT hZ (ww107 hw)) (g := (mkF m 128 ls64 [(.long bb), (.ref b13)])) rfl (hb hby at_128)
      refine step q65 ?_
      show G T26 (mkF m 131 ls64 [(.long 4), (.long bb), (.ref b13)])
      refine step (fun t k => XS.lload X26.here hx rfl (hb hby at_131) (by rw [hls64]; rfl) k) ?_
      show G T26 (mkF m 133 ls64 [(.long sp), (.long 4), (.long bb), (.ref b13)])
      refine step (fun t k => XS.lmul X26.here hx rfl (hb hby at_133) rfl k) ?_
      show G T26 (mkF m 134 ls64 [(.long ((4 : Int64) * sp)), (.long bb), (.ref b13)])
      refine step (fun t k => XS.ladd X26.here hx rfl (hb hby at_134) rfl k) ?_
      show G T26 (mkF m 135 ls64 [(.long (bb + ((4 : Int64) * sp))), (.ref b13)])
      obtain ⟨B4, hB4⟩ : ∃ z : Int64, z = (bb + ((4 : Int64) * sp)) := ⟨_, rfl⟩
      rw [← hB4]
      show G T26 (mkF m 135 ls64 [(.long B4), (.ref b13)])
      have tB4 := own_B (4 : Int64) 4 (by decide) (by decide) (by decide) hbb1 hsp1 hB4
      have hq4 := hB4
      have f67 := (Arv.keep Y22_4 K26q (ninS (Nat.ne_of_gt lt_b13_b14) nin0))
      have hK66 := (backOf (R := room_1) (p := p) (e := e) (below := below) (args := #[(.long q0), (.int p1), (.int p2), (.int p3), (.int p4)]) (len := 3) (W := 0) (rm_addg_4_0 l Z a0 hw [] w_0 w_1 w_2 b13 B4 b14 kb_14 bb B1 B2 B3 T26.heap n0 (own_old_le O26) ST O26 Y26_0 ge_b13 Y26_1 ge_b14 Y26_2 Y26_3 f67) hZ (ww63 hw) (ww51 hw) (by decide) (by decide))
      obtain ⟨cq66, kq66, q66a, q66b, q66c⟩ := isOf hZ rfl Y26_0
      obtain ⟨_, _, ⟨T66, L66, k66, n66⟩, -, X66, ⟨Lc66, hQ66, l66, y66, z66⟩, st66⟩ := X26.virtualBack hx (y := y_10) (z := y_10) hown (mvT hZ (ww59 hw)) (mvT hZ (ww60 hw)) (notFace_of_selects (args := #[]) (mvT hZ (ww62 hw))) (mvT hZ (ww62 hw)) (mvT hZ (ww61 hw)) (by decide) hK66 q66a q66c (g := (mkF m 135 ls64 [(.long B4), (.ref b13)])) rfl (by rw [hml, hls64]; rfl) (Steps.refl _) (argsL := [(.long B4)]) (rest := []) (lenOf pd_5 rfl) rfl (by show 2 * 0 + _ ≤ _; exact Nat.le_of_eq rfl) (hb hby at_135) (fun _ _ => ⟨rfl, rfl, (by decide : 5 + 1 ≤ _), (by decide : 30 + 8 ≤ _)⟩)
      dsimp only [Pt.U, Pt.locs, Pt.cells, Pt.slots] at X66 l66 y66 z66 st66 hQ66
      subst l66 y66 z66
      have f68 := (Exa.keep f27 K26q)
      obtain ⟨b66, kb_66, rfl, N66q, K66q, Y66_0, Y66_1, Y66_2, Y66_3, Y66_4, Y66_5⟩ := hQ66
      have N66 := Fr.app N26 N66q
      obtain ⟨lc66, X66, N66⟩ := own_gen X66 N66
      have O66 := O26.keep K66q (allS ge_b13 all0)
      have ge_b66 : n0 ≤ b66 := Nat.le_trans (own_old_le O26) Y66_0
      have lt_b11_b66 : b11 < b66 := Nat.lt_of_lt_of_le f68.lt Y66_0
      have lt_b13_b66 : b13 < b66 := Nat.lt_of_lt_of_le Y26_0.lt Y66_0
      have lt_b14_b66 : b14 < b66 := Nat.lt_of_lt_of_le f67.lt Y66_0
      have hk66 : _ ≤ T66.heap.size := Nat.le_trans hk26 K66q.1
      refine step (fun t k => st66.trans k) ?_
      show G T66 (mkF m 138 ls64 [])
      refine step (fun t k => XS.iload X66.here hx rfl (hb hby at_138) (by rw [hls64]; rfl) k) ?_
      show G T66 (mkF m 140 ls64 [(.int 2)])
      refine step (fun t k => XS.iconst X66.here hx rfl (hb hby at_140) k) ?_
      show G T66 (mkF m 141 ls64 [(.int 2), (.int 2)])
      refine step (fun t k => XS.icmpNo X66.here hx rfl (hb hby at_141) rfl (flt (by decide : ¬ ((2 : Int32) < (2 : Int32)))).1 k) ?_
      show G T66 (mkF m 144 ls64 [])
      refine step (fun t k => XS.aload X66.here hx rfl (hb hby at_144) (by rw [hls64]; rfl) rfl k) ?_
      show G T66 (mkF m 146 ls64 [(.ref b13)])
      refine step (fun t k => XS.lload X66.here hx rfl (hb hby at_146) (by rw [hls64]; rfl) k) ?_
      show G T66 (mkF m 148 ls64 [(.long bb), (.ref b13)])
      have q69 := X66.ldc2Long hx hown (mvT hZ (ww108 hw)) (g := (mkF m 148 ls64 [(.long bb), (.ref b13)])) rfl (hb hby at_148)
      refine step q69 ?_
      show G T66 (mkF m 151 ls64 [(.long 5), (.long bb), (.ref b13)])
      refine step (fun t k => XS.lload X66.here hx rfl (hb hby at_151) (by rw [hls64]; rfl) k) ?_
      show G T66 (mkF m 153 ls64 [(.long sp), (.long 5), (.long bb), (.ref b13)])
      refine step (fun t k => XS.lmul X66.here hx rfl (hb hby at_153) rfl k) ?_
      show G T66 (mkF m 154 ls64 [(.long ((5 : Int64) * sp)), (.long bb), (.ref b13)])
      refine step (fun t k => XS.ladd X66.here hx rfl (hb hby at_154) rfl k) ?_
      show G T66 (mkF m 155 ls64 [(.long (bb + ((5 : Int64) * sp))), (.ref b13)])
      obtain ⟨B5, hB5⟩ : ∃ z : Int64, z = (bb + ((5 : Int64) * sp)) := ⟨_, rfl⟩
      rw [← hB5]
      show G T66 (mkF m 155 ls64 [(.long B5), (.ref b13)])
      have tB5 := own_B (5 : Int64) 5 (by decide) (by decide) (by decide) hbb1 hsp1 hB5
      have hq5 := hB5
      have hK70 := (backOf (R := room_1) (p := p) (e := e) (below := below) (args := #[(.long q0), (.int p1), (.int p2), (.int p3), (.int p4)]) (len := 3) (W := 0) (rm_add_8_5 l Z a0 hw [] w_0 w_1 w_2 b13 B5 b66 kb_66 bb B1 B2 B3 B4 (0 : Int64) (0 : Int64) (0 : Int64) (0 : Int32) (5 : Int32) (6 : Int32) T66.heap n0 (own_old_le O66) ST O66 Y66_1 ge_b13 Y66_2 ge_b66 Y66_3 Y66_4 Y66_5 (by decide : ¬ ((5 : Int32) = (8 : Int32))) (by decide : ((5 : Int32) + (1 : Int32)) = (6 : Int32)) (by decide : (((0 : Int32) + (5 : Int32)) % (8 : Int32)) = (5 : Int32))) hZ (ww63 hw) (ww51 hw) (by decide) (by decide))
      obtain ⟨cq70, kq70, q70a, q70b, q70c⟩ := isOf hZ rfl Y66_1
      obtain ⟨_, _, ⟨T70, L70, k70, n70⟩, -, X70, ⟨Lc70, hQ70, l70, y70, z70⟩, st70⟩ := X66.virtualBack hx (y := y_10) (z := y_10) hown (mvT hZ (ww59 hw)) (mvT hZ (ww60 hw)) (notFace_of_selects (args := #[]) (mvT hZ (ww62 hw))) (mvT hZ (ww62 hw)) (mvT hZ (ww61 hw)) (by decide) hK70 q70a q70c (g := (mkF m 155 ls64 [(.long B5), (.ref b13)])) rfl (by rw [hml, hls64]; rfl) (Steps.refl _) (argsL := [(.long B5)]) (rest := []) (lenOf pd_5 rfl) rfl (by show 2 * 0 + _ ≤ _; exact Nat.le_of_eq rfl) (hb hby at_155) (fun _ _ => ⟨rfl, rfl, (by decide : 6 + 0 ≤ _), (by decide : 38 + 0 ≤ _)⟩)
      dsimp only [Pt.U, Pt.locs, Pt.cells, Pt.slots] at X70 l70 y70 z70 st70 hQ70
      subst l70 y70 z70
      obtain ⟨rfl, N70q, K70q, Y70_0, Y70_1, Y70_2, Y70_3, Y70_4⟩ := hQ70
      have N70 := Fr.app N66 N70q
      obtain ⟨lc70, X70, N70⟩ := own_gen X70 N70
      have O70 := O66.keep K70q (allS ge_b13 (allS ge_b66 all0))
      have hk70 : _ ≤ T70.heap.size := Nat.le_trans hk66 K70q.1
      refine step (fun t k => st70.trans k) ?_
      show G T70 (mkF m 158 ls64 [])
      refine step (fun t k => XS.iload X70.here hx rfl (hb hby at_158) (by rw [hls64]; rfl) k) ?_
      show G T70 (mkF m 160 ls64 [(.int 2)])
      refine step (fun t k => XS.iconst X70.here hx rfl (hb hby at_160) k) ?_
      show G T70 (mkF m 161 ls64 [(.int 3), (.int 2)])
      refine step (fun t k => XS.icmpYes X70.here hx rfl (pc0 := 161) (pc' := 178) rfl (hb hby at_161) rfl (tlt (by decide : (2 : Int32) < (3 : Int32))).1 (by decide) (by decide) k) ?_
      show G T70 (mkF m 178 ls64 [])
      refine step (fun t k => XS.iconst X70.here hx rfl (hb hby at_178) k) ?_
      show G T70 (mkF m 179 ls64 [(.int 4)])
      refine step (fun t k => XS.iload X70.here hx rfl (hb hby at_179) (by rw [hls64]; rfl) k) ?_
      show G T70 (mkF m 181 ls64 [(.int 0), (.int 4)])
      refine step (fun t k => XS.isub X70.here hx rfl (hb hby at_181) rfl k) ?_
      show G T70 (mkF m 182 ls64 [(.int ((4 : Int32) - (0 : Int32)))])
      rw [(by decide : ((4 : Int32) - (0 : Int32)) = (4 : Int32))]
      show G T70 (mkF m 182 ls64 [(.int 4)])
      refine step (fun t k => XS.iload X70.here hx rfl (hb hby at_182) (by rw [hls64]; rfl) k) ?_
      show G T70 (mkF m 184 ls64 [(.int 2), (.int 4)])
      refine step (fun t k => XS.iadd X70.here hx rfl (hb hby at_184) rfl k) ?_
      show G T70 (mkF m 185 ls64 [(.int ((4 : Int32) + (2 : Int32)))])
      rw [(by decide : ((4 : Int32) + (2 : Int32)) = (6 : Int32))]
      show G T70 (mkF m 185 ls64 [(.int 6)])
      obtain ⟨ls71, hls71⟩  := own_sl #[.val (.long q0), .second, .val (.int p1), .val (.int p2), .val (.int p3), .val (.int p4), .val (.long bb), .second, .val (.long sp), .second, .val (.int 0), .val (.int 2), .val (.ref b11), .val (.ref b13), .val (.long nw), .second, .val (.int 4), .val (.int 6), .unset, .unset, .unset, .unset]
      refine step (fun t k => XS.istore X70.here hx rfl (hb hby at_185) rfl (l' := ls71) (by rw [hls64, hls71]; rfl) k) ?_
      show G T70 (mkF m 187 ls71 [])
      refine step (fun t k => XS.aload X70.here hx rfl (hb hby at_187) (by rw [hls71]; rfl) rfl k) ?_
      show G T70 (mkF m 189 ls71 [(.ref b13)])
      refine step (fun t k => XS.aload X70.here hx rfl (hb hby at_189) (by rw [hls71]; rfl) rfl k) ?_
      show G T70 (mkF m 191 ls71 [(.ref b11), (.ref b13)])
      refine step (fun t k => XS.lload X70.here hx rfl (hb hby at_191) (by rw [hls71]; rfl) k) ?_
      show G T70 (mkF m 193 ls71 [(.long nw), (.ref b11), (.ref b13)])
      have f73 := (Exa.keep (Exa.keep f68 K66q) K70q)
      have f74 := (Fld.keep (Fld.keep (Fld.keep f28 K26q (ninS (Nat.ne_of_lt lt_b11_b13) nin0)) K66q (ninS (Nat.ne_of_lt lt_b11_b13) nin0)) K70q (ninS (Nat.ne_of_lt lt_b11_b13) (ninS (Nat.ne_of_lt lt_b11_b66) nin0)))
      have f75 := (Fld.keep (Fld.keep (Fld.keep f29 K26q (ninS (Nat.ne_of_lt lt_b11_b13) nin0)) K66q (ninS (Nat.ne_of_lt lt_b11_b13) nin0)) K70q (ninS (Nat.ne_of_lt lt_b11_b13) (ninS (Nat.ne_of_lt lt_b11_b66) nin0)))
      have hK72 := (backOf (R := room_1) (p := p) (e := e) (below := below) (args := #[(.long q0), (.int p1), (.int p2), (.int p3), (.int p4)]) (len := 3) (W := 0) (rm_cnt0_8 l Z a0 hw [] w_0 w_1 w_2 b13 b11 nw b66 kb_66 bb B1 B2 B3 B4 B5 (0 : Int64) (0 : Int64) (0 : Int32) (6 : Int32) (1 : Int64) T70.heap n0 (own_old_le O70) ST O70 Y70_0 ge_b13 Y70_1 ge_b66 Y70_2 Y70_3 Y70_4 ((by decide) : (0 : Int32) < (6 : Int32)) (by decide) f73 f74 f75 (show (nw - (1 : Int64)) < bb from (own_ltB tnw1 tB0 hsp1.1 (by decide)))) hZ (ww74 hw) (ww51 hw) (by decide) (by decide))
      obtain ⟨cq72, kq72, q72a, q72b, q72c⟩ := isOf hZ rfl Y70_0
      obtain ⟨_, _, ⟨T72, L72, k72, n72⟩, -, X72, ⟨Lc72, hQ72, l72, y72, z72⟩, st72⟩ := X70.virtualBack hx (y := y_13) (z := y_13) hown (mvT hZ (ww70 hw)) (mvT hZ (ww71 hw)) (notFace_of_selects (args := #[]) (mvT hZ (ww73 hw))) (mvT hZ (ww73 hw)) (mvT hZ (ww72 hw)) (by decide) hK72 q72a q72c (g := (mkF m 193 ls71 [(.long nw), (.ref b11), (.ref b13)])) rfl (by rw [hml, hls71]; rfl) (Steps.refl _) (argsL := [(.ref b11), (.long nw)]) (rest := []) (lenOf pd_9 rfl) rfl (by show 2 * 0 + _ ≤ _; exact Nat.le_of_eq rfl) (hb hby at_193) (fun _ _ => ⟨rfl, rfl, (by decide : 6 + 0 ≤ _), (by decide : 38 + 0 ≤ _)⟩)
      dsimp only [Pt.U, Pt.locs, Pt.cells, Pt.slots] at X72 l72 y72 z72 st72 hQ72
      subst l72 y72 z72
      obtain ⟨rfl, N72q, K72q, Y72_0, Y72_1, Y72_2, Y72_3⟩ := hQ72
      have N72 := Fr.app N70 N72q
      obtain ⟨lc72, X72, N72⟩ := own_gen X72 N72
      have O72 := O70.keep K72q (allS ge_b13 all0)
      have hk72 : _ ≤ T72.heap.size := Nat.le_trans hk70 K72q.1
      refine step (fun t k => st72.trans k) ?_
      show G T72 (mkF m 196 ls71 [(.int 6)])
      obtain ⟨ls76, hls76⟩  := own_sl #[.val (.long q0), .second, .val (.int p1), .val (.int p2), .val (.int p3), .val (.int p4), .val (.long bb), .second, .val (.long sp), .second, .val (.int 0), .val (.int 2), .val (.ref b11), .val (.ref b13), .val (.long nw), .second, .val (.int 4), .val (.int 6), .val (.int 6), .unset, .unset, .unset]
      refine step (fun t k => XS.istore X72.here hx rfl (hb hby at_196) rfl (l' := ls76) (by rw [hls71, hls76]; rfl) k) ?_
      show G T72 (mkF m 198 ls76 [])
      refine step (fun t k => XS.iload X72.here hx rfl (hb hby at_198) (by rw [hls76]; rfl) k) ?_
      show G T72 (mkF m 200 ls76 [(.int p4)])
      have q77 := X72.ldcInt hx hown (mvT hZ (ww101 hw)) (g := (mkF m 200 ls76 [(.int p4)])) rfl (hb hby at_200)
      refine step q77 ?_
      show G T72 (mkF m 202 ls76 [(.int 2147483647), (.int p4)])
      refine step (fun t k => XS.iand X72.here hx rfl (hb hby at_202) rfl k) ?_
      show G T72 (mkF m 203 ls76 [(.int (p4 &&& (2147483647 : Int32)))])
      refine step (fun t k => XS.iload X72.here hx rfl (hb hby at_203) (by rw [hls76]; rfl) k) ?_
      show G T72 (mkF m 205 ls76 [(.int 6), (.int (p4 &&& (2147483647 : Int32)))])
      refine step (fun t k => iremM X72 hx rfl (hb hby at_205) rfl (by decide) k) ?_
      show G T72 (mkF m 206 ls76 [(.int ((p4 &&& (2147483647 : Int32)) % (6 : Int32)))])
      obtain ⟨ls78, hls78⟩  := own_sl #[.val (.long q0), .second, .val (.int p1), .val (.int p2), .val (.int p3), .val (.int p4), .val (.long bb), .second, .val (.long sp), .second, .val (.int 0), .val (.int 2), .val (.ref b11), .val (.ref b13), .val (.long nw), .second, .val (.int 4), .val (.int 6), .val (.int 6), .val (.int ((p4 &&& (2147483647 : Int32)) % (6 : Int32))), .unset, .unset]
      refine step (fun t k => XS.istore X72.here hx rfl (hb hby at_206) rfl (l' := ls78) (by rw [hls76, hls78]; rfl) k) ?_
      show G T72 (mkF m 208 ls78 [])
      obtain ⟨jj, hjj⟩ : ∃ z : Int32, z = ((p4 &&& (2147483647 : Int32)) % (6 : Int32)) := ⟨_, rfl⟩
      obtain ⟨ls79, hls79⟩  := own_sl #[.val (.long q0), .second, .val (.int p1), .val (.int p2), .val (.int p3), .val (.int p4), .val (.long bb), .second, .val (.long sp), .second, .val (.int 0), .val (.int 2), .val (.ref b11), .val (.ref b13), .val (.long nw), .second, .val (.int 4), .val (.int 6), .val (.int 6), .val (.int jj), .unset, .unset]
      rw [show ls78 = ls79 from by rw [hls78, hls79, hjj]]
      show G T72 (mkF m 208 ls79 [])
      have hj := own_j6 p4
      rw [← hjj] at hj
      refine step (fun t k => XS.aload X72.here hx rfl (hb hby at_208) (by rw [hls79]; rfl) rfl k) ?_
      show G T72 (mkF m 210 ls79 [(.ref b13)])
      refine step (fun t k => XS.iload X72.here hx rfl (hb hby at_210) (by rw [hls79]; rfl) k) ?_
      show G T72 (mkF m 212 ls79 [(.int jj), (.ref b13)])
      have f81 := (Arv.keep Y70_4 K72q (ninS (Nat.ne_of_gt lt_b13_b66) nin0))
      have hK80 := (backOf (R := room_1) (p := p) (e := e) (below := below) (args := #[(.long q0), (.int p1), (.int p2), (.int p3), (.int p4)]) (len := 3) (W := 0) (rm_get8 l Z a0 hw [] w_0 w_1 w_2 b13 jj b66 kb_66 bb B1 B2 B3 B4 B5 (0 : Int64) (0 : Int64) (0 : Int32) T72.heap n0 (own_old_le O72) ST O72 Y72_1 Y72_2 f81 (by rcases hj with h | h | h | h | h | h <;> (rw [h]; decide))) hZ (ww106 hw) (ww51 hw) (by decide) (by decide))
      obtain ⟨cq80, kq80, q80a, q80b, q80c⟩ := isOf hZ rfl Y72_0
      obtain ⟨_, _, ⟨T80, L80, k80, n80⟩, -, X80, ⟨Lc80, hQ80, l80, y80, z80⟩, st80⟩ := X72.virtualBack hx (y := y_14) (z := y_14) hown (mvT hZ (ww102 hw)) (mvT hZ (ww103 hw)) (notFace_of_selects (args := #[]) (mvT hZ (ww105 hw))) (mvT hZ (ww105 hw)) (mvT hZ (ww104 hw)) (by decide) hK80 q80a q80c (g := (mkF m 212 ls79 [(.int jj), (.ref b13)])) rfl (by rw [hml, hls79]; rfl) (Steps.refl _) (argsL := [(.int jj)]) (rest := []) (lenOf pd_10 rfl) rfl (by show 2 * 0 + _ ≤ _; exact Nat.le_of_eq rfl) (hb hby at_212) (fun _ _ => ⟨rfl, rfl, (by decide : 6 + 0 ≤ _), (by decide : 38 + 0 ≤ _)⟩)
      dsimp only [Pt.U, Pt.locs, Pt.cells, Pt.slots] at X80 l80 y80 z80 st80 hQ80
      subst l80 y80 z80
      obtain ⟨rfl, N80q, e80⟩ := hQ80
      have N80 := Fr.app N72 N80q
      obtain ⟨lc80, X80, N80⟩ := own_gen X80 N80
      refine step (fun t k => st80.trans k) ?_
      show G T80 (mkF m 215 ls79 [(.long (f_get8 w_0 w_1 w_2 b13 jj b66 kb_66 bb B1 B2 B3 B4 B5 (0 : Int64) (0 : Int64) (0 : Int32)))])
      have r82 : (f_get8 w_0 w_1 w_2 b13 jj b66 kb_66 bb B1 B2 B3 B4 B5 (0 : Int64) (0 : Int64) (0 : Int32)) = (own_at8 bb B1 B2 B3 B4 B5 (0 : Int64) (0 : Int64) (((0 : Int32) + jj) % (8 : Int32))) := rfl
      rw [r82]
      show G T80 (mkF m 215 ls79 [(.long (own_at8 bb B1 B2 B3 B4 B5 (0 : Int64) (0 : Int64) (((0 : Int32) + jj) % (8 : Int32))))])
      obtain ⟨ls83, hls83⟩  := own_sl #[.val (.long q0), .second, .val (.int p1), .val (.int p2), .val (.int p3), .val (.int p4), .val (.long bb), .second, .val (.long sp), .second, .val (.int 0), .val (.int 2), .val (.ref b11), .val (.ref b13), .val (.long nw), .second, .val (.int 4), .val (.int 6), .val (.int 6), .val (.int jj), .val (.long (own_at8 bb B1 B2 B3 B4 B5 (0 : Int64) (0 : Int64) (((0 : Int32) + jj) % (8 : Int32)))), .second]
      refine step (fun t k => XS.lstore X80.here hx rfl (hb hby at_215) rfl (l' := ls83) (by rw [hls79, hls83]; rfl) k) ?_
      show G T80 (mkF m 217 ls83 [])
      refine step (fun t k => XS.iload X80.here hx rfl (hb hby at_217) (by rw [hls83]; rfl) k) ?_
      show G T80 (mkF m 219 ls83 [(.int 4)])
      refine step (fun t k => XS.iconst X80.here hx rfl (hb hby at_219) k) ?_
      show G T80 (mkF m 220 ls83 [(.int 4), (.int 4)])
      refine step (fun t k => XS.iload X80.here hx rfl (hb hby at_220) (by rw [hls83]; rfl) k) ?_
      show G T80 (mkF m 222 ls83 [(.int 0), (.int 4), (.int 4)])
      refine step (fun t k => XS.isub X80.here hx rfl (hb hby at_222) rfl k) ?_
      show G T80 (mkF m 223 ls83 [(.int ((4 : Int32) - (0 : Int32))), (.int 4)])
      rw [(by decide : ((4 : Int32) - (0 : Int32)) = (4 : Int32))]
      show G T80 (mkF m 223 ls83 [(.int 4), (.int 4)])
      refine step (fun t k => XS.icmpNo X80.here hx rfl (hb hby at_223) rfl (teq (by decide : (4 : Int32) = (4 : Int32))).2 k) ?_
      show G T80 (mkF m 226 ls83 [])
      refine step (fun t k => XS.iload X80.here hx rfl (hb hby at_226) (by rw [hls83]; rfl) k) ?_
      show G T80 (mkF m 228 ls83 [(.int 6)])
      refine step (fun t k => XS.iload X80.here hx rfl (hb hby at_228) (by rw [hls83]; rfl) k) ?_
      show G T80 (mkF m 230 ls83 [(.int 6), (.int 6)])
      refine step (fun t k => XS.icmpNo X80.here hx rfl (hb hby at_230) rfl (teq (by decide : (6 : Int32) = (6 : Int32))).2 k) ?_
      show G T80 (mkF m 233 ls83 [])
      refine step (fun t k => XS.lload X80.here hx rfl (hb hby at_233) (by rw [hls83]; rfl) k) ?_
      show G T80 (mkF m 235 ls83 [(.long (own_at8 bb B1 B2 B3 B4 B5 (0 : Int64) (0 : Int64) (((0 : Int32) + jj) % (8 : Int32))))])
      refine step (fun t k => XS.lload X80.here hx rfl (hb hby at_235) (by rw [hls83]; rfl) k) ?_
      show G T80 (mkF m 237 ls83 [(.long bb), (.long (own_at8 bb B1 B2 B3 B4 B5 (0 : Int64) (0 : Int64) (((0 : Int32) + jj) % (8 : Int32))))])
      refine step (fun t k => XS.iload X80.here hx rfl (hb hby at_237) (by rw [hls83]; rfl) k) ?_
      show G T80 (mkF m 239 ls83 [(.int 0), (.long bb), (.long (own_at8 bb B1 B2 B3 B4 B5 (0 : Int64) (0 : Int64) (((0 : Int32) + jj) % (8 : Int32))))])
      refine step (fun t k => XS.iload X80.here hx rfl (hb hby at_239) (by rw [hls83]; rfl) k) ?_
      show G T80 (mkF m 241 ls83 [(.int jj), (.int 0), (.long bb), (.long (own_at8 bb B1 B2 B3 B4 B5 (0 : Int64) (0 : Int64) (((0 : Int32) + jj) % (8 : Int32))))])
      refine step (fun t k => XS.iadd X80.here hx rfl (hb hby at_241) rfl k) ?_
      show G T80 (mkF m 242 ls83 [(.int ((0 : Int32) + jj)), (.long bb), (.long (own_at8 bb B1 B2 B3 B4 B5 (0 : Int64) (0 : Int64) (((0 : Int32) + jj) % (8 : Int32))))])
      refine step (fun t k => XS.i2l X80.here hx rfl (hb hby at_242) rfl k) ?_
      show G T80 (mkF m 243 ls83 [(.long (((0 : Int32) + jj).toInt64)), (.long bb), (.long (own_at8 bb B1 B2 B3 B4 B5 (0 : Int64) (0 : Int64) (((0 : Int32) + jj) % (8 : Int32))))])
      refine step (fun t k => XS.lload X80.here hx rfl (hb hby at_243) (by rw [hls83]; rfl) k) ?_
      show G T80 (mkF m 245 ls83 [(.long sp), (.long (((0 : Int32) + jj).toInt64)), (.long bb), (.long (own_at8 bb B1 B2 B3 B4 B5 (0 : Int64) (0 : Int64) (((0 : Int32) + jj) % (8 : Int32))))])
      refine step (fun t k => XS.lmul X80.here hx rfl (hb hby at_245) rfl k) ?_
      show G T80 (mkF m 246 ls83 [(.long ((((0 : Int32) + jj).toInt64) * sp)), (.long bb), (.long (own_at8 bb B1 B2 B3 B4 B5 (0 : Int64) (0 : Int64) (((0 : Int32) + jj) % (8 : Int32))))])
      refine step (fun t k => XS.ladd X80.here hx rfl (hb hby at_246) rfl k) ?_
      show G T80 (mkF m 247 ls83 [(.long (bb + ((((0 : Int32) + jj).toInt64) * sp))), (.long (own_at8 bb B1 B2 B3 B4 B5 (0 : Int64) (0 : Int64) (((0 : Int32) + jj) % (8 : Int32))))])
      refine step (fun t k => XS.lcmp X80.here hx rfl (hb hby at_247) rfl k) ?_
      show G T80 (mkF m 248 ls83 [(.int (lcmpW (own_at8 bb B1 B2 B3 B4 B5 (0 : Int64) (0 : Int64) (((0 : Int32) + jj) % (8 : Int32))) (bb + ((((0 : Int32) + jj).toInt64) * sp))))])
      refine step (fun t k => XS.ifNo X80.here hx rfl (hb hby at_248) rfl ((if0 _ _).trans (teq ((lw_eq _ _).mpr (by rcases hj with h | h | h | h | h | h <;> rw [h] <;> first | exact hq0 | exact hq1 | exact hq2 | exact hq3 | exact hq4 | exact hq5))).2) k) ?_
      show G T80 (mkF m 251 ls83 [])
      refine step (fun t k => XS.iconst X80.here hx rfl (hb hby at_251) k) ?_
      show G T80 (mkF m 252 ls83 [(.int 1)])
      refine step (fun t k => XS.goto X80.here hx rfl (pc0 := 252) (pc' := 256) rfl (hb hby at_252) (by decide) (by decide) k) ?_
      show G T80 (mkF m 256 ls83 [(.int 1)])
      exact ret (v := some (.int 1)) X80 hS hk72 (fun h => by rw [Bd.returns] at h; cases h) (fun fs hr => retN X80 hx (t := .boolean) Bd.returns (by simp) (hb hby at_256) hr) e80 ⟨rfl, N80⟩ (by decide) (by decide)
    · skip
      obtain ⟨ls84, hls84⟩  := own_sl #[.val (.long q0), .second, .val (.int p1), .val (.int p2), .val (.int p3), .val (.int p4), .val (.long bb), .second, .val (.long sp), .second, .val (.int 0), .val (.int 3), .val (.ref b11), .val (.ref b13), .val (.long nw), .second, .val (.int 4), .unset, .unset, .unset, .unset, .unset]
      rw [show ls30 = ls84 from by rw [hls30, hls84, hee]]
      show G T26 (mkF m 118 ls84 [])
      refine step (fun t k => XS.iload X26.here hx rfl (hb hby at_118) (by rw [hls84]; rfl) k) ?_
      show G T26 (mkF m 120 ls84 [(.int 3)])
      refine step (fun t k => XS.iconst X26.here hx rfl (hb hby at_120) k) ?_
      show G T26 (mkF m 121 ls84 [(.int 1), (.int 3)])
      refine step (fun t k => XS.icmpNo X26.here hx rfl (hb hby at_121) rfl (flt (by decide : ¬ ((3 : Int32) < (1 : Int32)))).1 k) ?_
      show G T26 (mkF m 124 ls84 [])
      refine step (fun t k => XS.aload X26.here hx rfl (hb hby at_124) (by rw [hls84]; rfl) rfl k) ?_
      show G T26 (mkF m 126 ls84 [(.ref b13)])
      refine step (fun t k => XS.lload X26.here hx rfl (hb hby at_126) (by rw [hls84]; rfl) k) ?_
      show G T26 (mkF m 128 ls84 [(.long bb), (.ref b13)])
      have q85 := X26.ldc2Long hx hown (mvT hZ (ww107 hw)) (g := (mkF m 128 ls84 [(.long bb), (.ref b13)])) rfl (hb hby at_128)
      refine step q85 ?_
      show G T26 (mkF m 131 ls84 [(.long 4), (.long bb), (.ref b13)])
      refine step (fun t k => XS.lload X26.here hx rfl (hb hby at_131) (by rw [hls84]; rfl) k) ?_
      show G T26 (mkF m 133 ls84 [(.long sp), (.long 4), (.long bb), (.ref b13)])
      refine step (fun t k => XS.lmul X26.here hx rfl (hb hby at_133) rfl k) ?_
      show G T26 (mkF m 134 ls84 [(.long ((4 : Int64) * sp)), (.long bb), (.ref b13)])
      refine step (fun t k => XS.ladd X26.here hx rfl (hb hby at_134) rfl k) ?_
      show G T26 (mkF m 135 ls84 [(.long (bb + ((4 : Int64) * sp))), (.ref b13)])
      obtain ⟨B4, hB4⟩ : ∃ z : Int64, z = (bb + ((4 : Int64) * sp)) := ⟨_, rfl⟩
      rw [← hB4]
      show G T26 (mkF m 135 ls84 [(.long B4), (.ref b13)])
      have tB4 := own_B (4 : Int64) 4 (by decide) (by decide) (by decide) hbb1 hsp1 hB4
      have hq4 := hB4
      have f87 := (Arv.keep Y22_4 K26q (ninS (Nat.ne_of_gt lt_b13_b14) nin0))
      have hK86 := (backOf (R := room_1) (p := p) (e := e) (below := below) (args := #[(.long q0), (.int p1), (.int p2), (.int p3), (.int p4)]) (len := 3) (W := 0) (rm_addg_4_0 l Z a0 hw [] w_0 w_1 w_2 b13 B4 b14 kb_14 bb B1 B2 B3 T26.heap n0 (own_old_le O26) ST O26 Y26_0 ge_b13 Y26_1 ge_b14 Y26_2 Y26_3 f87) hZ (ww63 hw) (ww51 hw) (by decide) (by decide))
      obtain ⟨cq86, kq86, q86a, q86b, q86c⟩ := isOf hZ rfl Y26_0
      obtain ⟨_, _, ⟨T86, L86, k86, n86⟩, -, X86, ⟨Lc86, hQ86, l86, y86, z86⟩, st86⟩ := X26.virtualBack hx (y := y_10) (z := y_10) hown (mvT hZ (ww59 hw)) (mvT hZ (ww60 hw)) (notFace_of_selects (args := #[]) (mvT hZ (ww62 hw))) (mvT hZ (ww62 hw)) (mvT hZ (ww61 hw)) (by decide) hK86 q86a q86c (g := (mkF m 135 ls84 [(.long B4), (.ref b13)])) rfl (by rw [hml, hls84]; rfl) (Steps.refl _) (argsL := [(.long B4)]) (rest := []) (lenOf pd_5 rfl) rfl (by show 2 * 0 + _ ≤ _; exact Nat.le_of_eq rfl) (hb hby at_135) (fun _ _ => ⟨rfl, rfl, (by decide : 5 + 1 ≤ _), (by decide : 30 + 8 ≤ _)⟩)
      dsimp only [Pt.U, Pt.locs, Pt.cells, Pt.slots] at X86 l86 y86 z86 st86 hQ86
      subst l86 y86 z86
      have f88 := (Exa.keep f27 K26q)
      obtain ⟨b86, kb_86, rfl, N86q, K86q, Y86_0, Y86_1, Y86_2, Y86_3, Y86_4, Y86_5⟩ := hQ86
      have N86 := Fr.app N26 N86q
      obtain ⟨lc86, X86, N86⟩ := own_gen X86 N86
      have O86 := O26.keep K86q (allS ge_b13 all0)
      have ge_b86 : n0 ≤ b86 := Nat.le_trans (own_old_le O26) Y86_0
      have lt_b11_b86 : b11 < b86 := Nat.lt_of_lt_of_le f88.lt Y86_0
      have lt_b13_b86 : b13 < b86 := Nat.lt_of_lt_of_le Y26_0.lt Y86_0
      have lt_b14_b86 : b14 < b86 := Nat.lt_of_lt_of_le f87.lt Y86_0
      have hk86 : _ ≤ T86.heap.size := Nat.le_trans hk26 K86q.1
      refine step (fun t k => st86.trans k) ?_
      show G T86 (mkF m 138 ls84 [])
      refine step (fun t k => XS.iload X86.here hx rfl (hb hby at_138) (by rw [hls84]; rfl) k) ?_
      show G T86 (mkF m 140 ls84 [(.int 3)])
      refine step (fun t k => XS.iconst X86.here hx rfl (hb hby at_140) k) ?_
      show G T86 (mkF m 141 ls84 [(.int 2), (.int 3)])
      refine step (fun t k => XS.icmpNo X86.here hx rfl (hb hby at_141) rfl (flt (by decide : ¬ ((3 : Int32) < (2 : Int32)))).1 k) ?_
      show G T86 (mkF m 144 ls84 [])
      refine step (fun t k => XS.aload X86.here hx rfl (hb hby at_144) (by rw [hls84]; rfl) rfl k) ?_
      show G T86 (mkF m 146 ls84 [(.ref b13)])
      refine step (fun t k => XS.lload X86.here hx rfl (hb hby at_146) (by rw [hls84]; rfl) k) ?_
      show G T86 (mkF m 148 ls84 [(.long bb), (.ref b13)])
      have q89 := X86.ldc2Long hx hown (mvT hZ (ww108 hw)) (g := (mkF m 148 ls84 [(.long bb), (.ref b13)])) rfl (hb hby at_148)
      refine step q89 ?_
      show G T86 (mkF m 151 ls84 [(.long 5), (.long bb), (.ref b13)])
      refine step (fun t k => XS.lload X86.here hx rfl (hb hby at_151) (by rw [hls84]; rfl) k) ?_
      show G T86 (mkF m 153 ls84 [(.long sp), (.long 5), (.long bb), (.ref b13)])
      refine step (fun t k => XS.lmul X86.here hx rfl (hb hby at_153) rfl k) ?_
      show G T86 (mkF m 154 ls84 [(.long ((5 : Int64) * sp)), (.long bb), (.ref b13)])
      refine step (fun t k => XS.ladd X86.here hx rfl (hb hby at_154) rfl k) ?_
      show G T86 (mkF m 155 ls84 [(.long (bb + ((5 : Int64) * sp))), (.ref b13)])
      obtain ⟨B5, hB5⟩ : ∃ z : Int64, z = (bb + ((5 : Int64) * sp)) := ⟨_, rfl⟩
      rw [← hB5]
      show G T86 (mkF m 155 ls84 [(.long B5), (.ref b13)])
      have tB5 := own_B (5 : Int64) 5 (by decide) (by decide) (by decide) hbb1 hsp1 hB5
      have hq5 := hB5
      have hK90 := (backOf (R := room_1) (p := p) (e := e) (below := below) (args := #[(.long q0), (.int p1), (.int p2), (.int p3), (.int p4)]) (len := 3) (W := 0) (rm_add_8_5 l Z a0 hw [] w_0 w_1 w_2 b13 B5 b86 kb_86 bb B1 B2 B3 B4 (0 : Int64) (0 : Int64) (0 : Int64) (0 : Int32) (5 : Int32) (6 : Int32) T86.heap n0 (own_old_le O86) ST O86 Y86_1 ge_b13 Y86_2 ge_b86 Y86_3 Y86_4 Y86_5 (by decide : ¬ ((5 : Int32) = (8 : Int32))) (by decide : ((5 : Int32) + (1 : Int32)) = (6 : Int32)) (by decide : (((0 : Int32) + (5 : Int32)) % (8 : Int32)) = (5 : Int32))) hZ (ww63 hw) (ww51 hw) (by decide) (by decide))
      obtain ⟨cq90, kq90, q90a, q90b, q90c⟩ := isOf hZ rfl Y86_1
      obtain ⟨_, _, ⟨T90, L90, k90, n90⟩, -, X90, ⟨Lc90, hQ90, l90, y90, z90⟩, st90⟩ := X86.virtualBack hx (y := y_10) (z := y_10) hown (mvT hZ (ww59 hw)) (mvT hZ (ww60 hw)) (notFace_of_selects (args := #[]) (mvT hZ (ww62 hw))) (mvT hZ (ww62 hw)) (mvT hZ (ww61 hw)) (by decide) hK90 q90a q90c (g := (mkF m 155 ls84 [(.long B5), (.ref b13)])) rfl (by rw [hml, hls84]; rfl) (Steps.refl _) (argsL := [(.long B5)]) (rest := []) (lenOf pd_5 rfl) rfl (by show 2 * 0 + _ ≤ _; exact Nat.le_of_eq rfl) (hb hby at_155) (fun _ _ => ⟨rfl, rfl, (by decide : 6 + 0 ≤ _), (by decide : 38 + 0 ≤ _)⟩)
      dsimp only [Pt.U, Pt.locs, Pt.cells, Pt.slots] at X90 l90 y90 z90 st90 hQ90
      subst l90 y90 z90
      obtain ⟨rfl, N90q, K90q, Y90_0, Y90_1, Y90_2, Y90_3, Y90_4⟩ := hQ90
      have N90 := Fr.app N86 N90q
      obtain ⟨lc90, X90, N90⟩ := own_gen X90 N90
      have O90 := O86.keep K90q (allS ge_b13 (allS ge_b86 all0))
      have hk90 : _ ≤ T90.heap.size := Nat.le_trans hk86 K90q.1
      refine step (fun t k => st90.trans k) ?_
      show G T90 (mkF m 158 ls84 [])
      refine step (fun t k => XS.iload X90.here hx rfl (hb hby at_158) (by rw [hls84]; rfl) k) ?_
      show G T90 (mkF m 160 ls84 [(.int 3)])
      refine step (fun t k => XS.iconst X90.here hx rfl (hb hby at_160) k) ?_
      show G T90 (mkF m 161 ls84 [(.int 3), (.int 3)])
      refine step (fun t k => XS.icmpNo X90.here hx rfl (hb hby at_161) rfl (flt (by decide : ¬ ((3 : Int32) < (3 : Int32)))).1 k) ?_
      show G T90 (mkF m 164 ls84 [])
      refine step (fun t k => XS.aload X90.here hx rfl (hb hby at_164) (by rw [hls84]; rfl) rfl k) ?_
      show G T90 (mkF m 166 ls84 [(.ref b13)])
      refine step (fun t k => XS.lload X90.here hx rfl (hb hby at_166) (by rw [hls84]; rfl) k) ?_
      show G T90 (mkF m 168 ls84 [(.long bb), (.ref b13)])
      have q91 := X90.ldc2Long hx hown (mvT hZ (ww109 hw)) (g := (mkF m 168 ls84 [(.long bb), (.ref b13)])) rfl (hb hby at_168)
      refine step q91 ?_
      show G T90 (mkF m 171 ls84 [(.long 6), (.long bb), (.ref b13)])
      refine step (fun t k => XS.lload X90.here hx rfl (hb hby at_171) (by rw [hls84]; rfl) k) ?_
      show G T90 (mkF m 173 ls84 [(.long sp), (.long 6), (.long bb), (.ref b13)])
      refine step (fun t k => XS.lmul X90.here hx rfl (hb hby at_173) rfl k) ?_
      show G T90 (mkF m 174 ls84 [(.long ((6 : Int64) * sp)), (.long bb), (.ref b13)])
      refine step (fun t k => XS.ladd X90.here hx rfl (hb hby at_174) rfl k) ?_
      show G T90 (mkF m 175 ls84 [(.long (bb + ((6 : Int64) * sp))), (.ref b13)])
      obtain ⟨B6, hB6⟩ : ∃ z : Int64, z = (bb + ((6 : Int64) * sp)) := ⟨_, rfl⟩
      rw [← hB6]
      show G T90 (mkF m 175 ls84 [(.long B6), (.ref b13)])
      have tB6 := own_B (6 : Int64) 6 (by decide) (by decide) (by decide) hbb1 hsp1 hB6
      have hq6 := hB6
      have hK92 := (backOf (R := room_1) (p := p) (e := e) (below := below) (args := #[(.long q0), (.int p1), (.int p2), (.int p3), (.int p4)]) (len := 3) (W := 0) (rm_add_8_6 l Z a0 hw [] w_0 w_1 w_2 b13 B6 b86 kb_86 bb B1 B2 B3 B4 B5 (0 : Int64) (0 : Int64) (0 : Int32) (6 : Int32) (7 : Int32) T90.heap n0 (own_old_le O90) ST O90 Y90_0 ge_b13 Y90_1 ge_b86 Y90_2 Y90_3 Y90_4 (by decide : ¬ ((6 : Int32) = (8 : Int32))) (by decide : ((6 : Int32) + (1 : Int32)) = (7 : Int32)) (by decide : (((0 : Int32) + (6 : Int32)) % (8 : Int32)) = (6 : Int32))) hZ (ww63 hw) (ww51 hw) (by decide) (by decide))
      obtain ⟨cq92, kq92, q92a, q92b, q92c⟩ := isOf hZ rfl Y90_0
      obtain ⟨_, _, ⟨T92, L92, k92, n92⟩, -, X92, ⟨Lc92, hQ92, l92, y92, z92⟩, st92⟩ := X90.virtualBack hx (y := y_10) (z := y_10) hown (mvT hZ (ww59 hw)) (mvT hZ (ww60 hw)) (notFace_of_selects (args := #[]) (mvT hZ (ww62 hw))) (mvT hZ (ww62 hw)) (mvT hZ (ww61 hw)) (by decide) hK92 q92a q92c (g := (mkF m 175 ls84 [(.long B6), (.ref b13)])) rfl (by rw [hml, hls84]; rfl) (Steps.refl _) (argsL := [(.long B6)]) (rest := []) (lenOf pd_5 rfl) rfl (by show 2 * 0 + _ ≤ _; exact Nat.le_of_eq rfl) (hb hby at_175) (fun _ _ => ⟨rfl, rfl, (by decide : 6 + 0 ≤ _), (by decide : 38 + 0 ≤ _)⟩)
      dsimp only [Pt.U, Pt.locs, Pt.cells, Pt.slots] at X92 l92 y92 z92 st92 hQ92
      subst l92 y92 z92
      obtain ⟨rfl, N92q, K92q, Y92_0, Y92_1, Y92_2, Y92_3, Y92_4⟩ := hQ92
      have N92 := Fr.app N90 N92q
      obtain ⟨lc92, X92, N92⟩ := own_gen X92 N92
      have O92 := O90.keep K92q (allS ge_b13 (allS ge_b86 all0))
      have hk92 : _ ≤ T92.heap.size := Nat.le_trans hk90 K92q.1
      refine step (fun t k => st92.trans k) ?_
      show G T92 (mkF m 178 ls84 [])
      refine step (fun t k => XS.iconst X92.here hx rfl (hb hby at_178) k) ?_
      show G T92 (mkF m 179 ls84 [(.int 4)])
      refine step (fun t k => XS.iload X92.here hx rfl (hb hby at_179) (by rw [hls84]; rfl) k) ?_
      show G T92 (mkF m 181 ls84 [(.int 0), (.int 4)])
      refine step (fun t k => XS.isub X92.here hx rfl (hb hby at_181) rfl k) ?_
      show G T92 (mkF m 182 ls84 [(.int ((4 : Int32) - (0 : Int32)))])
      rw [(by decide : ((4 : Int32) - (0 : Int32)) = (4 : Int32))]
      show G T92 (mkF m 182 ls84 [(.int 4)])
      refine step (fun t k => XS.iload X92.here hx rfl (hb hby at_182) (by rw [hls84]; rfl) k) ?_
      show G T92 (mkF m 184 ls84 [(.int 3), (.int 4)])
      refine step (fun t k => XS.iadd X92.here hx rfl (hb hby at_184) rfl k) ?_
      show G T92 (mkF m 185 ls84 [(.int ((4 : Int32) + (3 : Int32)))])
      rw [(by decide : ((4 : Int32) + (3 : Int32)) = (7 : Int32))]
      show G T92 (mkF m 185 ls84 [(.int 7)])
      obtain ⟨ls93, hls93⟩  := own_sl #[.val (.long q0), .second, .val (.int p1), .val (.int p2), .val (.int p3), .val (.int p4), .val (.long bb), .second, .val (.long sp), .second, .val (.int 0), .val (.int 3), .val (.ref b11), .val (.ref b13), .val (.long nw), .second, .val (.int 4), .val (.int 7), .unset, .unset, .unset, .unset]
      refine step (fun t k => XS.istore X92.here hx rfl (hb hby at_185) rfl (l' := ls93) (by rw [hls84, hls93]; rfl) k) ?_
      show G T92 (mkF m 187 ls93 [])
      refine step (fun t k => XS.aload X92.here hx rfl (hb hby at_187) (by rw [hls93]; rfl) rfl k) ?_
      show G T92 (mkF m 189 ls93 [(.ref b13)])
      refine step (fun t k => XS.aload X92.here hx rfl (hb hby at_189) (by rw [hls93]; rfl) rfl k) ?_
      show G T92 (mkF m 191 ls93 [(.ref b11), (.ref b13)])
      refine step (fun t k => XS.lload X92.here hx rfl (hb hby at_191) (by rw [hls93]; rfl) k) ?_
      show G T92 (mkF m 193 ls93 [(.long nw), (.ref b11), (.ref b13)])
      have f95 := (Exa.keep (Exa.keep (Exa.keep f88 K86q) K90q) K92q)
      have f96 := (Fld.keep (Fld.keep (Fld.keep (Fld.keep f28 K26q (ninS (Nat.ne_of_lt lt_b11_b13) nin0)) K86q (ninS (Nat.ne_of_lt lt_b11_b13) nin0)) K90q (ninS (Nat.ne_of_lt lt_b11_b13) (ninS (Nat.ne_of_lt lt_b11_b86) nin0))) K92q (ninS (Nat.ne_of_lt lt_b11_b13) (ninS (Nat.ne_of_lt lt_b11_b86) nin0)))
      have f97 := (Fld.keep (Fld.keep (Fld.keep (Fld.keep f29 K26q (ninS (Nat.ne_of_lt lt_b11_b13) nin0)) K86q (ninS (Nat.ne_of_lt lt_b11_b13) nin0)) K90q (ninS (Nat.ne_of_lt lt_b11_b13) (ninS (Nat.ne_of_lt lt_b11_b86) nin0))) K92q (ninS (Nat.ne_of_lt lt_b11_b13) (ninS (Nat.ne_of_lt lt_b11_b86) nin0)))
      have hK94 := (backOf (R := room_1) (p := p) (e := e) (below := below) (args := #[(.long q0), (.int p1), (.int p2), (.int p3), (.int p4)]) (len := 3) (W := 0) (rm_cnt0_8 l Z a0 hw [] w_0 w_1 w_2 b13 b11 nw b86 kb_86 bb B1 B2 B3 B4 B5 B6 (0 : Int64) (0 : Int32) (7 : Int32) (1 : Int64) T92.heap n0 (own_old_le O92) ST O92 Y92_0 ge_b13 Y92_1 ge_b86 Y92_2 Y92_3 Y92_4 ((by decide) : (0 : Int32) < (7 : Int32)) (by decide) f95 f96 f97 (show (nw - (1 : Int64)) < bb from (own_ltB tnw1 tB0 hsp1.1 (by decide)))) hZ (ww74 hw) (ww51 hw) (by decide) (by decide))
      obtain ⟨cq94, kq94, q94a, q94b, q94c⟩ := isOf hZ rfl Y92_0
      obtain ⟨_, _, ⟨T94, L94, k94, n94⟩, -, X94, ⟨Lc94, hQ94, l94, y94, z94⟩, st94⟩ := X92.virtualBack hx (y := y_13) (z := y_13) hown (mvT hZ (ww70 hw)) (mvT hZ (ww71 hw)) (notFace_of_selects (args := #[]) (mvT hZ (ww73 hw))) (mvT hZ (ww73 hw)) (mvT hZ (ww72 hw)) (by decide) hK94 q94a q94c (g := (mkF m 193 ls93 [(.long nw), (.ref b11), (.ref b13)])) rfl (by rw [hml, hls93]; rfl) (Steps.refl _) (argsL := [(.ref b11), (.long nw)]) (rest := []) (lenOf pd_9 rfl) rfl (by show 2 * 0 + _ ≤ _; exact Nat.le_of_eq rfl) (hb hby at_193) (fun _ _ => ⟨rfl, rfl, (by decide : 6 + 0 ≤ _), (by decide : 38 + 0 ≤ _)⟩)
      dsimp only [Pt.U, Pt.locs, Pt.cells, Pt.slots] at X94 l94 y94 z94 st94 hQ94
      subst l94 y94 z94
      obtain ⟨rfl, N94q, K94q, Y94_0, Y94_1, Y94_2, Y94_3⟩ := hQ94
      have N94 := Fr.app N92 N94q
      obtain ⟨lc94, X94, N94⟩ := own_gen X94 N94
      have O94 := O92.keep K94q (allS ge_b13 all0)
      have hk94 : _ ≤ T94.heap.size := Nat.le_trans hk92 K94q.1
      refine step (fun t k => st94.trans k) ?_
      show G T94 (mkF m 196 ls93 [(.int 7)])
      obtain ⟨ls98, hls98⟩  := own_sl #[.val (.long q0), .second, .val (.int p1), .val (.int p2), .val (.int p3), .val (.int p4), .val (.long bb), .second, .val (.long sp), .second, .val (.int 0), .val (.int 3), .val (.ref b11), .val (.ref b13), .val (.long nw), .second, .val (.int 4), .val (.int 7), .val (.int 7), .unset, .unset, .unset]
      refine step (fun t k => XS.istore X94.here hx rfl (hb hby at_196) rfl (l' := ls98) (by rw [hls93, hls98]; rfl) k) ?_
      show G T94 (mkF m 198 ls98 [])
      refine step (fun t k => XS.iload X94.here hx rfl (hb hby at_198) (by rw [hls98]; rfl) k) ?_
      show G T94 (mkF m 200 ls98 [(.int p4)])
      have q99 := X94.ldcInt hx hown (mvT hZ (ww101 hw)) (g := (mkF m 200 ls98 [(.int p4)])) rfl (hb hby at_200)
      refine step q99 ?_
      show G T94 (mkF m 202 ls98 [(.int 2147483647), (.int p4)])
      refine step (fun t k => XS.iand X94.here hx rfl (hb hby at_202) rfl k) ?_
      show G T94 (mkF m 203 ls98 [(.int (p4 &&& (2147483647 : Int32)))])
      refine step (fun t k => XS.iload X94.here hx rfl (hb hby at_203) (by rw [hls98]; rfl) k) ?_
      show G T94 (mkF m 205 ls98 [(.int 7), (.int (p4 &&& (2147483647 : Int32)))])
      refine step (fun t k => iremM X94 hx rfl (hb hby at_205) rfl (by decide) k) ?_
      show G T94 (mkF m 206 ls98 [(.int ((p4 &&& (2147483647 : Int32)) % (7 : Int32)))])
      obtain ⟨ls100, hls100⟩  := own_sl #[.val (.long q0), .second, .val (.int p1), .val (.int p2), .val (.int p3), .val (.int p4), .val (.long bb), .second, .val (.long sp), .second, .val (.int 0), .val (.int 3), .val (.ref b11), .val (.ref b13), .val (.long nw), .second, .val (.int 4), .val (.int 7), .val (.int 7), .val (.int ((p4 &&& (2147483647 : Int32)) % (7 : Int32))), .unset, .unset]
      refine step (fun t k => XS.istore X94.here hx rfl (hb hby at_206) rfl (l' := ls100) (by rw [hls98, hls100]; rfl) k) ?_
      show G T94 (mkF m 208 ls100 [])
      obtain ⟨jj, hjj⟩ : ∃ z : Int32, z = ((p4 &&& (2147483647 : Int32)) % (7 : Int32)) := ⟨_, rfl⟩
      obtain ⟨ls101, hls101⟩  := own_sl #[.val (.long q0), .second, .val (.int p1), .val (.int p2), .val (.int p3), .val (.int p4), .val (.long bb), .second, .val (.long sp), .second, .val (.int 0), .val (.int 3), .val (.ref b11), .val (.ref b13), .val (.long nw), .second, .val (.int 4), .val (.int 7), .val (.int 7), .val (.int jj), .unset, .unset]
      rw [show ls100 = ls101 from by rw [hls100, hls101, hjj]]
      show G T94 (mkF m 208 ls101 [])
      have hj := own_j7 p4
      rw [← hjj] at hj
      refine step (fun t k => XS.aload X94.here hx rfl (hb hby at_208) (by rw [hls101]; rfl) rfl k) ?_
      show G T94 (mkF m 210 ls101 [(.ref b13)])
      refine step (fun t k => XS.iload X94.here hx rfl (hb hby at_210) (by rw [hls101]; rfl) k) ?_
      show G T94 (mkF m 212 ls101 [(.int jj), (.ref b13)])
      have f103 := (Arv.keep Y92_4 K94q (ninS (Nat.ne_of_gt lt_b13_b86) nin0))
      have hK102 := (backOf (R := room_1) (p := p) (e := e) (below := below) (args := #[(.long q0), (.int p1), (.int p2), (.int p3), (.int p4)]) (len := 3) (W := 0) (rm_get8 l Z a0 hw [] w_0 w_1 w_2 b13 jj b86 kb_86 bb B1 B2 B3 B4 B5 B6 (0 : Int64) (0 : Int32) T94.heap n0 (own_old_le O94) ST O94 Y94_1 Y94_2 f103 (by rcases hj with h | h | h | h | h | h | h <;> (rw [h]; decide))) hZ (ww106 hw) (ww51 hw) (by decide) (by decide))
      obtain ⟨cq102, kq102, q102a, q102b, q102c⟩ := isOf hZ rfl Y94_0
      obtain ⟨_, _, ⟨T102, L102, k102, n102⟩, -, X102, ⟨Lc102, hQ102, l102, y102, z102⟩, st102⟩ := X94.virtualBack hx (y := y_14) (z := y_14) hown (mvT hZ (ww102 hw)) (mvT hZ (ww103 hw)) (notFace_of_selects (args := #[]) (mvT hZ (ww105 hw))) (mvT hZ (ww105 hw)) (mvT hZ (ww104 hw)) (by decide) hK102 q102a q102c (g := (mkF m 212 ls101 [(.int jj), (.ref b13)])) rfl (by rw [hml, hls101]; rfl) (Steps.refl _) (argsL := [(.int jj)]) (rest := []) (lenOf pd_10 rfl) rfl (by show 2 * 0 + _ ≤ _; exact Nat.le_of_eq rfl) (hb hby at_212) (fun _ _ => ⟨rfl, rfl, (by decide : 6 + 0 ≤ _), (by decide : 38 + 0 ≤ _)⟩)
      dsimp only [Pt.U, Pt.locs, Pt.cells, Pt.slots] at X102 l102 y102 z102 st102 hQ102
      subst l102 y102 z102
      obtain ⟨rfl, N102q, e102⟩ := hQ102
      have N102 := Fr.app N94 N102q
      obtain ⟨lc102, X102, N102⟩ := own_gen X102 N102
      refine step (fun t k => st102.trans k) ?_
      show G T102 (mkF m 215 ls101 [(.long (f_get8 w_0 w_1 w_2 b13 jj b86 kb_86 bb B1 B2 B3 B4 B5 B6 (0 : Int64) (0 : Int32)))])
      have r104 : (f_get8 w_0 w_1 w_2 b13 jj b86 kb_86 bb B1 B2 B3 B4 B5 B6 (0 : Int64) (0 : Int32)) = (own_at8 bb B1 B2 B3 B4 B5 B6 (0 : Int64) (((0 : Int32) + jj) % (8 : Int32))) := rfl
      rw [r104]
      show G T102 (mkF m 215 ls101 [(.long (own_at8 bb B1 B2 B3 B4 B5 B6 (0 : Int64) (((0 : Int32) + jj) % (8 : Int32))))])
      obtain ⟨ls105, hls105⟩  := own_sl #[.val (.long q0), .second, .val (.int p1), .val (.int p2), .val (.int p3), .val (.int p4), .val (.long bb), .second, .val (.long sp), .second, .val (.int 0), .val (.int 3), .val (.ref b11), .val (.ref b13), .val (.long nw), .second, .val (.int 4), .val (.int 7), .val (.int 7), .val (.int jj), .val (.long (own_at8 bb B1 B2 B3 B4 B5 B6 (0 : Int64) (((0 : Int32) + jj) % (8 : Int32)))), .second]
      refine step (fun t k => XS.lstore X102.here hx rfl (hb hby at_215) rfl (l' := ls105) (by rw [hls101, hls105]; rfl) k) ?_
      show G T102 (mkF m 217 ls105 [])
      refine step (fun t k => XS.iload X102.here hx rfl (hb hby at_217) (by rw [hls105]; rfl) k) ?_
      show G T102 (mkF m 219 ls105 [(.int 4)])
      refine step (fun t k => XS.iconst X102.here hx rfl (hb hby at_219) k) ?_
      show G T102 (mkF m 220 ls105 [(.int 4), (.int 4)])
      refine step (fun t k => XS.iload X102.here hx rfl (hb hby at_220) (by rw [hls105]; rfl) k) ?_
      show G T102 (mkF m 222 ls105 [(.int 0), (.int 4), (.int 4)])
      refine step (fun t k => XS.isub X102.here hx rfl (hb hby at_222) rfl k) ?_
      show G T102 (mkF m 223 ls105 [(.int ((4 : Int32) - (0 : Int32))), (.int 4)])
      rw [(by decide : ((4 : Int32) - (0 : Int32)) = (4 : Int32))]
      show G T102 (mkF m 223 ls105 [(.int 4), (.int 4)])
      refine step (fun t k => XS.icmpNo X102.here hx rfl (hb hby at_223) rfl (teq (by decide : (4 : Int32) = (4 : Int32))).2 k) ?_
      show G T102 (mkF m 226 ls105 [])
      refine step (fun t k => XS.iload X102.here hx rfl (hb hby at_226) (by rw [hls105]; rfl) k) ?_
      show G T102 (mkF m 228 ls105 [(.int 7)])
      refine step (fun t k => XS.iload X102.here hx rfl (hb hby at_228) (by rw [hls105]; rfl) k) ?_
      show G T102 (mkF m 230 ls105 [(.int 7), (.int 7)])
      refine step (fun t k => XS.icmpNo X102.here hx rfl (hb hby at_230) rfl (teq (by decide : (7 : Int32) = (7 : Int32))).2 k) ?_
      show G T102 (mkF m 233 ls105 [])
      refine step (fun t k => XS.lload X102.here hx rfl (hb hby at_233) (by rw [hls105]; rfl) k) ?_
      show G T102 (mkF m 235 ls105 [(.long (own_at8 bb B1 B2 B3 B4 B5 B6 (0 : Int64) (((0 : Int32) + jj) % (8 : Int32))))])
      refine step (fun t k => XS.lload X102.here hx rfl (hb hby at_235) (by rw [hls105]; rfl) k) ?_
      show G T102 (mkF m 237 ls105 [(.long bb), (.long (own_at8 bb B1 B2 B3 B4 B5 B6 (0 : Int64) (((0 : Int32) + jj) % (8 : Int32))))])
      refine step (fun t k => XS.iload X102.here hx rfl (hb hby at_237) (by rw [hls105]; rfl) k) ?_
      show G T102 (mkF m 239 ls105 [(.int 0), (.long bb), (.long (own_at8 bb B1 B2 B3 B4 B5 B6 (0 : Int64) (((0 : Int32) + jj) % (8 : Int32))))])
      refine step (fun t k => XS.iload X102.here hx rfl (hb hby at_239) (by rw [hls105]; rfl) k) ?_
      show G T102 (mkF m 241 ls105 [(.int jj), (.int 0), (.long bb), (.long (own_at8 bb B1 B2 B3 B4 B5 B6 (0 : Int64) (((0 : Int32) + jj) % (8 : Int32))))])
      refine step (fun t k => XS.iadd X102.here hx rfl (hb hby at_241) rfl k) ?_
      show G T102 (mkF m 242 ls105 [(.int ((0 : Int32) + jj)), (.long bb), (.long (own_at8 bb B1 B2 B3 B4 B5 B6 (0 : Int64) (((0 : Int32) + jj) % (8 : Int32))))])
      refine step (fun t k => XS.i2l X102.here hx rfl (hb hby at_242) rfl k) ?_
      show G T102 (mkF m 243 ls105 [(.long (((0 : Int32) + jj).toInt64)), (.long bb), (.long (own_at8 bb B1 B2 B3 B4 B5 B6 (0 : Int64) (((0 : Int32) + jj) % (8 : Int32))))])
      refine step (fun t k => XS.lload X102.here hx rfl (hb hby at_243) (by rw [hls105]; rfl) k) ?_
      show G T102 (mkF m 245 ls105 [(.long sp), (.long (((0 : Int32) + jj).toInt64)), (.long bb), (.long (own_at8 bb B1 B2 B3 B4 B5 B6 (0 : Int64) (((0 : Int32) + jj) % (8 : Int32))))])
      refine step (fun t k => XS.lmul X102.here hx rfl (hb hby at_245) rfl k) ?_
      show G T102 (mkF m 246 ls105 [(.long ((((0 : Int32) + jj).toInt64) * sp)), (.long bb), (.long (own_at8 bb B1 B2 B3 B4 B5 B6 (0 : Int64) (((0 : Int32) + jj) % (8 : Int32))))])
      refine step (fun t k => XS.ladd X102.here hx rfl (hb hby at_246) rfl k) ?_
      show G T102 (mkF m 247 ls105 [(.long (bb + ((((0 : Int32) + jj).toInt64) * sp))), (.long (own_at8 bb B1 B2 B3 B4 B5 B6 (0 : Int64) (((0 : Int32) + jj) % (8 : Int32))))])
      refine step (fun t k => XS.lcmp X102.here hx rfl (hb hby at_247) rfl k) ?_
      show G T102 (mkF m 248 ls105 [(.int (lcmpW (own_at8 bb B1 B2 B3 B4 B5 B6 (0 : Int64) (((0 : Int32) + jj) % (8 : Int32))) (bb + ((((0 : Int32) + jj).toInt64) * sp))))])
      refine step (fun t k => XS.ifNo X102.here hx rfl (hb hby at_248) rfl ((if0 _ _).trans (teq ((lw_eq _ _).mpr (by rcases hj with h | h | h | h | h | h | h <;> rw [h] <;> first | exact hq0 | exact hq1 | exact hq2 | exact hq3 | exact hq4 | exact hq5 | exact hq6))).2) k) ?_
      show G T102 (mkF m 251 ls105 [])
      refine step (fun t k => XS.iconst X102.here hx rfl (hb hby at_251) k) ?_
      show G T102 (mkF m 252 ls105 [(.int 1)])
      refine step (fun t k => XS.goto X102.here hx rfl (pc0 := 252) (pc' := 256) rfl (hb hby at_252) (by decide) (by decide) k) ?_
      show G T102 (mkF m 256 ls105 [(.int 1)])
      exact ret (v := some (.int 1)) X102 hS hk94 (fun h => by rw [Bd.returns] at h; cases h) (fun fs hr => retN X102 hx (t := .boolean) Bd.returns (by simp) (hb hby at_256) hr) e102 ⟨rfl, N102⟩ (by decide) (by decide)
  · skip
    obtain ⟨ls106, hls106⟩  := own_sl #[.val (.long q0), .second, .val (.int p1), .val (.int p2), .val (.int p3), .val (.int p4), .val (.long bb), .second, .val (.long sp), .second, .val (.int 1), .val (.int (p3 &&& (3 : Int32))), .val (.ref b11), .val (.ref b13), .unset, .unset, .unset, .unset, .unset, .unset, .unset, .unset]
    rw [show ls16 = ls106 from by rw [hls16, hls106, hkk]]
    show G T22 (mkF m 96 ls106 [])
    refine step (fun t k => XS.lload X22.here hx rfl (hb hby at_96) (by rw [hls106]; rfl) k) ?_
    show G T22 (mkF m 98 ls106 [(.long bb)])
    refine step (fun t k => XS.iload X22.here hx rfl (hb hby at_98) (by rw [hls106]; rfl) k) ?_
    show G T22 (mkF m 100 ls106 [(.int 1), (.long bb)])
    refine step (fun t k => XS.i2l X22.here hx rfl (hb hby at_100) rfl k) ?_
    show G T22 (mkF m 101 ls106 [(.long ((1 : Int32).toInt64)), (.long bb)])
    rw [(by decide : ((1 : Int32).toInt64) = (1 : Int64))]
    show G T22 (mkF m 101 ls106 [(.long 1), (.long bb)])
    refine step (fun t k => XS.lload X22.here hx rfl (hb hby at_101) (by rw [hls106]; rfl) k) ?_
    show G T22 (mkF m 103 ls106 [(.long sp), (.long 1), (.long bb)])
    refine step (fun t k => XS.lmul X22.here hx rfl (hb hby at_103) rfl k) ?_
    show G T22 (mkF m 104 ls106 [(.long ((1 : Int64) * sp)), (.long bb)])
    refine step (fun t k => XS.ladd X22.here hx rfl (hb hby at_104) rfl k) ?_
    show G T22 (mkF m 105 ls106 [(.long (bb + ((1 : Int64) * sp)))])
    obtain ⟨ls107, hls107⟩  := own_sl #[.val (.long q0), .second, .val (.int p1), .val (.int p2), .val (.int p3), .val (.int p4), .val (.long bb), .second, .val (.long sp), .second, .val (.int 1), .val (.int (p3 &&& (3 : Int32))), .val (.ref b11), .val (.ref b13), .val (.long (bb + ((1 : Int64) * sp))), .second, .unset, .unset, .unset, .unset, .unset, .unset]
    refine step (fun t k => XS.lstore X22.here hx rfl (hb hby at_105) rfl (l' := ls107) (by rw [hls106, hls107]; rfl) k) ?_
    show G T22 (mkF m 107 ls107 [])
    obtain ⟨nw, hnw⟩ : ∃ z : Int64, z = (bb + ((1 : Int64) * sp)) := ⟨_, rfl⟩
    obtain ⟨ls108, hls108⟩  := own_sl #[.val (.long q0), .second, .val (.int p1), .val (.int p2), .val (.int p3), .val (.int p4), .val (.long bb), .second, .val (.long sp), .second, .val (.int 1), .val (.int (p3 &&& (3 : Int32))), .val (.ref b11), .val (.ref b13), .val (.long nw), .second, .unset, .unset, .unset, .unset, .unset, .unset]
    rw [show ls107 = ls108 from by rw [hls107, hls108, hnw]]
    show G T22 (mkF m 107 ls108 [])
    have tnw := own_B (1 : Int64) 1 (by decide) (by decide) (by decide) hbb1 hsp1 hnw
    have tnw1 := own_nw1 (by decide) (by decide) hbb1 hsp1 tnw
    refine step (fun t k => XS.aload X22.here hx rfl (hb hby at_107) (by rw [hls108]; rfl) rfl k) ?_
    show G T22 (mkF m 109 ls108 [(.ref b13)])
    refine step (fun t k => XS.aload X22.here hx rfl (hb hby at_109) (by rw [hls108]; rfl) rfl k) ?_
    show G T22 (mkF m 111 ls108 [(.ref b11), (.ref b13)])
    refine step (fun t k => XS.lload X22.here hx rfl (hb hby at_111) (by rw [hls108]; rfl) k) ?_
    show G T22 (mkF m 113 ls108 [(.long nw), (.ref b11), (.ref b13)])
    have f110 := (Exa.keep (Exa.keep (Exa.keep (Exa.keep (Exa.keep f15 K14q) K17q) K18q) K20q) K22q)
    have f111 := (Fld.keep (Fld.keep (Fld.keep (Fld.keep (Fld.keep (Fld.ext E13 Y11_2) K14q (ninS (Nat.ne_of_lt lt_b11_b13) nin0)) K17q (ninS (Nat.ne_of_lt lt_b11_b13) (ninS (Nat.ne_of_lt lt_b11_b14) nin0))) K18q (ninS (Nat.ne_of_lt lt_b11_b13) (ninS (Nat.ne_of_lt lt_b11_b14) nin0))) K20q (ninS (Nat.ne_of_lt lt_b11_b13) (ninS (Nat.ne_of_lt lt_b11_b14) nin0))) K22q (ninS (Nat.ne_of_lt lt_b11_b13) (ninS (Nat.ne_of_lt lt_b11_b14) nin0)))
    have f112 := (Fld.keep (Fld.keep (Fld.keep (Fld.keep (Fld.keep (Fld.ext E13 Y11_3) K14q (ninS (Nat.ne_of_lt lt_b11_b13) nin0)) K17q (ninS (Nat.ne_of_lt lt_b11_b13) (ninS (Nat.ne_of_lt lt_b11_b14) nin0))) K18q (ninS (Nat.ne_of_lt lt_b11_b13) (ninS (Nat.ne_of_lt lt_b11_b14) nin0))) K20q (ninS (Nat.ne_of_lt lt_b11_b13) (ninS (Nat.ne_of_lt lt_b11_b14) nin0))) K22q (ninS (Nat.ne_of_lt lt_b11_b13) (ninS (Nat.ne_of_lt lt_b11_b14) nin0)))
    have hK109 := (backOf (R := room_1) (p := p) (e := e) (below := below) (args := #[(.long q0), (.int p1), (.int p2), (.int p3), (.int p4)]) (len := 3) (W := 0) (rm_cnt_4_0_4_1 l Z a0 hw [] w_0 w_1 w_2 b13 b11 nw b14 kb_14 bb B1 B2 B3 (1 : Int64) T22.heap n0 (own_old_le O22) ST O22 Y22_0 ge_b13 Y22_1 ge_b14 Y22_2 Y22_3 Y22_4 f110 f111 f112 ((own_geB tnw1 tB0 hsp1.1 (by decide)) : ¬ ((nw - (1 : Int64)) < bb)) ((own_ltB tnw1 tB1 hsp1.1 (by decide)) : (nw - (1 : Int64)) < B1)) hZ (ww74 hw) (ww51 hw) (by decide) (by decide))
    obtain ⟨cq109, kq109, q109a, q109b, q109c⟩ := isOf hZ rfl Y22_0
    obtain ⟨_, _, ⟨T109, L109, k109, n109⟩, -, X109, ⟨Lc109, hQ109, l109, y109, z109⟩, st109⟩ := X22.virtualBack hx (y := y_13) (z := y_13) hown (mvT hZ (ww70 hw)) (mvT hZ (ww71 hw)) (notFace_of_selects (args := #[]) (mvT hZ (ww73 hw))) (mvT hZ (ww73 hw)) (mvT hZ (ww72 hw)) (by decide) hK109 q109a q109c (g := (mkF m 113 ls108 [(.long nw), (.ref b11), (.ref b13)])) rfl (by rw [hml, hls108]; rfl) (Steps.refl _) (argsL := [(.ref b11), (.long nw)]) (rest := []) (lenOf pd_9 rfl) rfl (by show 2 * 0 + _ ≤ _; exact Nat.le_of_eq rfl) (hb hby at_113) (fun _ _ => ⟨rfl, rfl, (by decide : 5 + 0 ≤ _), (by decide : 30 + 0 ≤ _)⟩)
    dsimp only [Pt.U, Pt.locs, Pt.cells, Pt.slots] at X109 l109 y109 z109 st109 hQ109
    subst l109 y109 z109
    obtain ⟨rfl, N109q, K109q, Y109_0, Y109_1, Y109_2, Y109_3⟩ := hQ109
    have N109 := Fr.app N22 N109q
    obtain ⟨lc109, X109, N109⟩ := own_gen X109 N109
    have O109 := O22.keep K109q (allS ge_b13 all0)
    have hk109 : _ ≤ T109.heap.size := Nat.le_trans hk22 K109q.1
    refine step (fun t k => st109.trans k) ?_
    show G T109 (mkF m 116 ls108 [(.int 3)])
    obtain ⟨ls113, hls113⟩  := own_sl #[.val (.long q0), .second, .val (.int p1), .val (.int p2), .val (.int p3), .val (.int p4), .val (.long bb), .second, .val (.long sp), .second, .val (.int 1), .val (.int (p3 &&& (3 : Int32))), .val (.ref b11), .val (.ref b13), .val (.long nw), .second, .val (.int 3), .unset, .unset, .unset, .unset, .unset]
    refine step (fun t k => XS.istore X109.here hx rfl (hb hby at_116) rfl (l' := ls113) (by rw [hls108, hls113]; rfl) k) ?_
    show G T109 (mkF m 118 ls113 [])
    rcases own_k4 p3 with hee | hee | hee | hee
    · skip
      obtain ⟨ls114, hls114⟩  := own_sl #[.val (.long q0), .second, .val (.int p1), .val (.int p2), .val (.int p3), .val (.int p4), .val (.long bb), .second, .val (.long sp), .second, .val (.int 1), .val (.int 0), .val (.ref b11), .val (.ref b13), .val (.long nw), .second, .val (.int 3), .unset, .unset, .unset, .unset, .unset]
      rw [show ls113 = ls114 from by rw [hls113, hls114, hee]]
      show G T109 (mkF m 118 ls114 [])
      refine step (fun t k => XS.iload X109.here hx rfl (hb hby at_118) (by rw [hls114]; rfl) k) ?_
      show G T109 (mkF m 120 ls114 [(.int 0)])
      refine step (fun t k => XS.iconst X109.here hx rfl (hb hby at_120) k) ?_
      show G T109 (mkF m 121 ls114 [(.int 1), (.int 0)])
      refine step (fun t k => XS.icmpYes X109.here hx rfl (pc0 := 121) (pc' := 138) rfl (hb hby at_121) rfl (tlt (by decide : (0 : Int32) < (1 : Int32))).1 (by decide) (by decide) k) ?_
      show G T109 (mkF m 138 ls114 [])
      refine step (fun t k => XS.iload X109.here hx rfl (hb hby at_138) (by rw [hls114]; rfl) k) ?_
      show G T109 (mkF m 140 ls114 [(.int 0)])
      refine step (fun t k => XS.iconst X109.here hx rfl (hb hby at_140) k) ?_
      show G T109 (mkF m 141 ls114 [(.int 2), (.int 0)])
      refine step (fun t k => XS.icmpYes X109.here hx rfl (pc0 := 141) (pc' := 158) rfl (hb hby at_141) rfl (tlt (by decide : (0 : Int32) < (2 : Int32))).1 (by decide) (by decide) k) ?_
      show G T109 (mkF m 158 ls114 [])
      refine step (fun t k => XS.iload X109.here hx rfl (hb hby at_158) (by rw [hls114]; rfl) k) ?_
      show G T109 (mkF m 160 ls114 [(.int 0)])
      refine step (fun t k => XS.iconst X109.here hx rfl (hb hby at_160) k) ?_
      show G T109 (mkF m 161 ls114 [(.int 3), (.int 0)])
      refine step (fun t k => XS.icmpYes X109.here hx rfl (pc0 := 161) (pc' := 178) rfl (hb hby at_161) rfl (tlt (by decide : (0 : Int32) < (3 : Int32))).1 (by decide) (by decide) k) ?_
      show G T109 (mkF m 178 ls114 [])
      refine step (fun t k => XS.iconst X109.here hx rfl (hb hby at_178) k) ?_
      show G T109 (mkF m 179 ls114 [(.int 4)])
      refine step (fun t k => XS.iload X109.here hx rfl (hb hby at_179) (by rw [hls114]; rfl) k) ?_
      show G T109 (mkF m 181 ls114 [(.int 1), (.int 4)])
      refine step (fun t k => XS.isub X109.here hx rfl (hb hby at_181) rfl k) ?_
      show G T109 (mkF m 182 ls114 [(.int ((4 : Int32) - (1 : Int32)))])
      rw [(by decide : ((4 : Int32) - (1 : Int32)) = (3 : Int32))]
      show G T109 (mkF m 182 ls114 [(.int 3)])
      refine step (fun t k => XS.iload X109.here hx rfl (hb hby at_182) (by rw [hls114]; rfl) k) ?_
      show G T109 (mkF m 184 ls114 [(.int 0), (.int 3)])
      refine step (fun t k => XS.iadd X109.here hx rfl (hb hby at_184) rfl k) ?_
      show G T109 (mkF m 185 ls114 [(.int ((3 : Int32) + (0 : Int32)))])
      rw [(by decide : ((3 : Int32) + (0 : Int32)) = (3 : Int32))]
      show G T109 (mkF m 185 ls114 [(.int 3)])
      obtain ⟨ls115, hls115⟩  := own_sl #[.val (.long q0), .second, .val (.int p1), .val (.int p2), .val (.int p3), .val (.int p4), .val (.long bb), .second, .val (.long sp), .second, .val (.int 1), .val (.int 0), .val (.ref b11), .val (.ref b13), .val (.long nw), .second, .val (.int 3), .val (.int 3), .unset, .unset, .unset, .unset]
      refine step (fun t k => XS.istore X109.here hx rfl (hb hby at_185) rfl (l' := ls115) (by rw [hls114, hls115]; rfl) k) ?_
      show G T109 (mkF m 187 ls115 [])
      refine step (fun t k => XS.aload X109.here hx rfl (hb hby at_187) (by rw [hls115]; rfl) rfl k) ?_
      show G T109 (mkF m 189 ls115 [(.ref b13)])
      refine step (fun t k => XS.aload X109.here hx rfl (hb hby at_189) (by rw [hls115]; rfl) rfl k) ?_
      show G T109 (mkF m 191 ls115 [(.ref b11), (.ref b13)])
      refine step (fun t k => XS.lload X109.here hx rfl (hb hby at_191) (by rw [hls115]; rfl) k) ?_
      show G T109 (mkF m 193 ls115 [(.long nw), (.ref b11), (.ref b13)])
      have f117 := (Arv.keep Y22_4 K109q (ninS (Nat.ne_of_gt lt_b13_b14) nin0))
      have f118 := (Exa.keep f110 K109q)
      have f119 := (Fld.keep f111 K109q (ninS (Nat.ne_of_lt lt_b11_b13) nin0))
      have f120 := (Fld.keep f112 K109q (ninS (Nat.ne_of_lt lt_b11_b13) nin0))
      have hK116 := (backOf (R := room_1) (p := p) (e := e) (below := below) (args := #[(.long q0), (.int p1), (.int p2), (.int p3), (.int p4)]) (len := 3) (W := 0) (rm_cnt0_4 l Z a0 hw [] w_0 w_1 w_2 b13 b11 nw b14 kb_14 bb B1 B2 B3 (1 : Int32) (3 : Int32) (1 : Int64) T109.heap n0 (own_old_le O109) ST O109 Y109_0 ge_b13 Y109_1 ge_b14 Y109_2 Y109_3 f117 ((by decide) : (0 : Int32) < (3 : Int32)) (by decide) f118 f119 f120 (show (nw - (1 : Int64)) < B1 from (own_ltB tnw1 tB1 hsp1.1 (by decide)))) hZ (ww74 hw) (ww51 hw) (by decide) (by decide))
      obtain ⟨cq116, kq116, q116a, q116b, q116c⟩ := isOf hZ rfl Y109_0
      obtain ⟨_, _, ⟨T116, L116, k116, n116⟩, -, X116, ⟨Lc116, hQ116, l116, y116, z116⟩, st116⟩ := X109.virtualBack hx (y := y_13) (z := y_13) hown (mvT hZ (ww70 hw)) (mvT hZ (ww71 hw)) (notFace_of_selects (args := #[]) (mvT hZ (ww73 hw))) (mvT hZ (ww73 hw)) (mvT hZ (ww72 hw)) (by decide) hK116 q116a q116c (g := (mkF m 193 ls115 [(.long nw), (.ref b11), (.ref b13)])) rfl (by rw [hml, hls115]; rfl) (Steps.refl _) (argsL := [(.ref b11), (.long nw)]) (rest := []) (lenOf pd_9 rfl) rfl (by show 2 * 0 + _ ≤ _; exact Nat.le_of_eq rfl) (hb hby at_193) (fun _ _ => ⟨rfl, rfl, (by decide : 5 + 0 ≤ _), (by decide : 30 + 0 ≤ _)⟩)
      dsimp only [Pt.U, Pt.locs, Pt.cells, Pt.slots] at X116 l116 y116 z116 st116 hQ116
      subst l116 y116 z116
      obtain ⟨rfl, N116q, K116q, Y116_0, Y116_1, Y116_2, Y116_3⟩ := hQ116
      have N116 := Fr.app N109 N116q
      obtain ⟨lc116, X116, N116⟩ := own_gen X116 N116
      have O116 := O109.keep K116q (allS ge_b13 all0)
      have hk116 : _ ≤ T116.heap.size := Nat.le_trans hk109 K116q.1
      refine step (fun t k => st116.trans k) ?_
      show G T116 (mkF m 196 ls115 [(.int 3)])
      obtain ⟨ls121, hls121⟩  := own_sl #[.val (.long q0), .second, .val (.int p1), .val (.int p2), .val (.int p3), .val (.int p4), .val (.long bb), .second, .val (.long sp), .second, .val (.int 1), .val (.int 0), .val (.ref b11), .val (.ref b13), .val (.long nw), .second, .val (.int 3), .val (.int 3), .val (.int 3), .unset, .unset, .unset]
      refine step (fun t k => XS.istore X116.here hx rfl (hb hby at_196) rfl (l' := ls121) (by rw [hls115, hls121]; rfl) k) ?_
      show G T116 (mkF m 198 ls121 [])
      refine step (fun t k => XS.iload X116.here hx rfl (hb hby at_198) (by rw [hls121]; rfl) k) ?_
      show G T116 (mkF m 200 ls121 [(.int p4)])
      have q122 := X116.ldcInt hx hown (mvT hZ (ww101 hw)) (g := (mkF m 200 ls121 [(.int p4)])) rfl (hb hby at_200)
      refine step q122 ?_
      show G T116 (mkF m 202 ls121 [(.int 2147483647), (.int p4)])
      refine step (fun t k => XS.iand X116.here hx rfl (hb hby at_202) rfl k) ?_
      show G T116 (mkF m 203 ls121 [(.int (p4 &&& (2147483647 : Int32)))])
      refine step (fun t k => XS.iload X116.here hx rfl (hb hby at_203) (by rw [hls121]; rfl) k) ?_
      show G T116 (mkF m 205 ls121 [(.int 3), (.int (p4 &&& (2147483647 : Int32)))])
      refine step (fun t k => iremM X116 hx rfl (hb hby at_205) rfl (by decide) k) ?_
      show G T116 (mkF m 206 ls121 [(.int ((p4 &&& (2147483647 : Int32)) % (3 : Int32)))])
      obtain ⟨ls123, hls123⟩  := own_sl #[.val (.long q0), .second, .val (.int p1), .val (.int p2), .val (.int p3), .val (.int p4), .val (.long bb), .second, .val (.long sp), .second, .val (.int 1), .val (.int 0), .val (.ref b11), .val (.ref b13), .val (.long nw), .second, .val (.int 3), .val (.int 3), .val (.int 3), .val (.int ((p4 &&& (2147483647 : Int32)) % (3 : Int32))), .unset, .unset]
      refine step (fun t k => XS.istore X116.here hx rfl (hb hby at_206) rfl (l' := ls123) (by rw [hls121, hls123]; rfl) k) ?_
      show G T116 (mkF m 208 ls123 [])
      obtain ⟨jj, hjj⟩ : ∃ z : Int32, z = ((p4 &&& (2147483647 : Int32)) % (3 : Int32)) := ⟨_, rfl⟩
      obtain ⟨ls124, hls124⟩  := own_sl #[.val (.long q0), .second, .val (.int p1), .val (.int p2), .val (.int p3), .val (.int p4), .val (.long bb), .second, .val (.long sp), .second, .val (.int 1), .val (.int 0), .val (.ref b11), .val (.ref b13), .val (.long nw), .second, .val (.int 3), .val (.int 3), .val (.int 3), .val (.int jj), .unset, .unset]
      rw [show ls123 = ls124 from by rw [hls123, hls124, hjj]]
      show G T116 (mkF m 208 ls124 [])
      have hj := own_j3 p4
      rw [← hjj] at hj
      refine step (fun t k => XS.aload X116.here hx rfl (hb hby at_208) (by rw [hls124]; rfl) rfl k) ?_
      show G T116 (mkF m 210 ls124 [(.ref b13)])
      refine step (fun t k => XS.iload X116.here hx rfl (hb hby at_210) (by rw [hls124]; rfl) k) ?_
      show G T116 (mkF m 212 ls124 [(.int jj), (.ref b13)])
      have f126 := (Arv.keep f117 K116q (ninS (Nat.ne_of_gt lt_b13_b14) nin0))
      have hK125 := (backOf (R := room_1) (p := p) (e := e) (below := below) (args := #[(.long q0), (.int p1), (.int p2), (.int p3), (.int p4)]) (len := 3) (W := 0) (rm_get4 l Z a0 hw [] w_0 w_1 w_2 b13 jj b14 kb_14 bb B1 B2 B3 (1 : Int32) T116.heap n0 (own_old_le O116) ST O116 Y116_1 Y116_2 f126 (by rcases hj with h | h | h <;> (rw [h]; decide))) hZ (ww106 hw) (ww51 hw) (by decide) (by decide))
      obtain ⟨cq125, kq125, q125a, q125b, q125c⟩ := isOf hZ rfl Y116_0
      obtain ⟨_, _, ⟨T125, L125, k125, n125⟩, -, X125, ⟨Lc125, hQ125, l125, y125, z125⟩, st125⟩ := X116.virtualBack hx (y := y_14) (z := y_14) hown (mvT hZ (ww102 hw)) (mvT hZ (ww103 hw)) (notFace_of_selects (args := #[]) (mvT hZ (ww105 hw))) (mvT hZ (ww105 hw)) (mvT hZ (ww104 hw)) (by decide) hK125 q125a q125c (g := (mkF m 212 ls124 [(.int jj), (.ref b13)])) rfl (by rw [hml, hls124]; rfl) (Steps.refl _) (argsL := [(.int jj)]) (rest := []) (lenOf pd_10 rfl) rfl (by show 2 * 0 + _ ≤ _; exact Nat.le_of_eq rfl) (hb hby at_212) (fun _ _ => ⟨rfl, rfl, (by decide : 5 + 0 ≤ _), (by decide : 30 + 0 ≤ _)⟩)
      dsimp only [Pt.U, Pt.locs, Pt.cells, Pt.slots] at X125 l125 y125 z125 st125 hQ125
      subst l125 y125 z125
      obtain ⟨rfl, N125q, e125⟩ := hQ125
      have N125 := Fr.app N116 N125q
      obtain ⟨lc125, X125, N125⟩ := own_gen X125 N125
      refine step (fun t k => st125.trans k) ?_
      show G T125 (mkF m 215 ls124 [(.long (f_get4 w_0 w_1 w_2 b13 jj b14 kb_14 bb B1 B2 B3 (1 : Int32)))])
      have r127 : (f_get4 w_0 w_1 w_2 b13 jj b14 kb_14 bb B1 B2 B3 (1 : Int32)) = (own_at4 bb B1 B2 B3 (((1 : Int32) + jj) % (4 : Int32))) := rfl
      rw [r127]
      show G T125 (mkF m 215 ls124 [(.long (own_at4 bb B1 B2 B3 (((1 : Int32) + jj) % (4 : Int32))))])
      obtain ⟨ls128, hls128⟩  := own_sl #[.val (.long q0), .second, .val (.int p1), .val (.int p2), .val (.int p3), .val (.int p4), .val (.long bb), .second, .val (.long sp), .second, .val (.int 1), .val (.int 0), .val (.ref b11), .val (.ref b13), .val (.long nw), .second, .val (.int 3), .val (.int 3), .val (.int 3), .val (.int jj), .val (.long (own_at4 bb B1 B2 B3 (((1 : Int32) + jj) % (4 : Int32)))), .second]
      refine step (fun t k => XS.lstore X125.here hx rfl (hb hby at_215) rfl (l' := ls128) (by rw [hls124, hls128]; rfl) k) ?_
      show G T125 (mkF m 217 ls128 [])
      refine step (fun t k => XS.iload X125.here hx rfl (hb hby at_217) (by rw [hls128]; rfl) k) ?_
      show G T125 (mkF m 219 ls128 [(.int 3)])
      refine step (fun t k => XS.iconst X125.here hx rfl (hb hby at_219) k) ?_
      show G T125 (mkF m 220 ls128 [(.int 4), (.int 3)])
      refine step (fun t k => XS.iload X125.here hx rfl (hb hby at_220) (by rw [hls128]; rfl) k) ?_
      show G T125 (mkF m 222 ls128 [(.int 1), (.int 4), (.int 3)])
      refine step (fun t k => XS.isub X125.here hx rfl (hb hby at_222) rfl k) ?_
      show G T125 (mkF m 223 ls128 [(.int ((4 : Int32) - (1 : Int32))), (.int 3)])
      rw [(by decide : ((4 : Int32) - (1 : Int32)) = (3 : Int32))]
      show G T125 (mkF m 223 ls128 [(.int 3), (.int 3)])
      refine step (fun t k => XS.icmpNo X125.here hx rfl (hb hby at_223) rfl (teq (by decide : (3 : Int32) = (3 : Int32))).2 k) ?_
      show G T125 (mkF m 226 ls128 [])
      refine step (fun t k => XS.iload X125.here hx rfl (hb hby at_226) (by rw [hls128]; rfl) k) ?_
      show G T125 (mkF m 228 ls128 [(.int 3)])
      refine step (fun t k => XS.iload X125.here hx rfl (hb hby at_228) (by rw [hls128]; rfl) k) ?_
      show G T125 (mkF m 230 ls128 [(.int 3), (.int 3)])
      refine step (fun t k => XS.icmpNo X125.here hx rfl (hb hby at_230) rfl (teq (by decide : (3 : Int32) = (3 : Int32))).2 k) ?_
      show G T125 (mkF m 233 ls128 [])
      refine step (fun t k => XS.lload X125.here hx rfl (hb hby at_233) (by rw [hls128]; rfl) k) ?_
      show G T125 (mkF m 235 ls128 [(.long (own_at4 bb B1 B2 B3 (((1 : Int32) + jj) % (4 : Int32))))])
      refine step (fun t k => XS.lload X125.here hx rfl (hb hby at_235) (by rw [hls128]; rfl) k) ?_
      show G T125 (mkF m 237 ls128 [(.long bb), (.long (own_at4 bb B1 B2 B3 (((1 : Int32) + jj) % (4 : Int32))))])
      refine step (fun t k => XS.iload X125.here hx rfl (hb hby at_237) (by rw [hls128]; rfl) k) ?_
      show G T125 (mkF m 239 ls128 [(.int 1), (.long bb), (.long (own_at4 bb B1 B2 B3 (((1 : Int32) + jj) % (4 : Int32))))])
      refine step (fun t k => XS.iload X125.here hx rfl (hb hby at_239) (by rw [hls128]; rfl) k) ?_
      show G T125 (mkF m 241 ls128 [(.int jj), (.int 1), (.long bb), (.long (own_at4 bb B1 B2 B3 (((1 : Int32) + jj) % (4 : Int32))))])
      refine step (fun t k => XS.iadd X125.here hx rfl (hb hby at_241) rfl k) ?_
      show G T125 (mkF m 242 ls128 [(.int ((1 : Int32) + jj)), (.long bb), (.long (own_at4 bb B1 B2 B3 (((1 : Int32) + jj) % (4 : Int32))))])
      refine step (fun t k => XS.i2l X125.here hx rfl (hb hby at_242) rfl k) ?_
      show G T125 (mkF m 243 ls128 [(.long (((1 : Int32) + jj).toInt64)), (.long bb), (.long (own_at4 bb B1 B2 B3 (((1 : Int32) + jj) % (4 : Int32))))])
      refine step (fun t k => XS.lload X125.here hx rfl (hb hby at_243) (by rw [hls128]; rfl) k) ?_
      show G T125 (mkF m 245 ls128 [(.long sp), (.long (((1 : Int32) + jj).toInt64)), (.long bb), (.long (own_at4 bb B1 B2 B3 (((1 : Int32) + jj) % (4 : Int32))))])
      refine step (fun t k => XS.lmul X125.here hx rfl (hb hby at_245) rfl k) ?_
      show G T125 (mkF m 246 ls128 [(.long ((((1 : Int32) + jj).toInt64) * sp)), (.long bb), (.long (own_at4 bb B1 B2 B3 (((1 : Int32) + jj) % (4 : Int32))))])
      refine step (fun t k => XS.ladd X125.here hx rfl (hb hby at_246) rfl k) ?_
      show G T125 (mkF m 247 ls128 [(.long (bb + ((((1 : Int32) + jj).toInt64) * sp))), (.long (own_at4 bb B1 B2 B3 (((1 : Int32) + jj) % (4 : Int32))))])
      refine step (fun t k => XS.lcmp X125.here hx rfl (hb hby at_247) rfl k) ?_
      show G T125 (mkF m 248 ls128 [(.int (lcmpW (own_at4 bb B1 B2 B3 (((1 : Int32) + jj) % (4 : Int32))) (bb + ((((1 : Int32) + jj).toInt64) * sp))))])
      refine step (fun t k => XS.ifNo X125.here hx rfl (hb hby at_248) rfl ((if0 _ _).trans (teq ((lw_eq _ _).mpr (by rcases hj with h | h | h <;> rw [h] <;> first | exact hq1 | exact hq2 | exact hq3))).2) k) ?_
      show G T125 (mkF m 251 ls128 [])
      refine step (fun t k => XS.iconst X125.here hx rfl (hb hby at_251) k) ?_
      show G T125 (mkF m 252 ls128 [(.int 1)])
      refine step (fun t k => XS.goto X125.here hx rfl (pc0 := 252) (pc' := 256) rfl (hb hby at_252) (by decide) (by decide) k) ?_
      show G T125 (mkF m 256 ls128 [(.int 1)])
      exact ret (v := some (.int 1)) X125 hS hk116 (fun h => by rw [Bd.returns] at h; cases h) (fun fs hr => retN X125 hx (t := .boolean) Bd.returns (by simp) (hb hby at_256) hr) e125 ⟨rfl, N125⟩ (by decide) (by decide)
    · skip
      obtain ⟨ls129, hls129⟩  := own_sl #[.val (.long q0), .second, .val (.int p1), .val (.int p2), .val (.int p3), .val (.int p4), .val (.long bb), .second, .val (.long sp), .second, .val (.int 1), .val (.int 1), .val (.ref b11), .val (.ref b13), .val (.long nw), .second, .val (.int 3), .unset, .unset, .unset, .unset, .unset]
      rw [show ls113 = ls129 from by rw [hls113, hls129, hee]]
      show G T109 (mkF m 118 ls129 [])
      refine step (fun t k => XS.iload X109.here hx rfl (hb hby at_118) (by rw [hls129]; rfl) k) ?_
      show G T109 (mkF m 120 ls129 [(.int 1)])
      refine step (fun t k => XS.iconst X109.here hx rfl (hb hby at_120) k) ?_
      show G T109 (mkF m 121 ls129 [(.int 1), (.int 1)])
      refine step (fun t k => XS.icmpNo X109.here hx rfl (hb hby at_121) rfl (flt (by decide : ¬ ((1 : Int32) < (1 : Int32)))).1 k) ?_
      show G T109 (mkF m 124 ls129 [])
      refine step (fun t k => XS.aload X109.here hx rfl (hb hby at_124) (by rw [hls129]; rfl) rfl k) ?_
      show G T109 (mkF m 126 ls129 [(.ref b13)])
      refine step (fun t k => XS.lload X109.here hx rfl (hb hby at_126) (by rw [hls129]; rfl) k) ?_
      show G T109 (mkF m 128 ls129 [(.long bb), (.ref b13)])
      have q130 := X109.ldc2Long hx hown (mvT hZ (ww107 hw)) (g := (mkF m 128 ls129 [(.long bb), (.ref b13)])) rfl (hb hby at_128)
      refine step q130 ?_
      show G T109 (mkF m 131 ls129 [(.long 4), (.long bb), (.ref b13)])
      refine step (fun t k => XS.lload X109.here hx rfl (hb hby at_131) (by rw [hls129]; rfl) k) ?_
      show G T109 (mkF m 133 ls129 [(.long sp), (.long 4), (.long bb), (.ref b13)])
      refine step (fun t k => XS.lmul X109.here hx rfl (hb hby at_133) rfl k) ?_
      show G T109 (mkF m 134 ls129 [(.long ((4 : Int64) * sp)), (.long bb), (.ref b13)])
      refine step (fun t k => XS.ladd X109.here hx rfl (hb hby at_134) rfl k) ?_
      show G T109 (mkF m 135 ls129 [(.long (bb + ((4 : Int64) * sp))), (.ref b13)])
      obtain ⟨B4, hB4⟩ : ∃ z : Int64, z = (bb + ((4 : Int64) * sp)) := ⟨_, rfl⟩
      rw [← hB4]
      show G T109 (mkF m 135 ls129 [(.long B4), (.ref b13)])
      have tB4 := own_B (4 : Int64) 4 (by decide) (by decide) (by decide) hbb1 hsp1 hB4
      have hq4 := hB4
      have f132 := (Arv.keep Y22_4 K109q (ninS (Nat.ne_of_gt lt_b13_b14) nin0))
      have hK131 := (backOf (R := room_1) (p := p) (e := e) (below := below) (args := #[(.long q0), (.int p1), (.int p2), (.int p3), (.int p4)]) (len := 3) (W := 0) (rm_add_4_0 l Z a0 hw [] w_0 w_1 w_2 b13 B4 b14 kb_14 bb B1 B2 B3 (1 : Int32) (3 : Int32) (4 : Int32) T109.heap n0 (own_old_le O109) ST O109 Y109_0 ge_b13 Y109_1 ge_b14 Y109_2 Y109_3 f132 (by decide : ¬ ((3 : Int32) = (4 : Int32))) (by decide : ((3 : Int32) + (1 : Int32)) = (4 : Int32)) (by decide : (((1 : Int32) + (3 : Int32)) % (4 : Int32)) = (0 : Int32))) hZ (ww63 hw) (ww51 hw) (by decide) (by decide))
      obtain ⟨cq131, kq131, q131a, q131b, q131c⟩ := isOf hZ rfl Y109_0
      obtain ⟨_, _, ⟨T131, L131, k131, n131⟩, -, X131, ⟨Lc131, hQ131, l131, y131, z131⟩, st131⟩ := X109.virtualBack hx (y := y_10) (z := y_10) hown (mvT hZ (ww59 hw)) (mvT hZ (ww60 hw)) (notFace_of_selects (args := #[]) (mvT hZ (ww62 hw))) (mvT hZ (ww62 hw)) (mvT hZ (ww61 hw)) (by decide) hK131 q131a q131c (g := (mkF m 135 ls129 [(.long B4), (.ref b13)])) rfl (by rw [hml, hls129]; rfl) (Steps.refl _) (argsL := [(.long B4)]) (rest := []) (lenOf pd_5 rfl) rfl (by show 2 * 0 + _ ≤ _; exact Nat.le_of_eq rfl) (hb hby at_135) (fun _ _ => ⟨rfl, rfl, (by decide : 5 + 0 ≤ _), (by decide : 30 + 0 ≤ _)⟩)
      dsimp only [Pt.U, Pt.locs, Pt.cells, Pt.slots] at X131 l131 y131 z131 st131 hQ131
      subst l131 y131 z131
      obtain ⟨rfl, N131q, K131q, Y131_0, Y131_1, Y131_2, Y131_3, Y131_4⟩ := hQ131
      have N131 := Fr.app N109 N131q
      obtain ⟨lc131, X131, N131⟩ := own_gen X131 N131
      have O131 := O109.keep K131q (allS ge_b13 (allS ge_b14 all0))
      have hk131 : _ ≤ T131.heap.size := Nat.le_trans hk109 K131q.1
      refine step (fun t k => st131.trans k) ?_
      show G T131 (mkF m 138 ls129 [])
      refine step (fun t k => XS.iload X131.here hx rfl (hb hby at_138) (by rw [hls129]; rfl) k) ?_
      show G T131 (mkF m 140 ls129 [(.int 1)])
      refine step (fun t k => XS.iconst X131.here hx rfl (hb hby at_140) k) ?_
      show G T131 (mkF m 141 ls129 [(.int 2), (.int 1)])
      refine step (fun t k => XS.icmpYes X131.here hx rfl (pc0 := 141) (pc' := 158) rfl (hb hby at_141) rfl (tlt (by decide : (1 : Int32) < (2 : Int32))).1 (by decide) (by decide) k) ?_
      show G T131 (mkF m 158 ls129 [])
      refine step (fun t k => XS.iload X131.here hx rfl (hb hby at_158) (by rw [hls129]; rfl) k) ?_
      show G T131 (mkF m 160 ls129 [(.int 1)])
      refine step (fun t k => XS.iconst X131.here hx rfl (hb hby at_160) k) ?_
      show G T131 (mkF m 161 ls129 [(.int 3), (.int 1)])
      refine step (fun t k => XS.icmpYes X131.here hx rfl (pc0 := 161) (pc' := 178) rfl (hb hby at_161) rfl (tlt (by decide : (1 : Int32) < (3 : Int32))).1 (by decide) (by decide) k) ?_
      show G T131 (mkF m 178 ls129 [])
      refine step (fun t k => XS.iconst X131.here hx rfl (hb hby at_178) k) ?_
      show G T131 (mkF m 179 ls129 [(.int 4)])
      refine step (fun t k => XS.iload X131.here hx rfl (hb hby at_179) (by rw [hls129]; rfl) k) ?_
      show G T131 (mkF m 181 ls129 [(.int 1), (.int 4)])
      refine step (fun t k => XS.isub X131.here hx rfl (hb hby at_181) rfl k) ?_
      show G T131 (mkF m 182 ls129 [(.int ((4 : Int32) - (1 : Int32)))])
      rw [(by decide : ((4 : Int32) - (1 : Int32)) = (3 : Int32))]
      show G T131 (mkF m 182 ls129 [(.int 3)])
      refine step (fun t k => XS.iload X131.here hx rfl (hb hby at_182) (by rw [hls129]; rfl) k) ?_
      show G T131 (mkF m 184 ls129 [(.int 1), (.int 3)])
      refine step (fun t k => XS.iadd X131.here hx rfl (hb hby at_184) rfl k) ?_
      show G T131 (mkF m 185 ls129 [(.int ((3 : Int32) + (1 : Int32)))])
      rw [(by decide : ((3 : Int32) + (1 : Int32)) = (4 : Int32))]
      show G T131 (mkF m 185 ls129 [(.int 4)])
      obtain ⟨ls133, hls133⟩  := own_sl #[.val (.long q0), .second, .val (.int p1), .val (.int p2), .val (.int p3), .val (.int p4), .val (.long bb), .second, .val (.long sp), .second, .val (.int 1), .val (.int 1), .val (.ref b11), .val (.ref b13), .val (.long nw), .second, .val (.int 3), .val (.int 4), .unset, .unset, .unset, .unset]
      refine step (fun t k => XS.istore X131.here hx rfl (hb hby at_185) rfl (l' := ls133) (by rw [hls129, hls133]; rfl) k) ?_
      show G T131 (mkF m 187 ls133 [])
      refine step (fun t k => XS.aload X131.here hx rfl (hb hby at_187) (by rw [hls133]; rfl) rfl k) ?_
      show G T131 (mkF m 189 ls133 [(.ref b13)])
      refine step (fun t k => XS.aload X131.here hx rfl (hb hby at_189) (by rw [hls133]; rfl) rfl k) ?_
      show G T131 (mkF m 191 ls133 [(.ref b11), (.ref b13)])
      refine step (fun t k => XS.lload X131.here hx rfl (hb hby at_191) (by rw [hls133]; rfl) k) ?_
      show G T131 (mkF m 193 ls133 [(.long nw), (.ref b11), (.ref b13)])
      have f135 := (Exa.keep (Exa.keep f110 K109q) K131q)
      have f136 := (Fld.keep (Fld.keep f111 K109q (ninS (Nat.ne_of_lt lt_b11_b13) nin0)) K131q (ninS (Nat.ne_of_lt lt_b11_b13) (ninS (Nat.ne_of_lt lt_b11_b14) nin0)))
      have f137 := (Fld.keep (Fld.keep f112 K109q (ninS (Nat.ne_of_lt lt_b11_b13) nin0)) K131q (ninS (Nat.ne_of_lt lt_b11_b13) (ninS (Nat.ne_of_lt lt_b11_b14) nin0)))
      have hK134 := (backOf (R := room_1) (p := p) (e := e) (below := below) (args := #[(.long q0), (.int p1), (.int p2), (.int p3), (.int p4)]) (len := 3) (W := 0) (rm_cnt0_4 l Z a0 hw [] w_0 w_1 w_2 b13 b11 nw b14 kb_14 B4 B1 B2 B3 (1 : Int32) (4 : Int32) (1 : Int64) T131.heap n0 (own_old_le O131) ST O131 Y131_0 ge_b13 Y131_1 ge_b14 Y131_2 Y131_3 Y131_4 ((by decide) : (0 : Int32) < (4 : Int32)) (by decide) f135 f136 f137 (show (nw - (1 : Int64)) < B1 from (own_ltB tnw1 tB1 hsp1.1 (by decide)))) hZ (ww74 hw) (ww51 hw) (by decide) (by decide))
      obtain ⟨cq134, kq134, q134a, q134b, q134c⟩ := isOf hZ rfl Y131_0
      obtain ⟨_, _, ⟨T134, L134, k134, n134⟩, -, X134, ⟨Lc134, hQ134, l134, y134, z134⟩, st134⟩ := X131.virtualBack hx (y := y_13) (z := y_13) hown (mvT hZ (ww70 hw)) (mvT hZ (ww71 hw)) (notFace_of_selects (args := #[]) (mvT hZ (ww73 hw))) (mvT hZ (ww73 hw)) (mvT hZ (ww72 hw)) (by decide) hK134 q134a q134c (g := (mkF m 193 ls133 [(.long nw), (.ref b11), (.ref b13)])) rfl (by rw [hml, hls133]; rfl) (Steps.refl _) (argsL := [(.ref b11), (.long nw)]) (rest := []) (lenOf pd_9 rfl) rfl (by show 2 * 0 + _ ≤ _; exact Nat.le_of_eq rfl) (hb hby at_193) (fun _ _ => ⟨rfl, rfl, (by decide : 5 + 0 ≤ _), (by decide : 30 + 0 ≤ _)⟩)
      dsimp only [Pt.U, Pt.locs, Pt.cells, Pt.slots] at X134 l134 y134 z134 st134 hQ134
      subst l134 y134 z134
      obtain ⟨rfl, N134q, K134q, Y134_0, Y134_1, Y134_2, Y134_3⟩ := hQ134
      have N134 := Fr.app N131 N134q
      obtain ⟨lc134, X134, N134⟩ := own_gen X134 N134
      have O134 := O131.keep K134q (allS ge_b13 all0)
      have hk134 : _ ≤ T134.heap.size := Nat.le_trans hk131 K134q.1
      refine step (fun t k => st134.trans k) ?_
      show G T134 (mkF m 196 ls133 [(.int 4)])
      obtain ⟨ls138, hls138⟩  := own_sl #[.val (.long q0), .second, .val (.int p1), .val (.int p2), .val (.int p3), .val (.int p4), .val (.long bb), .second, .val (.long sp), .second, .val (.int 1), .val (.int 1), .val (.ref b11), .val (.ref b13), .val (.long nw), .second, .val (.int 3), .val (.int 4), .val (.int 4), .unset, .unset, .unset]
      refine step (fun t k => XS.istore X134.here hx rfl (hb hby at_196) rfl (l' := ls138) (by rw [hls133, hls138]; rfl) k) ?_
      show G T134 (mkF m 198 ls138 [])
      refine step (fun t k => XS.iload X134.here hx rfl (hb hby at_198) (by rw [hls138]; rfl) k) ?_
      show G T134 (mkF m 200 ls138 [(.int p4)])
      have q139 := X134.ldcInt hx hown (mvT hZ (ww101 hw)) (g := (mkF m 200 ls138 [(.int p4)])) rfl (hb hby at_200)
      refine step q139 ?_
      show G T134 (mkF m 202 ls138 [(.int 2147483647), (.int p4)])
      refine step (fun t k => XS.iand X134.here hx rfl (hb hby at_202) rfl k) ?_
      show G T134 (mkF m 203 ls138 [(.int (p4 &&& (2147483647 : Int32)))])
      refine step (fun t k => XS.iload X134.here hx rfl (hb hby at_203) (by rw [hls138]; rfl) k) ?_
      show G T134 (mkF m 205 ls138 [(.int 4), (.int (p4 &&& (2147483647 : Int32)))])
      refine step (fun t k => iremM X134 hx rfl (hb hby at_205) rfl (by decide) k) ?_
      show G T134 (mkF m 206 ls138 [(.int ((p4 &&& (2147483647 : Int32)) % (4 : Int32)))])
      obtain ⟨ls140, hls140⟩  := own_sl #[.val (.long q0), .second, .val (.int p1), .val (.int p2), .val (.int p3), .val (.int p4), .val (.long bb), .second, .val (.long sp), .second, .val (.int 1), .val (.int 1), .val (.ref b11), .val (.ref b13), .val (.long nw), .second, .val (.int 3), .val (.int 4), .val (.int 4), .val (.int ((p4 &&& (2147483647 : Int32)) % (4 : Int32))), .unset, .unset]
      refine step (fun t k => XS.istore X134.here hx rfl (hb hby at_206) rfl (l' := ls140) (by rw [hls138, hls140]; rfl) k) ?_
      show G T134 (mkF m 208 ls140 [])
      obtain ⟨jj, hjj⟩ : ∃ z : Int32, z = ((p4 &&& (2147483647 : Int32)) % (4 : Int32)) := ⟨_, rfl⟩
      obtain ⟨ls141, hls141⟩  := own_sl #[.val (.long q0), .second, .val (.int p1), .val (.int p2), .val (.int p3), .val (.int p4), .val (.long bb), .second, .val (.long sp), .second, .val (.int 1), .val (.int 1), .val (.ref b11), .val (.ref b13), .val (.long nw), .second, .val (.int 3), .val (.int 4), .val (.int 4), .val (.int jj), .unset, .unset]
      rw [show ls140 = ls141 from by rw [hls140, hls141, hjj]]
      show G T134 (mkF m 208 ls141 [])
      have hj := own_j4 p4
      rw [← hjj] at hj
      refine step (fun t k => XS.aload X134.here hx rfl (hb hby at_208) (by rw [hls141]; rfl) rfl k) ?_
      show G T134 (mkF m 210 ls141 [(.ref b13)])
      refine step (fun t k => XS.iload X134.here hx rfl (hb hby at_210) (by rw [hls141]; rfl) k) ?_
      show G T134 (mkF m 212 ls141 [(.int jj), (.ref b13)])
      have f143 := (Arv.keep Y131_4 K134q (ninS (Nat.ne_of_gt lt_b13_b14) nin0))
      have hK142 := (backOf (R := room_1) (p := p) (e := e) (below := below) (args := #[(.long q0), (.int p1), (.int p2), (.int p3), (.int p4)]) (len := 3) (W := 0) (rm_get4 l Z a0 hw [] w_0 w_1 w_2 b13 jj b14 kb_14 B4 B1 B2 B3 (1 : Int32) T134.heap n0 (own_old_le O134) ST O134 Y134_1 Y134_2 f143 (by rcases hj with h | h | h | h <;> (rw [h]; decide))) hZ (ww106 hw) (ww51 hw) (by decide) (by decide))
      obtain ⟨cq142, kq142, q142a, q142b, q142c⟩ := isOf hZ rfl Y134_0
      obtain ⟨_, _, ⟨T142, L142, k142, n142⟩, -, X142, ⟨Lc142, hQ142, l142, y142, z142⟩, st142⟩ := X134.virtualBack hx (y := y_14) (z := y_14) hown (mvT hZ (ww102 hw)) (mvT hZ (ww103 hw)) (notFace_of_selects (args := #[]) (mvT hZ (ww105 hw))) (mvT hZ (ww105 hw)) (mvT hZ (ww104 hw)) (by decide) hK142 q142a q142c (g := (mkF m 212 ls141 [(.int jj), (.ref b13)])) rfl (by rw [hml, hls141]; rfl) (Steps.refl _) (argsL := [(.int jj)]) (rest := []) (lenOf pd_10 rfl) rfl (by show 2 * 0 + _ ≤ _; exact Nat.le_of_eq rfl) (hb hby at_212) (fun _ _ => ⟨rfl, rfl, (by decide : 5 + 0 ≤ _), (by decide : 30 + 0 ≤ _)⟩)
      dsimp only [Pt.U, Pt.locs, Pt.cells, Pt.slots] at X142 l142 y142 z142 st142 hQ142
      subst l142 y142 z142
      obtain ⟨rfl, N142q, e142⟩ := hQ142
      have N142 := Fr.app N134 N142q
      obtain ⟨lc142, X142, N142⟩ := own_gen X142 N142
      refine step (fun t k => st142.trans k) ?_
      show G T142 (mkF m 215 ls141 [(.long (f_get4 w_0 w_1 w_2 b13 jj b14 kb_14 B4 B1 B2 B3 (1 : Int32)))])
      have r144 : (f_get4 w_0 w_1 w_2 b13 jj b14 kb_14 B4 B1 B2 B3 (1 : Int32)) = (own_at4 B4 B1 B2 B3 (((1 : Int32) + jj) % (4 : Int32))) := rfl
      rw [r144]
      show G T142 (mkF m 215 ls141 [(.long (own_at4 B4 B1 B2 B3 (((1 : Int32) + jj) % (4 : Int32))))])
      obtain ⟨ls145, hls145⟩  := own_sl #[.val (.long q0), .second, .val (.int p1), .val (.int p2), .val (.int p3), .val (.int p4), .val (.long bb), .second, .val (.long sp), .second, .val (.int 1), .val (.int 1), .val (.ref b11), .val (.ref b13), .val (.long nw), .second, .val (.int 3), .val (.int 4), .val (.int 4), .val (.int jj), .val (.long (own_at4 B4 B1 B2 B3 (((1 : Int32) + jj) % (4 : Int32)))), .second]
      refine step (fun t k => XS.lstore X142.here hx rfl (hb hby at_215) rfl (l' := ls145) (by rw [hls141, hls145]; rfl) k) ?_
      show G T142 (mkF m 217 ls145 [])
      refine step (fun t k => XS.iload X142.here hx rfl (hb hby at_217) (by rw [hls145]; rfl) k) ?_
      show G T142 (mkF m 219 ls145 [(.int 3)])
      refine step (fun t k => XS.iconst X142.here hx rfl (hb hby at_219) k) ?_
      show G T142 (mkF m 220 ls145 [(.int 4), (.int 3)])
      refine step (fun t k => XS.iload X142.here hx rfl (hb hby at_220) (by rw [hls145]; rfl) k) ?_
      show G T142 (mkF m 222 ls145 [(.int 1), (.int 4), (.int 3)])
      refine step (fun t k => XS.isub X142.here hx rfl (hb hby at_222) rfl k) ?_
      show G T142 (mkF m 223 ls145 [(.int ((4 : Int32) - (1 : Int32))), (.int 3)])
      rw [(by decide : ((4 : Int32) - (1 : Int32)) = (3 : Int32))]
      show G T142 (mkF m 223 ls145 [(.int 3), (.int 3)])
      refine step (fun t k => XS.icmpNo X142.here hx rfl (hb hby at_223) rfl (teq (by decide : (3 : Int32) = (3 : Int32))).2 k) ?_
      show G T142 (mkF m 226 ls145 [])
      refine step (fun t k => XS.iload X142.here hx rfl (hb hby at_226) (by rw [hls145]; rfl) k) ?_
      show G T142 (mkF m 228 ls145 [(.int 4)])
      refine step (fun t k => XS.iload X142.here hx rfl (hb hby at_228) (by rw [hls145]; rfl) k) ?_
      show G T142 (mkF m 230 ls145 [(.int 4), (.int 4)])
      refine step (fun t k => XS.icmpNo X142.here hx rfl (hb hby at_230) rfl (teq (by decide : (4 : Int32) = (4 : Int32))).2 k) ?_
      show G T142 (mkF m 233 ls145 [])
      refine step (fun t k => XS.lload X142.here hx rfl (hb hby at_233) (by rw [hls145]; rfl) k) ?_
      show G T142 (mkF m 235 ls145 [(.long (own_at4 B4 B1 B2 B3 (((1 : Int32) + jj) % (4 : Int32))))])
      refine step (fun t k => XS.lload X142.here hx rfl (hb hby at_235) (by rw [hls145]; rfl) k) ?_
      show G T142 (mkF m 237 ls145 [(.long bb), (.long (own_at4 B4 B1 B2 B3 (((1 : Int32) + jj) % (4 : Int32))))])
      refine step (fun t k => XS.iload X142.here hx rfl (hb hby at_237) (by rw [hls145]; rfl) k) ?_
      show G T142 (mkF m 239 ls145 [(.int 1), (.long bb), (.long (own_at4 B4 B1 B2 B3 (((1 : Int32) + jj) % (4 : Int32))))])
      refine step (fun t k => XS.iload X142.here hx rfl (hb hby at_239) (by rw [hls145]; rfl) k) ?_
      show G T142 (mkF m 241 ls145 [(.int jj), (.int 1), (.long bb), (.long (own_at4 B4 B1 B2 B3 (((1 : Int32) + jj) % (4 : Int32))))])
      refine step (fun t k => XS.iadd X142.here hx rfl (hb hby at_241) rfl k) ?_
      show G T142 (mkF m 242 ls145 [(.int ((1 : Int32) + jj)), (.long bb), (.long (own_at4 B4 B1 B2 B3 (((1 : Int32) + jj) % (4 : Int32))))])
      refine step (fun t k => XS.i2l X142.here hx rfl (hb hby at_242) rfl k) ?_
      show G T142 (mkF m 243 ls145 [(.long (((1 : Int32) + jj).toInt64)), (.long bb), (.long (own_at4 B4 B1 B2 B3 (((1 : Int32) + jj) % (4 : Int32))))])
      refine step (fun t k => XS.lload X142.here hx rfl (hb hby at_243) (by rw [hls145]; rfl) k) ?_
      show G T142 (mkF m 245 ls145 [(.long sp), (.long (((1 : Int32) + jj).toInt64)), (.long bb), (.long (own_at4 B4 B1 B2 B3 (((1 : Int32) + jj) % (4 : Int32))))])
      refine step (fun t k => XS.lmul X142.here hx rfl (hb hby at_245) rfl k) ?_
      show G T142 (mkF m 246 ls145 [(.long ((((1 : Int32) + jj).toInt64) * sp)), (.long bb), (.long (own_at4 B4 B1 B2 B3 (((1 : Int32) + jj) % (4 : Int32))))])
      refine step (fun t k => XS.ladd X142.here hx rfl (hb hby at_246) rfl k) ?_
      show G T142 (mkF m 247 ls145 [(.long (bb + ((((1 : Int32) + jj).toInt64) * sp))), (.long (own_at4 B4 B1 B2 B3 (((1 : Int32) + jj) % (4 : Int32))))])
      refine step (fun t k => XS.lcmp X142.here hx rfl (hb hby at_247) rfl k) ?_
      show G T142 (mkF m 248 ls145 [(.int (lcmpW (own_at4 B4 B1 B2 B3 (((1 : Int32) + jj) % (4 : Int32))) (bb + ((((1 : Int32) + jj).toInt64) * sp))))])
      refine step (fun t k => XS.ifNo X142.here hx rfl (hb hby at_248) rfl ((if0 _ _).trans (teq ((lw_eq _ _).mpr (by rcases hj with h | h | h | h <;> rw [h] <;> first | exact hq1 | exact hq2 | exact hq3 | exact hq4))).2) k) ?_
      show G T142 (mkF m 251 ls145 [])
      refine step (fun t k => XS.iconst X142.here hx rfl (hb hby at_251) k) ?_
      show G T142 (mkF m 252 ls145 [(.int 1)])
      refine step (fun t k => XS.goto X142.here hx rfl (pc0 := 252) (pc' := 256) rfl (hb hby at_252) (by decide) (by decide) k) ?_
      show G T142 (mkF m 256 ls145 [(.int 1)])
      exact ret (v := some (.int 1)) X142 hS hk134 (fun h => by rw [Bd.returns] at h; cases h) (fun fs hr => retN X142 hx (t := .boolean) Bd.returns (by simp) (hb hby at_256) hr) e142 ⟨rfl, N142⟩ (by decide) (by decide)
    · skip
      obtain ⟨ls146, hls146⟩  := own_sl #[.val (.long q0), .second, .val (.int p1), .val (.int p2), .val (.int p3), .val (.int p4), .val (.long bb), .second, .val (.long sp), .second, .val (.int 1), .val (.int 2), .val (.ref b11), .val (.ref b13), .val (.long nw), .second, .val (.int 3), .unset, .unset, .unset, .unset, .unset]
      rw [show ls113 = ls146 from by rw [hls113, hls146, hee]]
      show G T109 (mkF m 118 ls146 [])
      refine step (fun t k => XS.iload X109.here hx rfl (hb hby at_118) (by rw [hls146]; rfl) k) ?_
      show G T109 (mkF m 120 ls146 [(.int 2)])
      refine step (fun t k => XS.iconst X109.here hx rfl (hb hby at_120) k) ?_
      show G T109 (mkF m 121 ls146 [(.int 1), (.int 2)])
      refine step (fun t k => XS.icmpNo X109.here hx rfl (hb hby at_121) rfl (flt (by decide : ¬ ((2 : Int32) < (1 : Int32)))).1 k) ?_
      show G T109 (mkF m 124 ls146 [])
      refine step (fun t k => XS.aload X109.here hx rfl (hb hby at_124) (by rw [hls146]; rfl) rfl k) ?_
      show G T109 (mkF m 126 ls146 [(.ref b13)])
      refine step (fun t k => XS.lload X109.here hx rfl (hb hby at_126) (by rw [hls146]; rfl) k) ?_
      show G T109 (mkF m 128 ls146 [(.long bb), (.ref b13)])
      have q147 := X109.ldc2Long hx hown (mvT hZ (ww107 hw)) (g := (mkF m 128 ls146 [(.long bb), (.ref b13)])) rfl (hb hby at_128)
      refine step q147 ?_
      show G T109 (mkF m 131 ls146 [(.long 4), (.long bb), (.ref b13)])
      refine step (fun t k => XS.lload X109.here hx rfl (hb hby at_131) (by rw [hls146]; rfl) k) ?_
      show G T109 (mkF m 133 ls146 [(.long sp), (.long 4), (.long bb), (.ref b13)])
      refine step (fun t k => XS.lmul X109.here hx rfl (hb hby at_133) rfl k) ?_
      show G T109 (mkF m 134 ls146 [(.long ((4 : Int64) * sp)), (.long bb), (.ref b13)])
      refine step (fun t k => XS.ladd X109.here hx rfl (hb hby at_134) rfl k) ?_
      show G T109 (mkF m 135 ls146 [(.long (bb + ((4 : Int64) * sp))), (.ref b13)])
      obtain ⟨B4, hB4⟩ : ∃ z : Int64, z = (bb + ((4 : Int64) * sp)) := ⟨_, rfl⟩
      rw [← hB4]
      show G T109 (mkF m 135 ls146 [(.long B4), (.ref b13)])
      have tB4 := own_B (4 : Int64) 4 (by decide) (by decide) (by decide) hbb1 hsp1 hB4
      have hq4 := hB4
      have f149 := (Arv.keep Y22_4 K109q (ninS (Nat.ne_of_gt lt_b13_b14) nin0))
      have hK148 := (backOf (R := room_1) (p := p) (e := e) (below := below) (args := #[(.long q0), (.int p1), (.int p2), (.int p3), (.int p4)]) (len := 3) (W := 0) (rm_add_4_0 l Z a0 hw [] w_0 w_1 w_2 b13 B4 b14 kb_14 bb B1 B2 B3 (1 : Int32) (3 : Int32) (4 : Int32) T109.heap n0 (own_old_le O109) ST O109 Y109_0 ge_b13 Y109_1 ge_b14 Y109_2 Y109_3 f149 (by decide : ¬ ((3 : Int32) = (4 : Int32))) (by decide : ((3 : Int32) + (1 : Int32)) = (4 : Int32)) (by decide : (((1 : Int32) + (3 : Int32)) % (4 : Int32)) = (0 : Int32))) hZ (ww63 hw) (ww51 hw) (by decide) (by decide))
      obtain ⟨cq148, kq148, q148a, q148b, q148c⟩ := isOf hZ rfl Y109_0
      obtain ⟨_, _, ⟨T148, L148, k148, n148⟩, -, X148, ⟨Lc148, hQ148, l148, y148, z148⟩, st148⟩ := X109.virtualBack hx (y := y_10) (z := y_10) hown (mvT hZ (ww59 hw)) (mvT hZ (ww60 hw)) (notFace_of_selects (args := #[]) (mvT hZ (ww62 hw))) (mvT hZ (ww62 hw)) (mvT hZ (ww61 hw)) (by decide) hK148 q148a q148c (g := (mkF m 135 ls146 [(.long B4), (.ref b13)])) rfl (by rw [hml, hls146]; rfl) (Steps.refl _) (argsL := [(.long B4)]) (rest := []) (lenOf pd_5 rfl) rfl (by show 2 * 0 + _ ≤ _; exact Nat.le_of_eq rfl) (hb hby at_135) (fun _ _ => ⟨rfl, rfl, (by decide : 5 + 0 ≤ _), (by decide : 30 + 0 ≤ _)⟩)
      dsimp only [Pt.U, Pt.locs, Pt.cells, Pt.slots] at X148 l148 y148 z148 st148 hQ148
      subst l148 y148 z148
      obtain ⟨rfl, N148q, K148q, Y148_0, Y148_1, Y148_2, Y148_3, Y148_4⟩ := hQ148
      have N148 := Fr.app N109 N148q
      obtain ⟨lc148, X148, N148⟩ := own_gen X148 N148
      have O148 := O109.keep K148q (allS ge_b13 (allS ge_b14 all0))
      have hk148 : _ ≤ T148.heap.size := Nat.le_trans hk109 K148q.1
      refine step (fun t k => st148.trans k) ?_
      show G T148 (mkF m 138 ls146 [])
      refine step (fun t k => XS.iload X148.here hx rfl (hb hby at_138) (by rw [hls146]; rfl) k) ?_
      show G T148 (mkF m 140 ls146 [(.int 2)])
      refine step (fun t k => XS.iconst X148.here hx rfl (hb hby at_140) k) ?_
      show G T148 (mkF m 141 ls146 [(.int 2), (.int 2)])
      refine step (fun t k => XS.icmpNo X148.here hx rfl (hb hby at_141) rfl (flt (by decide : ¬ ((2 : Int32) < (2 : Int32)))).1 k) ?_
      show G T148 (mkF m 144 ls146 [])
      refine step (fun t k => XS.aload X148.here hx rfl (hb hby at_144) (by rw [hls146]; rfl) rfl k) ?_
      show G T148 (mkF m 146 ls146 [(.ref b13)])
      refine step (fun t k => XS.lload X148.here hx rfl (hb hby at_146) (by rw [hls146]; rfl) k) ?_
      show G T148 (mkF m 148 ls146 [(.long bb), (.ref b13)])
      have q150 := X148.ldc2Long hx hown (mvT hZ (ww108 hw)) (g := (mkF m 148 ls146 [(.long bb), (.ref b13)])) rfl (hb hby at_148)
      refine step q150 ?_
      show G T148 (mkF m 151 ls146 [(.long 5), (.long bb), (.ref b13)])
      refine step (fun t k => XS.lload X148.here hx rfl (hb hby at_151) (by rw [hls146]; rfl) k) ?_
      show G T148 (mkF m 153 ls146 [(.long sp), (.long 5), (.long bb), (.ref b13)])
      refine step (fun t k => XS.lmul X148.here hx rfl (hb hby at_153) rfl k) ?_
      show G T148 (mkF m 154 ls146 [(.long ((5 : Int64) * sp)), (.long bb), (.ref b13)])
      refine step (fun t k => XS.ladd X148.here hx rfl (hb hby at_154) rfl k) ?_
      show G T148 (mkF m 155 ls146 [(.long (bb + ((5 : Int64) * sp))), (.ref b13)])
      obtain ⟨B5, hB5⟩ : ∃ z : Int64, z = (bb + ((5 : Int64) * sp)) := ⟨_, rfl⟩
      rw [← hB5]
      show G T148 (mkF m 155 ls146 [(.long B5), (.ref b13)])
      have tB5 := own_B (5 : Int64) 5 (by decide) (by decide) (by decide) hbb1 hsp1 hB5
      have hq5 := hB5
      have hK151 := (backOf (R := room_1) (p := p) (e := e) (below := below) (args := #[(.long q0), (.int p1), (.int p2), (.int p3), (.int p4)]) (len := 3) (W := 0) (rm_addg_4_1 l Z a0 hw [] w_0 w_1 w_2 b13 B5 b14 kb_14 B4 B1 B2 B3 T148.heap n0 (own_old_le O148) ST O148 Y148_0 ge_b13 Y148_1 ge_b14 Y148_2 Y148_3 Y148_4) hZ (ww63 hw) (ww51 hw) (by decide) (by decide))
      obtain ⟨cq151, kq151, q151a, q151b, q151c⟩ := isOf hZ rfl Y148_0
      obtain ⟨_, _, ⟨T151, L151, k151, n151⟩, -, X151, ⟨Lc151, hQ151, l151, y151, z151⟩, st151⟩ := X148.virtualBack hx (y := y_10) (z := y_10) hown (mvT hZ (ww59 hw)) (mvT hZ (ww60 hw)) (notFace_of_selects (args := #[]) (mvT hZ (ww62 hw))) (mvT hZ (ww62 hw)) (mvT hZ (ww61 hw)) (by decide) hK151 q151a q151c (g := (mkF m 155 ls146 [(.long B5), (.ref b13)])) rfl (by rw [hml, hls146]; rfl) (Steps.refl _) (argsL := [(.long B5)]) (rest := []) (lenOf pd_5 rfl) rfl (by show 2 * 0 + _ ≤ _; exact Nat.le_of_eq rfl) (hb hby at_155) (fun _ _ => ⟨rfl, rfl, (by decide : 5 + 1 ≤ _), (by decide : 30 + 8 ≤ _)⟩)
      dsimp only [Pt.U, Pt.locs, Pt.cells, Pt.slots] at X151 l151 y151 z151 st151 hQ151
      subst l151 y151 z151
      have f152 := (Exa.keep (Exa.keep f110 K109q) K148q)
      obtain ⟨b151, kb_151, rfl, N151q, K151q, Y151_0, Y151_1, Y151_2, Y151_3, Y151_4, Y151_5⟩ := hQ151
      have N151 := Fr.app N148 N151q
      obtain ⟨lc151, X151, N151⟩ := own_gen X151 N151
      have O151 := O148.keep K151q (allS ge_b13 all0)
      have ge_b151 : n0 ≤ b151 := Nat.le_trans (own_old_le O148) Y151_0
      have lt_b11_b151 : b11 < b151 := Nat.lt_of_lt_of_le f152.lt Y151_0
      have lt_b13_b151 : b13 < b151 := Nat.lt_of_lt_of_le Y148_0.lt Y151_0
      have lt_b14_b151 : b14 < b151 := Nat.lt_of_lt_of_le Y148_4.lt Y151_0
      have hk151 : _ ≤ T151.heap.size := Nat.le_trans hk148 K151q.1
      refine step (fun t k => st151.trans k) ?_
      show G T151 (mkF m 158 ls146 [])
      refine step (fun t k => XS.iload X151.here hx rfl (hb hby at_158) (by rw [hls146]; rfl) k) ?_
      show G T151 (mkF m 160 ls146 [(.int 2)])
      refine step (fun t k => XS.iconst X151.here hx rfl (hb hby at_160) k) ?_
      show G T151 (mkF m 161 ls146 [(.int 3), (.int 2)])
      refine step (fun t k => XS.icmpYes X151.here hx rfl (pc0 := 161) (pc' := 178) rfl (hb hby at_161) rfl (tlt (by decide : (2 : Int32) < (3 : Int32))).1 (by decide) (by decide) k) ?_
      show G T151 (mkF m 178 ls146 [])
      refine step (fun t k => XS.iconst X151.here hx rfl (hb hby at_178) k) ?_
      show G T151 (mkF m 179 ls146 [(.int 4)])
      refine step (fun t k => XS.iload X151.here hx rfl (hb hby at_179) (by rw [hls146]; rfl) k) ?_
      show G T151 (mkF m 181 ls146 [(.int 1), (.int 4)])
      refine step (fun t k => XS.isub X151.here hx rfl (hb hby at_181) rfl k) ?_
      show G T151 (mkF m 182 ls146 [(.int ((4 : Int32) - (1 : Int32)))])
      rw [(by decide : ((4 : Int32) - (1 : Int32)) = (3 : Int32))]
      show G T151 (mkF m 182 ls146 [(.int 3)])
      refine step (fun t k => XS.iload X151.here hx rfl (hb hby at_182) (by rw [hls146]; rfl) k) ?_
      show G T151 (mkF m 184 ls146 [(.int 2), (.int 3)])
      refine step (fun t k => XS.iadd X151.here hx rfl (hb hby at_184) rfl k) ?_
      show G T151 (mkF m 185 ls146 [(.int ((3 : Int32) + (2 : Int32)))])
      rw [(by decide : ((3 : Int32) + (2 : Int32)) = (5 : Int32))]
      show G T151 (mkF m 185 ls146 [(.int 5)])
      obtain ⟨ls153, hls153⟩  := own_sl #[.val (.long q0), .second, .val (.int p1), .val (.int p2), .val (.int p3), .val (.int p4), .val (.long bb), .second, .val (.long sp), .second, .val (.int 1), .val (.int 2), .val (.ref b11), .val (.ref b13), .val (.long nw), .second, .val (.int 3), .val (.int 5), .unset, .unset, .unset, .unset]
      refine step (fun t k => XS.istore X151.here hx rfl (hb hby at_185) rfl (l' := ls153) (by rw [hls146, hls153]; rfl) k) ?_
      show G T151 (mkF m 187 ls153 [])
      refine step (fun t k => XS.aload X151.here hx rfl (hb hby at_187) (by rw [hls153]; rfl) rfl k) ?_
      show G T151 (mkF m 189 ls153 [(.ref b13)])
      refine step (fun t k => XS.aload X151.here hx rfl (hb hby at_189) (by rw [hls153]; rfl) rfl k) ?_
      show G T151 (mkF m 191 ls153 [(.ref b11), (.ref b13)])
      refine step (fun t k => XS.lload X151.here hx rfl (hb hby at_191) (by rw [hls153]; rfl) k) ?_
      show G T151 (mkF m 193 ls153 [(.long nw), (.ref b11), (.ref b13)])
      have f155 := (Exa.keep f152 K151q)
      have f156 := (Fld.keep (Fld.keep (Fld.keep f111 K109q (ninS (Nat.ne_of_lt lt_b11_b13) nin0)) K148q (ninS (Nat.ne_of_lt lt_b11_b13) (ninS (Nat.ne_of_lt lt_b11_b14) nin0))) K151q (ninS (Nat.ne_of_lt lt_b11_b13) nin0))
      have f157 := (Fld.keep (Fld.keep (Fld.keep f112 K109q (ninS (Nat.ne_of_lt lt_b11_b13) nin0)) K148q (ninS (Nat.ne_of_lt lt_b11_b13) (ninS (Nat.ne_of_lt lt_b11_b14) nin0))) K151q (ninS (Nat.ne_of_lt lt_b11_b13) nin0))
      have hK154 := (backOf (R := room_1) (p := p) (e := e) (below := below) (args := #[(.long q0), (.int p1), (.int p2), (.int p3), (.int p4)]) (len := 3) (W := 0) (rm_cnt0_8 l Z a0 hw [] w_0 w_1 w_2 b13 b11 nw b151 kb_151 B1 B2 B3 B4 B5 (0 : Int64) (0 : Int64) (0 : Int64) (0 : Int32) (5 : Int32) (1 : Int64) T151.heap n0 (own_old_le O151) ST O151 Y151_1 ge_b13 Y151_2 ge_b151 Y151_3 Y151_4 Y151_5 ((by decide) : (0 : Int32) < (5 : Int32)) (by decide) f155 f156 f157 (show (nw - (1 : Int64)) < B1 from (own_ltB tnw1 tB1 hsp1.1 (by decide)))) hZ (ww74 hw) (ww51 hw) (by decide) (by decide))
      obtain ⟨cq154, kq154, q154a, q154b, q154c⟩ := isOf hZ rfl Y151_1
      obtain ⟨_, _, ⟨T154, L154, k154, n154⟩, -, X154, ⟨Lc154, hQ154, l154, y154, z154⟩, st154⟩ := X151.virtualBack hx (y := y_13) (z := y_13) hown (mvT hZ (ww70 hw)) (mvT hZ (ww71 hw)) (notFace_of_selects (args := #[]) (mvT hZ (ww73 hw))) (mvT hZ (ww73 hw)) (mvT hZ (ww72 hw)) (by decide) hK154 q154a q154c (g := (mkF m 193 ls153 [(.long nw), (.ref b11), (.ref b13)])) rfl (by rw [hml, hls153]; rfl) (Steps.refl _) (argsL := [(.ref b11), (.long nw)]) (rest := []) (lenOf pd_9 rfl) rfl (by show 2 * 0 + _ ≤ _; exact Nat.le_of_eq rfl) (hb hby at_193) (fun _ _ => ⟨rfl, rfl, (by decide : 6 + 0 ≤ _), (by decide : 38 + 0 ≤ _)⟩)
      dsimp only [Pt.U, Pt.locs, Pt.cells, Pt.slots] at X154 l154 y154 z154 st154 hQ154
      subst l154 y154 z154
      obtain ⟨rfl, N154q, K154q, Y154_0, Y154_1, Y154_2, Y154_3⟩ := hQ154
      have N154 := Fr.app N151 N154q
      obtain ⟨lc154, X154, N154⟩ := own_gen X154 N154
      have O154 := O151.keep K154q (allS ge_b13 all0)
      have hk154 : _ ≤ T154.heap.size := Nat.le_trans hk151 K154q.1
      refine step (fun t k => st154.trans k) ?_
      show G T154 (mkF m 196 ls153 [(.int 5)])
      obtain ⟨ls158, hls158⟩  := own_sl #[.val (.long q0), .second, .val (.int p1), .val (.int p2), .val (.int p3), .val (.int p4), .val (.long bb), .second, .val (.long sp), .second, .val (.int 1), .val (.int 2), .val (.ref b11), .val (.ref b13), .val (.long nw), .second, .val (.int 3), .val (.int 5), .val (.int 5), .unset, .unset, .unset]
      refine step (fun t k => XS.istore X154.here hx rfl (hb hby at_196) rfl (l' := ls158) (by rw [hls153, hls158]; rfl) k) ?_
      show G T154 (mkF m 198 ls158 [])
      refine step (fun t k => XS.iload X154.here hx rfl (hb hby at_198) (by rw [hls158]; rfl) k) ?_
      show G T154 (mkF m 200 ls158 [(.int p4)])
      have q159 := X154.ldcInt hx hown (mvT hZ (ww101 hw)) (g := (mkF m 200 ls158 [(.int p4)])) rfl (hb hby at_200)
      refine step q159 ?_
      show G T154 (mkF m 202 ls158 [(.int 2147483647), (.int p4)])
      refine step (fun t k => XS.iand X154.here hx rfl (hb hby at_202) rfl k) ?_
      show G T154 (mkF m 203 ls158 [(.int (p4 &&& (2147483647 : Int32)))])
      refine step (fun t k => XS.iload X154.here hx rfl (hb hby at_203) (by rw [hls158]; rfl) k) ?_
      show G T154 (mkF m 205 ls158 [(.int 5), (.int (p4 &&& (2147483647 : Int32)))])
      refine step (fun t k => iremM X154 hx rfl (hb hby at_205) rfl (by decide) k) ?_
      show G T154 (mkF m 206 ls158 [(.int ((p4 &&& (2147483647 : Int32)) % (5 : Int32)))])
      obtain ⟨ls160, hls160⟩  := own_sl #[.val (.long q0), .second, .val (.int p1), .val (.int p2), .val (.int p3), .val (.int p4), .val (.long bb), .second, .val (.long sp), .second, .val (.int 1), .val (.int 2), .val (.ref b11), .val (.ref b13), .val (.long nw), .second, .val (.int 3), .val (.int 5), .val (.int 5), .val (.int ((p4 &&& (2147483647 : Int32)) % (5 : Int32))), .unset, .unset]
      refine step (fun t k => XS.istore X154.here hx rfl (hb hby at_206) rfl (l' := ls160) (by rw [hls158, hls160]; rfl) k) ?_
      show G T154 (mkF m 208 ls160 [])
      obtain ⟨jj, hjj⟩ : ∃ z : Int32, z = ((p4 &&& (2147483647 : Int32)) % (5 : Int32)) := ⟨_, rfl⟩
      obtain ⟨ls161, hls161⟩  := own_sl #[.val (.long q0), .second, .val (.int p1), .val (.int p2), .val (.int p3), .val (.int p4), .val (.long bb), .second, .val (.long sp), .second, .val (.int 1), .val (.int 2), .val (.ref b11), .val (.ref b13), .val (.long nw), .second, .val (.int 3), .val (.int 5), .val (.int 5), .val (.int jj), .unset, .unset]
      rw [show ls160 = ls161 from by rw [hls160, hls161, hjj]]
      show G T154 (mkF m 208 ls161 [])
      have hj := own_j5 p4
      rw [← hjj] at hj
      refine step (fun t k => XS.aload X154.here hx rfl (hb hby at_208) (by rw [hls161]; rfl) rfl k) ?_
      show G T154 (mkF m 210 ls161 [(.ref b13)])
      refine step (fun t k => XS.iload X154.here hx rfl (hb hby at_210) (by rw [hls161]; rfl) k) ?_
      show G T154 (mkF m 212 ls161 [(.int jj), (.ref b13)])
      have f163 := (Arv.keep Y151_5 K154q (ninS (Nat.ne_of_gt lt_b13_b151) nin0))
      have hK162 := (backOf (R := room_1) (p := p) (e := e) (below := below) (args := #[(.long q0), (.int p1), (.int p2), (.int p3), (.int p4)]) (len := 3) (W := 0) (rm_get8 l Z a0 hw [] w_0 w_1 w_2 b13 jj b151 kb_151 B1 B2 B3 B4 B5 (0 : Int64) (0 : Int64) (0 : Int64) (0 : Int32) T154.heap n0 (own_old_le O154) ST O154 Y154_1 Y154_2 f163 (by rcases hj with h | h | h | h | h <;> (rw [h]; decide))) hZ (ww106 hw) (ww51 hw) (by decide) (by decide))
      obtain ⟨cq162, kq162, q162a, q162b, q162c⟩ := isOf hZ rfl Y154_0
      obtain ⟨_, _, ⟨T162, L162, k162, n162⟩, -, X162, ⟨Lc162, hQ162, l162, y162, z162⟩, st162⟩ := X154.virtualBack hx (y := y_14) (z := y_14) hown (mvT hZ (ww102 hw)) (mvT hZ (ww103 hw)) (notFace_of_selects (args := #[]) (mvT hZ (ww105 hw))) (mvT hZ (ww105 hw)) (mvT hZ (ww104 hw)) (by decide) hK162 q162a q162c (g := (mkF m 212 ls161 [(.int jj), (.ref b13)])) rfl (by rw [hml, hls161]; rfl) (Steps.refl _) (argsL := [(.int jj)]) (rest := []) (lenOf pd_10 rfl) rfl (by show 2 * 0 + _ ≤ _; exact Nat.le_of_eq rfl) (hb hby at_212) (fun _ _ => ⟨rfl, rfl, (by decide : 6 + 0 ≤ _), (by decide : 38 + 0 ≤ _)⟩)
      dsimp only [Pt.U, Pt.locs, Pt.cells, Pt.slots] at X162 l162 y162 z162 st162 hQ162
      subst l162 y162 z162
      obtain ⟨rfl, N162q, e162⟩ := hQ162
      have N162 := Fr.app N154 N162q
      obtain ⟨lc162, X162, N162⟩ := own_gen X162 N162
      refine step (fun t k => st162.trans k) ?_
      show G T162 (mkF m 215 ls161 [(.long (f_get8 w_0 w_1 w_2 b13 jj b151 kb_151 B1 B2 B3 B4 B5 (0 : Int64) (0 : Int64) (0 : Int64) (0 : Int32)))])
      have r164 : (f_get8 w_0 w_1 w_2 b13 jj b151 kb_151 B1 B2 B3 B4 B5 (0 : Int64) (0 : Int64) (0 : Int64) (0 : Int32)) = (own_at8 B1 B2 B3 B4 B5 (0 : Int64) (0 : Int64) (0 : Int64) (((0 : Int32) + jj) % (8 : Int32))) := rfl
      rw [r164]
      show G T162 (mkF m 215 ls161 [(.long (own_at8 B1 B2 B3 B4 B5 (0 : Int64) (0 : Int64) (0 : Int64) (((0 : Int32) + jj) % (8 : Int32))))])
      obtain ⟨ls165, hls165⟩  := own_sl #[.val (.long q0), .second, .val (.int p1), .val (.int p2), .val (.int p3), .val (.int p4), .val (.long bb), .second, .val (.long sp), .second, .val (.int 1), .val (.int 2), .val (.ref b11), .val (.ref b13), .val (.long nw), .second, .val (.int 3), .val (.int 5), .val (.int 5), .val (.int jj), .val (.long (own_at8 B1 B2 B3 B4 B5 (0 : Int64) (0 : Int64) (0 : Int64) (((0 : Int32) + jj) % (8 : Int32)))), .second]
      refine step (fun t k => XS.lstore X162.here hx rfl (hb hby at_215) rfl (l' := ls165) (by rw [hls161, hls165]; rfl) k) ?_
      show G T162 (mkF m 217 ls165 [])
      refine step (fun t k => XS.iload X162.here hx rfl (hb hby at_217) (by rw [hls165]; rfl) k) ?_
      show G T162 (mkF m 219 ls165 [(.int 3)])
      refine step (fun t k => XS.iconst X162.here hx rfl (hb hby at_219) k) ?_
      show G T162 (mkF m 220 ls165 [(.int 4), (.int 3)])
      refine step (fun t k => XS.iload X162.here hx rfl (hb hby at_220) (by rw [hls165]; rfl) k) ?_
      show G T162 (mkF m 222 ls165 [(.int 1), (.int 4), (.int 3)])
      refine step (fun t k => XS.isub X162.here hx rfl (hb hby at_222) rfl k) ?_
      show G T162 (mkF m 223 ls165 [(.int ((4 : Int32) - (1 : Int32))), (.int 3)])
      rw [(by decide : ((4 : Int32) - (1 : Int32)) = (3 : Int32))]
      show G T162 (mkF m 223 ls165 [(.int 3), (.int 3)])
      refine step (fun t k => XS.icmpNo X162.here hx rfl (hb hby at_223) rfl (teq (by decide : (3 : Int32) = (3 : Int32))).2 k) ?_
      show G T162 (mkF m 226 ls165 [])
      refine step (fun t k => XS.iload X162.here hx rfl (hb hby at_226) (by rw [hls165]; rfl) k) ?_
      show G T162 (mkF m 228 ls165 [(.int 5)])
      refine step (fun t k => XS.iload X162.here hx rfl (hb hby at_228) (by rw [hls165]; rfl) k) ?_
      show G T162 (mkF m 230 ls165 [(.int 5), (.int 5)])
      refine step (fun t k => XS.icmpNo X162.here hx rfl (hb hby at_230) rfl (teq (by decide : (5 : Int32) = (5 : Int32))).2 k) ?_
      show G T162 (mkF m 233 ls165 [])
      refine step (fun t k => XS.lload X162.here hx rfl (hb hby at_233) (by rw [hls165]; rfl) k) ?_
      show G T162 (mkF m 235 ls165 [(.long (own_at8 B1 B2 B3 B4 B5 (0 : Int64) (0 : Int64) (0 : Int64) (((0 : Int32) + jj) % (8 : Int32))))])
      refine step (fun t k => XS.lload X162.here hx rfl (hb hby at_235) (by rw [hls165]; rfl) k) ?_
      show G T162 (mkF m 237 ls165 [(.long bb), (.long (own_at8 B1 B2 B3 B4 B5 (0 : Int64) (0 : Int64) (0 : Int64) (((0 : Int32) + jj) % (8 : Int32))))])
      refine step (fun t k => XS.iload X162.here hx rfl (hb hby at_237) (by rw [hls165]; rfl) k) ?_
      show G T162 (mkF m 239 ls165 [(.int 1), (.long bb), (.long (own_at8 B1 B2 B3 B4 B5 (0 : Int64) (0 : Int64) (0 : Int64) (((0 : Int32) + jj) % (8 : Int32))))])
      refine step (fun t k => XS.iload X162.here hx rfl (hb hby at_239) (by rw [hls165]; rfl) k) ?_
      show G T162 (mkF m 241 ls165 [(.int jj), (.int 1), (.long bb), (.long (own_at8 B1 B2 B3 B4 B5 (0 : Int64) (0 : Int64) (0 : Int64) (((0 : Int32) + jj) % (8 : Int32))))])
      refine step (fun t k => XS.iadd X162.here hx rfl (hb hby at_241) rfl k) ?_
      show G T162 (mkF m 242 ls165 [(.int ((1 : Int32) + jj)), (.long bb), (.long (own_at8 B1 B2 B3 B4 B5 (0 : Int64) (0 : Int64) (0 : Int64) (((0 : Int32) + jj) % (8 : Int32))))])
      refine step (fun t k => XS.i2l X162.here hx rfl (hb hby at_242) rfl k) ?_
      show G T162 (mkF m 243 ls165 [(.long (((1 : Int32) + jj).toInt64)), (.long bb), (.long (own_at8 B1 B2 B3 B4 B5 (0 : Int64) (0 : Int64) (0 : Int64) (((0 : Int32) + jj) % (8 : Int32))))])
      refine step (fun t k => XS.lload X162.here hx rfl (hb hby at_243) (by rw [hls165]; rfl) k) ?_
      show G T162 (mkF m 245 ls165 [(.long sp), (.long (((1 : Int32) + jj).toInt64)), (.long bb), (.long (own_at8 B1 B2 B3 B4 B5 (0 : Int64) (0 : Int64) (0 : Int64) (((0 : Int32) + jj) % (8 : Int32))))])
      refine step (fun t k => XS.lmul X162.here hx rfl (hb hby at_245) rfl k) ?_
      show G T162 (mkF m 246 ls165 [(.long ((((1 : Int32) + jj).toInt64) * sp)), (.long bb), (.long (own_at8 B1 B2 B3 B4 B5 (0 : Int64) (0 : Int64) (0 : Int64) (((0 : Int32) + jj) % (8 : Int32))))])
      refine step (fun t k => XS.ladd X162.here hx rfl (hb hby at_246) rfl k) ?_
      show G T162 (mkF m 247 ls165 [(.long (bb + ((((1 : Int32) + jj).toInt64) * sp))), (.long (own_at8 B1 B2 B3 B4 B5 (0 : Int64) (0 : Int64) (0 : Int64) (((0 : Int32) + jj) % (8 : Int32))))])
      refine step (fun t k => XS.lcmp X162.here hx rfl (hb hby at_247) rfl k) ?_
      show G T162 (mkF m 248 ls165 [(.int (lcmpW (own_at8 B1 B2 B3 B4 B5 (0 : Int64) (0 : Int64) (0 : Int64) (((0 : Int32) + jj) % (8 : Int32))) (bb + ((((1 : Int32) + jj).toInt64) * sp))))])
      refine step (fun t k => XS.ifNo X162.here hx rfl (hb hby at_248) rfl ((if0 _ _).trans (teq ((lw_eq _ _).mpr (by rcases hj with h | h | h | h | h <;> rw [h] <;> first | exact hq1 | exact hq2 | exact hq3 | exact hq4 | exact hq5))).2) k) ?_
      show G T162 (mkF m 251 ls165 [])
      refine step (fun t k => XS.iconst X162.here hx rfl (hb hby at_251) k) ?_
      show G T162 (mkF m 252 ls165 [(.int 1)])
      refine step (fun t k => XS.goto X162.here hx rfl (pc0 := 252) (pc' := 256) rfl (hb hby at_252) (by decide) (by decide) k) ?_
      show G T162 (mkF m 256 ls165 [(.int 1)])
      exact ret (v := some (.int 1)) X162 hS hk154 (fun h => by rw [Bd.returns] at h; cases h) (fun fs hr => retN X162 hx (t := .boolean) Bd.returns (by simp) (hb hby at_256) hr) e162 ⟨rfl, N162⟩ (by decide) (by decide)
    · skip
      obtain ⟨ls166, hls166⟩  := own_sl #[.val (.long q0), .second, .val (.int p1), .val (.int p2), .val (.int p3), .val (.int p4), .val (.long bb), .second, .val (.long sp), .second, .val (.int 1), .val (.int 3), .val (.ref b11), .val (.ref b13), .val (.long nw), .second, .val (.int 3), .unset, .unset, .unset, .unset, .unset]
      rw [show ls113 = ls166 from by rw [hls113, hls166, hee]]
      show G T109 (mkF m 118 ls166 [])
      refine step (fun t k => XS.iload X109.here hx rfl (hb hby at_118) (by rw [hls166]; rfl) k) ?_
      show G T109 (mkF m 120 ls166 [(.int 3)])
      refine step (fun t k => XS.iconst X109.here hx rfl (hb hby at_120) k) ?_
      show G T109 (mkF m 121 ls166 [(.int 1), (.int 3)])
      refine step (fun t k => XS.icmpNo X109.here hx rfl (hb hby at_121) rfl (flt (by decide : ¬ ((3 : Int32) < (1 : Int32)))).1 k) ?_
      show G T109 (mkF m 124 ls166 [])
      refine step (fun t k => XS.aload X109.here hx rfl (hb hby at_124) (by rw [hls166]; rfl) rfl k) ?_
      show G T109 (mkF m 126 ls166 [(.ref b13)])
      refine step (fun t k => XS.lload X109.here hx rfl (hb hby at_126) (by rw [hls166]; rfl) k) ?_
      show G T109 (mkF m 128 ls166 [(.long bb), (.ref b13)])
      have q167 := X109.ldc2Long hx hown (mvT hZ (ww107 hw)) (g := (mkF m 128 ls166 [(.long bb), (.ref b13)])) rfl (hb hby at_128)
      refine step q167 ?_
      show G T109 (mkF m 131 ls166 [(.long 4), (.long bb), (.ref b13)])
      refine step (fun t k => XS.lload X109.here hx rfl (hb hby at_131) (by rw [hls166]; rfl) k) ?_
      show G T109 (mkF m 133 ls166 [(.long sp), (.long 4), (.long bb), (.ref b13)])
      refine step (fun t k => XS.lmul X109.here hx rfl (hb hby at_133) rfl k) ?_
      show G T109 (mkF m 134 ls166 [(.long ((4 : Int64) * sp)), (.long bb), (.ref b13)])
      refine step (fun t k => XS.ladd X109.here hx rfl (hb hby at_134) rfl k) ?_
      show G T109 (mkF m 135 ls166 [(.long (bb + ((4 : Int64) * sp))), (.ref b13)])
      obtain ⟨B4, hB4⟩ : ∃ z : Int64, z = (bb + ((4 : Int64) * sp)) := ⟨_, rfl⟩
      rw [← hB4]
      show G T109 (mkF m 135 ls166 [(.long B4), (.ref b13)])
      have tB4 := own_B (4 : Int64) 4 (by decide) (by decide) (by decide) hbb1 hsp1 hB4
      have hq4 := hB4
      have f169 := (Arv.keep Y22_4 K109q (ninS (Nat.ne_of_gt lt_b13_b14) nin0))
      have hK168 := (backOf (R := room_1) (p := p) (e := e) (below := below) (args := #[(.long q0), (.int p1), (.int p2), (.int p3), (.int p4)]) (len := 3) (W := 0) (rm_add_4_0 l Z a0 hw [] w_0 w_1 w_2 b13 B4 b14 kb_14 bb B1 B2 B3 (1 : Int32) (3 : Int32) (4 : Int32) T109.heap n0 (own_old_le O109) ST O109 Y109_0 ge_b13 Y109_1 ge_b14 Y109_2 Y109_3 f169 (by decide : ¬ ((3 : Int32) = (4 : Int32))) (by decide : ((3 : Int32) + (1 : Int32)) = (4 : Int32)) (by decide : (((1 : Int32) + (3 : Int32)) % (4 : Int32)) = (0 : Int32))) hZ (ww63 hw) (ww51 hw) (by decide) (by decide))
      obtain ⟨cq168, kq168, q168a, q168b, q168c⟩ := isOf hZ rfl Y109_0
      obtain ⟨_, _, ⟨T168, L168, k168, n168⟩, -, X168, ⟨Lc168, hQ168, l168, y168, z168⟩, st168⟩ := X109.virtualBack hx (y := y_10) (z := y_10) hown (mvT hZ (ww59 hw)) (mvT hZ (ww60 hw)) (notFace_of_selects (args := #[]) (mvT hZ (ww62 hw))) (mvT hZ (ww62 hw)) (mvT hZ (ww61 hw)) (by decide) hK168 q168a q168c (g := (mkF m 135 ls166 [(.long B4), (.ref b13)])) rfl (by rw [hml, hls166]; rfl) (Steps.refl _) (argsL := [(.long B4)]) (rest := []) (lenOf pd_5 rfl) rfl (by show 2 * 0 + _ ≤ _; exact Nat.le_of_eq rfl) (hb hby at_135) (fun _ _ => ⟨rfl, rfl, (by decide : 5 + 0 ≤ _), (by decide : 30 + 0 ≤ _)⟩)
      dsimp only [Pt.U, Pt.locs, Pt.cells, Pt.slots] at X168 l168 y168 z168 st168 hQ168
      subst l168 y168 z168
      obtain ⟨rfl, N168q, K168q, Y168_0, Y168_1, Y168_2, Y168_3, Y168_4⟩ := hQ168
      have N168 := Fr.app N109 N168q
      obtain ⟨lc168, X168, N168⟩ := own_gen X168 N168
      have O168 := O109.keep K168q (allS ge_b13 (allS ge_b14 all0))
      have hk168 : _ ≤ T168.heap.size := Nat.le_trans hk109 K168q.1
      refine step (fun t k => st168.trans k) ?_
      show G T168 (mkF m 138 ls166 [])
      refine step (fun t k => XS.iload X168.here hx rfl (hb hby at_138) (by rw [hls166]; rfl) k) ?_
      show G T168 (mkF m 140 ls166 [(.int 3)])
      refine step (fun t k => XS.iconst X168.here hx rfl (hb hby at_140) k) ?_
      show G T168 (mkF m 141 ls166 [(.int 2), (.int 3)])
      refine step (fun t k => XS.icmpNo X168.here hx rfl (hb hby at_141) rfl (flt (by decide : ¬ ((3 : Int32) < (2 : Int32)))).1 k) ?_
      show G T168 (mkF m 144 ls166 [])
      refine step (fun t k => XS.aload X168.here hx rfl (hb hby at_144) (by rw [hls166]; rfl) rfl k) ?_
      show G T168 (mkF m 146 ls166 [(.ref b13)])
      refine step (fun t k => XS.lload X168.here hx rfl (hb hby at_146) (by rw [hls166]; rfl) k) ?_
      show G T168 (mkF m 148 ls166 [(.long bb), (.ref b13)])
      have q170 := X168.ldc2Long hx hown (mvT hZ (ww108 hw)) (g := (mkF m 148 ls166 [(.long bb), (.ref b13)])) rfl (hb hby at_148)
      refine step q170 ?_
      show G T168 (mkF m 151 ls166 [(.long 5), (.long bb), (.ref b13)])
      refine step (fun t k => XS.lload X168.here hx rfl (hb hby at_151) (by rw [hls166]; rfl) k) ?_
      show G T168 (mkF m 153 ls166 [(.long sp), (.long 5), (.long bb), (.ref b13)])
      refine step (fun t k => XS.lmul X168.here hx rfl (hb hby at_153) rfl k) ?_
      show G T168 (mkF m 154 ls166 [(.long ((5 : Int64) * sp)), (.long bb), (.ref b13)])
      refine step (fun t k => XS.ladd X168.here hx rfl (hb hby at_154) rfl k) ?_
      show G T168 (mkF m 155 ls166 [(.long (bb + ((5 : Int64) * sp))), (.ref b13)])
      obtain ⟨B5, hB5⟩ : ∃ z : Int64, z = (bb + ((5 : Int64) * sp)) := ⟨_, rfl⟩
      rw [← hB5]
      show G T168 (mkF m 155 ls166 [(.long B5), (.ref b13)])
      have tB5 := own_B (5 : Int64) 5 (by decide) (by decide) (by decide) hbb1 hsp1 hB5
      have hq5 := hB5
      have hK171 := (backOf (R := room_1) (p := p) (e := e) (below := below) (args := #[(.long q0), (.int p1), (.int p2), (.int p3), (.int p4)]) (len := 3) (W := 0) (rm_addg_4_1 l Z a0 hw [] w_0 w_1 w_2 b13 B5 b14 kb_14 B4 B1 B2 B3 T168.heap n0 (own_old_le O168) ST O168 Y168_0 ge_b13 Y168_1 ge_b14 Y168_2 Y168_3 Y168_4) hZ (ww63 hw) (ww51 hw) (by decide) (by decide))
      obtain ⟨cq171, kq171, q171a, q171b, q171c⟩ := isOf hZ rfl Y168_0
      obtain ⟨_, _, ⟨T171, L171, k171, n171⟩, -, X171, ⟨Lc171, hQ171, l171, y171, z171⟩, st171⟩ := X168.virtualBack hx (y := y_10) (z := y_10) hown (mvT hZ (ww59 hw)) (mvT hZ (ww60 hw)) (notFace_of_selects (args := #[]) (mvT hZ (ww62 hw))) (mvT hZ (ww62 hw)) (mvT hZ (ww61 hw)) (by decide) hK171 q171a q171c (g := (mkF m 155 ls166 [(.long B5), (.ref b13)])) rfl (by rw [hml, hls166]; rfl) (Steps.refl _) (argsL := [(.long B5)]) (rest := []) (lenOf pd_5 rfl) rfl (by show 2 * 0 + _ ≤ _; exact Nat.le_of_eq rfl) (hb hby at_155) (fun _ _ => ⟨rfl, rfl, (by decide : 5 + 1 ≤ _), (by decide : 30 + 8 ≤ _)⟩)
      dsimp only [Pt.U, Pt.locs, Pt.cells, Pt.slots] at X171 l171 y171 z171 st171 hQ171
      subst l171 y171 z171
      have f172 := (Exa.keep (Exa.keep f110 K109q) K168q)
      obtain ⟨b171, kb_171, rfl, N171q, K171q, Y171_0, Y171_1, Y171_2, Y171_3, Y171_4, Y171_5⟩ := hQ171
      have N171 := Fr.app N168 N171q
      obtain ⟨lc171, X171, N171⟩ := own_gen X171 N171
      have O171 := O168.keep K171q (allS ge_b13 all0)
      have ge_b171 : n0 ≤ b171 := Nat.le_trans (own_old_le O168) Y171_0
      have lt_b11_b171 : b11 < b171 := Nat.lt_of_lt_of_le f172.lt Y171_0
      have lt_b13_b171 : b13 < b171 := Nat.lt_of_lt_of_le Y168_0.lt Y171_0
      have lt_b14_b171 : b14 < b171 := Nat.lt_of_lt_of_le Y168_4.lt Y171_0
      have hk171 : _ ≤ T171.heap.size := Nat.le_trans hk168 K171q.1
      refine step (fun t k => st171.trans k) ?_
      show G T171 (mkF m 158 ls166 [])
      refine step (fun t k => XS.iload X171.here hx rfl (hb hby at_158) (by rw [hls166]; rfl) k) ?_
      show G T171 (mkF m 160 ls166 [(.int 3)])
      refine step (fun t k => XS.iconst X171.here hx rfl (hb hby at_160) k) ?_
      show G T171 (mkF m 161 ls166 [(.int 3), (.int 3)])
      refine step (fun t k => XS.icmpNo X171.here hx rfl (hb hby at_161) rfl (flt (by decide : ¬ ((3 : Int32) < (3 : Int32)))).1 k) ?_
      show G T171 (mkF m 164 ls166 [])
      refine step (fun t k => XS.aload X171.here hx rfl (hb hby at_164) (by rw [hls166]; rfl) rfl k) ?_
      show G T171 (mkF m 166 ls166 [(.ref b13)])
      refine step (fun t k => XS.lload X171.here hx rfl (hb hby at_166) (by rw [hls166]; rfl) k) ?_
      show G T171 (mkF m 168 ls166 [(.long bb), (.ref b13)])
      have q173 := X171.ldc2Long hx hown (mvT hZ (ww109 hw)) (g := (mkF m 168 ls166 [(.long bb), (.ref b13)])) rfl (hb hby at_168)
      refine step q173 ?_
      show G T171 (mkF m 171 ls166 [(.long 6), (.long bb), (.ref b13)])
      refine step (fun t k => XS.lload X171.here hx rfl (hb hby at_171) (by rw [hls166]; rfl) k) ?_
      show G T171 (mkF m 173 ls166 [(.long sp), (.long 6), (.long bb), (.ref b13)])
      refine step (fun t k => XS.lmul X171.here hx rfl (hb hby at_173) rfl k) ?_
      show G T171 (mkF m 174 ls166 [(.long ((6 : Int64) * sp)), (.long bb), (.ref b13)])
      refine step (fun t k => XS.ladd X171.here hx rfl (hb hby at_174) rfl k) ?_
      show G T171 (mkF m 175 ls166 [(.long (bb + ((6 : Int64) * sp))), (.ref b13)])
      obtain ⟨B6, hB6⟩ : ∃ z : Int64, z = (bb + ((6 : Int64) * sp)) := ⟨_, rfl⟩
      rw [← hB6]
      show G T171 (mkF m 175 ls166 [(.long B6), (.ref b13)])
      have tB6 := own_B (6 : Int64) 6 (by decide) (by decide) (by decide) hbb1 hsp1 hB6
      have hq6 := hB6
      have hK174 := (backOf (R := room_1) (p := p) (e := e) (below := below) (args := #[(.long q0), (.int p1), (.int p2), (.int p3), (.int p4)]) (len := 3) (W := 0) (rm_add_8_5 l Z a0 hw [] w_0 w_1 w_2 b13 B6 b171 kb_171 B1 B2 B3 B4 B5 (0 : Int64) (0 : Int64) (0 : Int64) (0 : Int32) (5 : Int32) (6 : Int32) T171.heap n0 (own_old_le O171) ST O171 Y171_1 ge_b13 Y171_2 ge_b171 Y171_3 Y171_4 Y171_5 (by decide : ¬ ((5 : Int32) = (8 : Int32))) (by decide : ((5 : Int32) + (1 : Int32)) = (6 : Int32)) (by decide : (((0 : Int32) + (5 : Int32)) % (8 : Int32)) = (5 : Int32))) hZ (ww63 hw) (ww51 hw) (by decide) (by decide))
      obtain ⟨cq174, kq174, q174a, q174b, q174c⟩ := isOf hZ rfl Y171_1
      obtain ⟨_, _, ⟨T174, L174, k174, n174⟩, -, X174, ⟨Lc174, hQ174, l174, y174, z174⟩, st174⟩ := X171.virtualBack hx (y := y_10) (z := y_10) hown (mvT hZ (ww59 hw)) (mvT hZ (ww60 hw)) (notFace_of_selects (args := #[]) (mvT hZ (ww62 hw))) (mvT hZ (ww62 hw)) (mvT hZ (ww61 hw)) (by decide) hK174 q174a q174c (g := (mkF m 175 ls166 [(.long B6), (.ref b13)])) rfl (by rw [hml, hls166]; rfl) (Steps.refl _) (argsL := [(.long B6)]) (rest := []) (lenOf pd_5 rfl) rfl (by show 2 * 0 + _ ≤ _; exact Nat.le_of_eq rfl) (hb hby at_175) (fun _ _ => ⟨rfl, rfl, (by decide : 6 + 0 ≤ _), (by decide : 38 + 0 ≤ _)⟩)
      dsimp only [Pt.U, Pt.locs, Pt.cells, Pt.slots] at X174 l174 y174 z174 st174 hQ174
      subst l174 y174 z174
      obtain ⟨rfl, N174q, K174q, Y174_0, Y174_1, Y174_2, Y174_3, Y174_4⟩ := hQ174
      have N174 := Fr.app N171 N174q
      obtain ⟨lc174, X174, N174⟩ := own_gen X174 N174
      have O174 := O171.keep K174q (allS ge_b13 (allS ge_b171 all0))
      have hk174 : _ ≤ T174.heap.size := Nat.le_trans hk171 K174q.1
      refine step (fun t k => st174.trans k) ?_
      show G T174 (mkF m 178 ls166 [])
      refine step (fun t k => XS.iconst X174.here hx rfl (hb hby at_178) k) ?_
      show G T174 (mkF m 179 ls166 [(.int 4)])
      refine step (fun t k => XS.iload X174.here hx rfl (hb hby at_179) (by rw [hls166]; rfl) k) ?_
      show G T174 (mkF m 181 ls166 [(.int 1), (.int 4)])
      refine step (fun t k => XS.isub X174.here hx rfl (hb hby at_181) rfl k) ?_
      show G T174 (mkF m 182 ls166 [(.int ((4 : Int32) - (1 : Int32)))])
      rw [(by decide : ((4 : Int32) - (1 : Int32)) = (3 : Int32))]
      show G T174 (mkF m 182 ls166 [(.int 3)])
      refine step (fun t k => XS.iload X174.here hx rfl (hb hby at_182) (by rw [hls166]; rfl) k) ?_
      show G T174 (mkF m 184 ls166 [(.int 3), (.int 3)])
      refine step (fun t k => XS.iadd X174.here hx rfl (hb hby at_184) rfl k) ?_
      show G T174 (mkF m 185 ls166 [(.int ((3 : Int32) + (3 : Int32)))])
      rw [(by decide : ((3 : Int32) + (3 : Int32)) = (6 : Int32))]
      show G T174 (mkF m 185 ls166 [(.int 6)])
      obtain ⟨ls175, hls175⟩  := own_sl #[.val (.long q0), .second, .val (.int p1), .val (.int p2), .val (.int p3), .val (.int p4), .val (.long bb), .second, .val (.long sp), .second, .val (.int 1), .val (.int 3), .val (.ref b11), .val (.ref b13), .val (.long nw), .second, .val (.int 3), .val (.int 6), .unset, .unset, .unset, .unset]
      refine step (fun t k => XS.istore X174.here hx rfl (hb hby at_185) rfl (l' := ls175) (by rw [hls166, hls175]; rfl) k) ?_
      show G T174 (mkF m 187 ls175 [])
      refine step (fun t k => XS.aload X174.here hx rfl (hb hby at_187) (by rw [hls175]; rfl) rfl k) ?_
      show G T174 (mkF m 189 ls175 [(.ref b13)])
      refine step (fun t k => XS.aload X174.here hx rfl (hb hby at_189) (by rw [hls175]; rfl) rfl k) ?_
      show G T174 (mkF m 191 ls175 [(.ref b11), (.ref b13)])
      refine step (fun t k => XS.lload X174.here hx rfl (hb hby at_191) (by rw [hls175]; rfl) k) ?_
      show G T174 (mkF m 193 ls175 [(.long nw), (.ref b11), (.ref b13)])
      have f177 := (Exa.keep (Exa.keep f172 K171q) K174q)
      have f178 := (Fld.keep (Fld.keep (Fld.keep (Fld.keep f111 K109q (ninS (Nat.ne_of_lt lt_b11_b13) nin0)) K168q (ninS (Nat.ne_of_lt lt_b11_b13) (ninS (Nat.ne_of_lt lt_b11_b14) nin0))) K171q (ninS (Nat.ne_of_lt lt_b11_b13) nin0)) K174q (ninS (Nat.ne_of_lt lt_b11_b13) (ninS (Nat.ne_of_lt lt_b11_b171) nin0)))
      have f179 := (Fld.keep (Fld.keep (Fld.keep (Fld.keep f112 K109q (ninS (Nat.ne_of_lt lt_b11_b13) nin0)) K168q (ninS (Nat.ne_of_lt lt_b11_b13) (ninS (Nat.ne_of_lt lt_b11_b14) nin0))) K171q (ninS (Nat.ne_of_lt lt_b11_b13) nin0)) K174q (ninS (Nat.ne_of_lt lt_b11_b13) (ninS (Nat.ne_of_lt lt_b11_b171) nin0)))
      have hK176 := (backOf (R := room_1) (p := p) (e := e) (below := below) (args := #[(.long q0), (.int p1), (.int p2), (.int p3), (.int p4)]) (len := 3) (W := 0) (rm_cnt0_8 l Z a0 hw [] w_0 w_1 w_2 b13 b11 nw b171 kb_171 B1 B2 B3 B4 B5 B6 (0 : Int64) (0 : Int64) (0 : Int32) (6 : Int32) (1 : Int64) T174.heap n0 (own_old_le O174) ST O174 Y174_0 ge_b13 Y174_1 ge_b171 Y174_2 Y174_3 Y174_4 ((by decide) : (0 : Int32) < (6 : Int32)) (by decide) f177 f178 f179 (show (nw - (1 : Int64)) < B1 from (own_ltB tnw1 tB1 hsp1.1 (by decide)))) hZ (ww74 hw) (ww51 hw) (by decide) (by decide))
      obtain ⟨cq176, kq176, q176a, q176b, q176c⟩ := isOf hZ rfl Y174_0
      obtain ⟨_, _, ⟨T176, L176, k176, n176⟩, -, X176, ⟨Lc176, hQ176, l176, y176, z176⟩, st176⟩ := X174.virtualBack hx (y := y_13) (z := y_13) hown (mvT hZ (ww70 hw)) (mvT hZ (ww71 hw)) (notFace_of_selects (args := #[]) (mvT hZ (ww73 hw))) (mvT hZ (ww73 hw)) (mvT hZ (ww72 hw)) (by decide) hK176 q176a q176c (g := (mkF m 193 ls175 [(.long nw), (.ref b11), (.ref b13)])) rfl (by rw [hml, hls175]; rfl) (Steps.refl _) (argsL := [(.ref b11), (.long nw)]) (rest := []) (lenOf pd_9 rfl) rfl (by show 2 * 0 + _ ≤ _; exact Nat.le_of_eq rfl) (hb hby at_193) (fun _ _ => ⟨rfl, rfl, (by decide : 6 + 0 ≤ _), (by decide : 38 + 0 ≤ _)⟩)
      dsimp only [Pt.U, Pt.locs, Pt.cells, Pt.slots] at X176 l176 y176 z176 st176 hQ176
      subst l176 y176 z176
      obtain ⟨rfl, N176q, K176q, Y176_0, Y176_1, Y176_2, Y176_3⟩ := hQ176
      have N176 := Fr.app N174 N176q
      obtain ⟨lc176, X176, N176⟩ := own_gen X176 N176
      have O176 := O174.keep K176q (allS ge_b13 all0)
      have hk176 : _ ≤ T176.heap.size := Nat.le_trans hk174 K176q.1
      refine step (fun t k => st176.trans k) ?_
      show G T176 (mkF m 196 ls175 [(.int 6)])
      obtain ⟨ls180, hls180⟩  := own_sl #[.val (.long q0), .second, .val (.int p1), .val (.int p2), .val (.int p3), .val (.int p4), .val (.long bb), .second, .val (.long sp), .second, .val (.int 1), .val (.int 3), .val (.ref b11), .val (.ref b13), .val (.long nw), .second, .val (.int 3), .val (.int 6), .val (.int 6), .unset, .unset, .unset]
      refine step (fun t k => XS.istore X176.here hx rfl (hb hby at_196) rfl (l' := ls180) (by rw [hls175, hls180]; rfl) k) ?_
      show G T176 (mkF m 198 ls180 [])
      refine step (fun t k => XS.iload X176.here hx rfl (hb hby at_198) (by rw [hls180]; rfl) k) ?_
      show G T176 (mkF m 200 ls180 [(.int p4)])
      have q181 := X176.ldcInt hx hown (mvT hZ (ww101 hw)) (g := (mkF m 200 ls180 [(.int p4)])) rfl (hb hby at_200)
      refine step q181 ?_
      show G T176 (mkF m 202 ls180 [(.int 2147483647), (.int p4)])
      refine step (fun t k => XS.iand X176.here hx rfl (hb hby at_202) rfl k) ?_
      show G T176 (mkF m 203 ls180 [(.int (p4 &&& (2147483647 : Int32)))])
      refine step (fun t k => XS.iload X176.here hx rfl (hb hby at_203) (by rw [hls180]; rfl) k) ?_
      show G T176 (mkF m 205 ls180 [(.int 6), (.int (p4 &&& (2147483647 : Int32)))])
      refine step (fun t k => iremM X176 hx rfl (hb hby at_205) rfl (by decide) k) ?_
      show G T176 (mkF m 206 ls180 [(.int ((p4 &&& (2147483647 : Int32)) % (6 : Int32)))])
      obtain ⟨ls182, hls182⟩  := own_sl #[.val (.long q0), .second, .val (.int p1), .val (.int p2), .val (.int p3), .val (.int p4), .val (.long bb), .second, .val (.long sp), .second, .val (.int 1), .val (.int 3), .val (.ref b11), .val (.ref b13), .val (.long nw), .second, .val (.int 3), .val (.int 6), .val (.int 6), .val (.int ((p4 &&& (2147483647 : Int32)) % (6 : Int32))), .unset, .unset]
      refine step (fun t k => XS.istore X176.here hx rfl (hb hby at_206) rfl (l' := ls182) (by rw [hls180, hls182]; rfl) k) ?_
      show G T176 (mkF m 208 ls182 [])
      obtain ⟨jj, hjj⟩ : ∃ z : Int32, z = ((p4 &&& (2147483647 : Int32)) % (6 : Int32)) := ⟨_, rfl⟩
      obtain ⟨ls183, hls183⟩  := own_sl #[.val (.long q0), .second, .val (.int p1), .val (.int p2), .val (.int p3), .val (.int p4), .val (.long bb), .second, .val (.long sp), .second, .val (.int 1), .val (.int 3), .val (.ref b11), .val (.ref b13), .val (.long nw), .second, .val (.int 3), .val (.int 6), .val (.int 6), .val (.int jj), .unset, .unset]
      rw [show ls182 = ls183 from by rw [hls182, hls183, hjj]]
      show G T176 (mkF m 208 ls183 [])
      have hj := own_j6 p4
      rw [← hjj] at hj
      refine step (fun t k => XS.aload X176.here hx rfl (hb hby at_208) (by rw [hls183]; rfl) rfl k) ?_
      show G T176 (mkF m 210 ls183 [(.ref b13)])
      refine step (fun t k => XS.iload X176.here hx rfl (hb hby at_210) (by rw [hls183]; rfl) k) ?_
      show G T176 (mkF m 212 ls183 [(.int jj), (.ref b13)])
      have f185 := (Arv.keep Y174_4 K176q (ninS (Nat.ne_of_gt lt_b13_b171) nin0))
      have hK184 := (backOf (R := room_1) (p := p) (e := e) (below := below) (args := #[(.long q0), (.int p1), (.int p2), (.int p3), (.int p4)]) (len := 3) (W := 0) (rm_get8 l Z a0 hw [] w_0 w_1 w_2 b13 jj b171 kb_171 B1 B2 B3 B4 B5 B6 (0 : Int64) (0 : Int64) (0 : Int32) T176.heap n0 (own_old_le O176) ST O176 Y176_1 Y176_2 f185 (by rcases hj with h | h | h | h | h | h <;> (rw [h]; decide))) hZ (ww106 hw) (ww51 hw) (by decide) (by decide))
      obtain ⟨cq184, kq184, q184a, q184b, q184c⟩ := isOf hZ rfl Y176_0
      obtain ⟨_, _, ⟨T184, L184, k184, n184⟩, -, X184, ⟨Lc184, hQ184, l184, y184, z184⟩, st184⟩ := X176.virtualBack hx (y := y_14) (z := y_14) hown (mvT hZ (ww102 hw)) (mvT hZ (ww103 hw)) (notFace_of_selects (args := #[]) (mvT hZ (ww105 hw))) (mvT hZ (ww105 hw)) (mvT hZ (ww104 hw)) (by decide) hK184 q184a q184c (g := (mkF m 212 ls183 [(.int jj), (.ref b13)])) rfl (by rw [hml, hls183]; rfl) (Steps.refl _) (argsL := [(.int jj)]) (rest := []) (lenOf pd_10 rfl) rfl (by show 2 * 0 + _ ≤ _; exact Nat.le_of_eq rfl) (hb hby at_212) (fun _ _ => ⟨rfl, rfl, (by decide : 6 + 0 ≤ _), (by decide : 38 + 0 ≤ _)⟩)
      dsimp only [Pt.U, Pt.locs, Pt.cells, Pt.slots] at X184 l184 y184 z184 st184 hQ184
      subst l184 y184 z184
      obtain ⟨rfl, N184q, e184⟩ := hQ184
      have N184 := Fr.app N176 N184q
      obtain ⟨lc184, X184, N184⟩ := own_gen X184 N184
      refine step (fun t k => st184.trans k) ?_
      show G T184 (mkF m 215 ls183 [(.long (f_get8 w_0 w_1 w_2 b13 jj b171 kb_171 B1 B2 B3 B4 B5 B6 (0 : Int64) (0 : Int64) (0 : Int32)))])
      have r186 : (f_get8 w_0 w_1 w_2 b13 jj b171 kb_171 B1 B2 B3 B4 B5 B6 (0 : Int64) (0 : Int64) (0 : Int32)) = (own_at8 B1 B2 B3 B4 B5 B6 (0 : Int64) (0 : Int64) (((0 : Int32) + jj) % (8 : Int32))) := rfl
      rw [r186]
      show G T184 (mkF m 215 ls183 [(.long (own_at8 B1 B2 B3 B4 B5 B6 (0 : Int64) (0 : Int64) (((0 : Int32) + jj) % (8 : Int32))))])
      obtain ⟨ls187, hls187⟩  := own_sl #[.val (.long q0), .second, .val (.int p1), .val (.int p2), .val (.int p3), .val (.int p4), .val (.long bb), .second, .val (.long sp), .second, .val (.int 1), .val (.int 3), .val (.ref b11), .val (.ref b13), .val (.long nw), .second, .val (.int 3), .val (.int 6), .val (.int 6), .val (.int jj), .val (.long (own_at8 B1 B2 B3 B4 B5 B6 (0 : Int64) (0 : Int64) (((0 : Int32) + jj) % (8 : Int32)))), .second]
      refine step (fun t k => XS.lstore X184.here hx rfl (hb hby at_215) rfl (l' := ls187) (by rw [hls183, hls187]; rfl) k) ?_
      show G T184 (mkF m 217 ls187 [])
      refine step (fun t k => XS.iload X184.here hx rfl (hb hby at_217) (by rw [hls187]; rfl) k) ?_
      show G T184 (mkF m 219 ls187 [(.int 3)])
      refine step (fun t k => XS.iconst X184.here hx rfl (hb hby at_219) k) ?_
      show G T184 (mkF m 220 ls187 [(.int 4), (.int 3)])
      refine step (fun t k => XS.iload X184.here hx rfl (hb hby at_220) (by rw [hls187]; rfl) k) ?_
      show G T184 (mkF m 222 ls187 [(.int 1), (.int 4), (.int 3)])
      refine step (fun t k => XS.isub X184.here hx rfl (hb hby at_222) rfl k) ?_
      show G T184 (mkF m 223 ls187 [(.int ((4 : Int32) - (1 : Int32))), (.int 3)])
      rw [(by decide : ((4 : Int32) - (1 : Int32)) = (3 : Int32))]
      show G T184 (mkF m 223 ls187 [(.int 3), (.int 3)])
      refine step (fun t k => XS.icmpNo X184.here hx rfl (hb hby at_223) rfl (teq (by decide : (3 : Int32) = (3 : Int32))).2 k) ?_
      show G T184 (mkF m 226 ls187 [])
      refine step (fun t k => XS.iload X184.here hx rfl (hb hby at_226) (by rw [hls187]; rfl) k) ?_
      show G T184 (mkF m 228 ls187 [(.int 6)])
      refine step (fun t k => XS.iload X184.here hx rfl (hb hby at_228) (by rw [hls187]; rfl) k) ?_
      show G T184 (mkF m 230 ls187 [(.int 6), (.int 6)])
      refine step (fun t k => XS.icmpNo X184.here hx rfl (hb hby at_230) rfl (teq (by decide : (6 : Int32) = (6 : Int32))).2 k) ?_
      show G T184 (mkF m 233 ls187 [])
      refine step (fun t k => XS.lload X184.here hx rfl (hb hby at_233) (by rw [hls187]; rfl) k) ?_
      show G T184 (mkF m 235 ls187 [(.long (own_at8 B1 B2 B3 B4 B5 B6 (0 : Int64) (0 : Int64) (((0 : Int32) + jj) % (8 : Int32))))])
      refine step (fun t k => XS.lload X184.here hx rfl (hb hby at_235) (by rw [hls187]; rfl) k) ?_
      show G T184 (mkF m 237 ls187 [(.long bb), (.long (own_at8 B1 B2 B3 B4 B5 B6 (0 : Int64) (0 : Int64) (((0 : Int32) + jj) % (8 : Int32))))])
      refine step (fun t k => XS.iload X184.here hx rfl (hb hby at_237) (by rw [hls187]; rfl) k) ?_
      show G T184 (mkF m 239 ls187 [(.int 1), (.long bb), (.long (own_at8 B1 B2 B3 B4 B5 B6 (0 : Int64) (0 : Int64) (((0 : Int32) + jj) % (8 : Int32))))])
      refine step (fun t k => XS.iload X184.here hx rfl (hb hby at_239) (by rw [hls187]; rfl) k) ?_
      show G T184 (mkF m 241 ls187 [(.int jj), (.int 1), (.long bb), (.long (own_at8 B1 B2 B3 B4 B5 B6 (0 : Int64) (0 : Int64) (((0 : Int32) + jj) % (8 : Int32))))])
      refine step (fun t k => XS.iadd X184.here hx rfl (hb hby at_241) rfl k) ?_
      show G T184 (mkF m 242 ls187 [(.int ((1 : Int32) + jj)), (.long bb), (.long (own_at8 B1 B2 B3 B4 B5 B6 (0 : Int64) (0 : Int64) (((0 : Int32) + jj) % (8 : Int32))))])
      refine step (fun t k => XS.i2l X184.here hx rfl (hb hby at_242) rfl k) ?_
      show G T184 (mkF m 243 ls187 [(.long (((1 : Int32) + jj).toInt64)), (.long bb), (.long (own_at8 B1 B2 B3 B4 B5 B6 (0 : Int64) (0 : Int64) (((0 : Int32) + jj) % (8 : Int32))))])
      refine step (fun t k => XS.lload X184.here hx rfl (hb hby at_243) (by rw [hls187]; rfl) k) ?_
      show G T184 (mkF m 245 ls187 [(.long sp), (.long (((1 : Int32) + jj).toInt64)), (.long bb), (.long (own_at8 B1 B2 B3 B4 B5 B6 (0 : Int64) (0 : Int64) (((0 : Int32) + jj) % (8 : Int32))))])
      refine step (fun t k => XS.lmul X184.here hx rfl (hb hby at_245) rfl k) ?_
      show G T184 (mkF m 246 ls187 [(.long ((((1 : Int32) + jj).toInt64) * sp)), (.long bb), (.long (own_at8 B1 B2 B3 B4 B5 B6 (0 : Int64) (0 : Int64) (((0 : Int32) + jj) % (8 : Int32))))])
      refine step (fun t k => XS.ladd X184.here hx rfl (hb hby at_246) rfl k) ?_
      show G T184 (mkF m 247 ls187 [(.long (bb + ((((1 : Int32) + jj).toInt64) * sp))), (.long (own_at8 B1 B2 B3 B4 B5 B6 (0 : Int64) (0 : Int64) (((0 : Int32) + jj) % (8 : Int32))))])
      refine step (fun t k => XS.lcmp X184.here hx rfl (hb hby at_247) rfl k) ?_
      show G T184 (mkF m 248 ls187 [(.int (lcmpW (own_at8 B1 B2 B3 B4 B5 B6 (0 : Int64) (0 : Int64) (((0 : Int32) + jj) % (8 : Int32))) (bb + ((((1 : Int32) + jj).toInt64) * sp))))])
      refine step (fun t k => XS.ifNo X184.here hx rfl (hb hby at_248) rfl ((if0 _ _).trans (teq ((lw_eq _ _).mpr (by rcases hj with h | h | h | h | h | h <;> rw [h] <;> first | exact hq1 | exact hq2 | exact hq3 | exact hq4 | exact hq5 | exact hq6))).2) k) ?_
      show G T184 (mkF m 251 ls187 [])
      refine step (fun t k => XS.iconst X184.here hx rfl (hb hby at_251) k) ?_
      show G T184 (mkF m 252 ls187 [(.int 1)])
      refine step (fun t k => XS.goto X184.here hx rfl (pc0 := 252) (pc' := 256) rfl (hb hby at_252) (by decide) (by decide) k) ?_
      show G T184 (mkF m 256 ls187 [(.int 1)])
      exact ret (v := some (.int 1)) X184 hS hk176 (fun h => by rw [Bd.returns] at h; cases h) (fun fs hr => retN X184 hx (t := .boolean) Bd.returns (by simp) (hb hby at_256) hr) e184 ⟨rfl, N184⟩ (by decide) (by decide)
  · skip
    obtain ⟨ls188, hls188⟩  := own_sl #[.val (.long q0), .second, .val (.int p1), .val (.int p2), .val (.int p3), .val (.int p4), .val (.long bb), .second, .val (.long sp), .second, .val (.int 2), .val (.int (p3 &&& (3 : Int32))), .val (.ref b11), .val (.ref b13), .unset, .unset, .unset, .unset, .unset, .unset, .unset, .unset]
    rw [show ls16 = ls188 from by rw [hls16, hls188, hkk]]
    show G T22 (mkF m 96 ls188 [])
    refine step (fun t k => XS.lload X22.here hx rfl (hb hby at_96) (by rw [hls188]; rfl) k) ?_
    show G T22 (mkF m 98 ls188 [(.long bb)])
    refine step (fun t k => XS.iload X22.here hx rfl (hb hby at_98) (by rw [hls188]; rfl) k) ?_
    show G T22 (mkF m 100 ls188 [(.int 2), (.long bb)])
    refine step (fun t k => XS.i2l X22.here hx rfl (hb hby at_100) rfl k) ?_
    show G T22 (mkF m 101 ls188 [(.long ((2 : Int32).toInt64)), (.long bb)])
    rw [(by decide : ((2 : Int32).toInt64) = (2 : Int64))]
    show G T22 (mkF m 101 ls188 [(.long 2), (.long bb)])
    refine step (fun t k => XS.lload X22.here hx rfl (hb hby at_101) (by rw [hls188]; rfl) k) ?_
    show G T22 (mkF m 103 ls188 [(.long sp), (.long 2), (.long bb)])
    refine step (fun t k => XS.lmul X22.here hx rfl (hb hby at_103) rfl k) ?_
    show G T22 (mkF m 104 ls188 [(.long ((2 : Int64) * sp)), (.long bb)])
    refine step (fun t k => XS.ladd X22.here hx rfl (hb hby at_104) rfl k) ?_
    show G T22 (mkF m 105 ls188 [(.long (bb + ((2 : Int64) * sp)))])
    obtain ⟨ls189, hls189⟩  := own_sl #[.val (.long q0), .second, .val (.int p1), .val (.int p2), .val (.int p3), .val (.int p4), .val (.long bb), .second, .val (.long sp), .second, .val (.int 2), .val (.int (p3 &&& (3 : Int32))), .val (.ref b11), .val (.ref b13), .val (.long (bb + ((2 : Int64) * sp))), .second, .unset, .unset, .unset, .unset, .unset, .unset]
    refine step (fun t k => XS.lstore X22.here hx rfl (hb hby at_105) rfl (l' := ls189) (by rw [hls188, hls189]; rfl) k) ?_
    show G T22 (mkF m 107 ls189 [])
    obtain ⟨nw, hnw⟩ : ∃ z : Int64, z = (bb + ((2 : Int64) * sp)) := ⟨_, rfl⟩
    obtain ⟨ls190, hls190⟩  := own_sl #[.val (.long q0), .second, .val (.int p1), .val (.int p2), .val (.int p3), .val (.int p4), .val (.long bb), .second, .val (.long sp), .second, .val (.int 2), .val (.int (p3 &&& (3 : Int32))), .val (.ref b11), .val (.ref b13), .val (.long nw), .second, .unset, .unset, .unset, .unset, .unset, .unset]
    rw [show ls189 = ls190 from by rw [hls189, hls190, hnw]]
    show G T22 (mkF m 107 ls190 [])
    have tnw := own_B (2 : Int64) 2 (by decide) (by decide) (by decide) hbb1 hsp1 hnw
    have tnw1 := own_nw1 (by decide) (by decide) hbb1 hsp1 tnw
    refine step (fun t k => XS.aload X22.here hx rfl (hb hby at_107) (by rw [hls190]; rfl) rfl k) ?_
    show G T22 (mkF m 109 ls190 [(.ref b13)])
    refine step (fun t k => XS.aload X22.here hx rfl (hb hby at_109) (by rw [hls190]; rfl) rfl k) ?_
    show G T22 (mkF m 111 ls190 [(.ref b11), (.ref b13)])
    refine step (fun t k => XS.lload X22.here hx rfl (hb hby at_111) (by rw [hls190]; rfl) k) ?_
    show G T22 (mkF m 113 ls190 [(.long nw), (.ref b11), (.ref b13)])
    have f192 := (Exa.keep (Exa.keep (Exa.keep (Exa.keep (Exa.keep f15 K14q) K17q) K18q) K20q) K22q)
    have f193 := (Fld.keep (Fld.keep (Fld.keep (Fld.keep (Fld.keep (Fld.ext E13 Y11_2) K14q (ninS (Nat.ne_of_lt lt_b11_b13) nin0)) K17q (ninS (Nat.ne_of_lt lt_b11_b13) (ninS (Nat.ne_of_lt lt_b11_b14) nin0))) K18q (ninS (Nat.ne_of_lt lt_b11_b13) (ninS (Nat.ne_of_lt lt_b11_b14) nin0))) K20q (ninS (Nat.ne_of_lt lt_b11_b13) (ninS (Nat.ne_of_lt lt_b11_b14) nin0))) K22q (ninS (Nat.ne_of_lt lt_b11_b13) (ninS (Nat.ne_of_lt lt_b11_b14) nin0)))
    have f194 := (Fld.keep (Fld.keep (Fld.keep (Fld.keep (Fld.keep (Fld.ext E13 Y11_3) K14q (ninS (Nat.ne_of_lt lt_b11_b13) nin0)) K17q (ninS (Nat.ne_of_lt lt_b11_b13) (ninS (Nat.ne_of_lt lt_b11_b14) nin0))) K18q (ninS (Nat.ne_of_lt lt_b11_b13) (ninS (Nat.ne_of_lt lt_b11_b14) nin0))) K20q (ninS (Nat.ne_of_lt lt_b11_b13) (ninS (Nat.ne_of_lt lt_b11_b14) nin0))) K22q (ninS (Nat.ne_of_lt lt_b11_b13) (ninS (Nat.ne_of_lt lt_b11_b14) nin0)))
    have hK191 := (backOf (R := room_1) (p := p) (e := e) (below := below) (args := #[(.long q0), (.int p1), (.int p2), (.int p3), (.int p4)]) (len := 3) (W := 0) (rm_cnt_4_0_4_2 l Z a0 hw [] w_0 w_1 w_2 b13 b11 nw b14 kb_14 bb B1 B2 B3 (1 : Int64) T22.heap n0 (own_old_le O22) ST O22 Y22_0 ge_b13 Y22_1 ge_b14 Y22_2 Y22_3 Y22_4 f192 f193 f194 ((own_geB tnw1 tB0 hsp1.1 (by decide)) : ¬ ((nw - (1 : Int64)) < bb)) ((own_geB tnw1 tB1 hsp1.1 (by decide)) : ¬ ((nw - (1 : Int64)) < B1)) ((own_ltB tnw1 tB2 hsp1.1 (by decide)) : (nw - (1 : Int64)) < B2)) hZ (ww74 hw) (ww51 hw) (by decide) (by decide))
    obtain ⟨cq191, kq191, q191a, q191b, q191c⟩ := isOf hZ rfl Y22_0
    obtain ⟨_, _, ⟨T191, L191, k191, n191⟩, -, X191, ⟨Lc191, hQ191, l191, y191, z191⟩, st191⟩ := X22.virtualBack hx (y := y_13) (z := y_13) hown (mvT hZ (ww70 hw)) (mvT hZ (ww71 hw)) (notFace_of_selects (args := #[]) (mvT hZ (ww73 hw))) (mvT hZ (ww73 hw)) (mvT hZ (ww72 hw)) (by decide) hK191 q191a q191c (g := (mkF m 113 ls190 [(.long nw), (.ref b11), (.ref b13)])) rfl (by rw [hml, hls190]; rfl) (Steps.refl _) (argsL := [(.ref b11), (.long nw)]) (rest := []) (lenOf pd_9 rfl) rfl (by show 2 * 0 + _ ≤ _; exact Nat.le_of_eq rfl) (hb hby at_113) (fun _ _ => ⟨rfl, rfl, (by decide : 5 + 0 ≤ _), (by decide : 30 + 0 ≤ _)⟩)
    dsimp only [Pt.U, Pt.locs, Pt.cells, Pt.slots] at X191 l191 y191 z191 st191 hQ191
    subst l191 y191 z191
    obtain ⟨rfl, N191q, K191q, Y191_0, Y191_1, Y191_2, Y191_3⟩ := hQ191
    have N191 := Fr.app N22 N191q
    obtain ⟨lc191, X191, N191⟩ := own_gen X191 N191
    have O191 := O22.keep K191q (allS ge_b13 all0)
    have hk191 : _ ≤ T191.heap.size := Nat.le_trans hk22 K191q.1
    refine step (fun t k => st191.trans k) ?_
    show G T191 (mkF m 116 ls190 [(.int 2)])
    obtain ⟨ls195, hls195⟩  := own_sl #[.val (.long q0), .second, .val (.int p1), .val (.int p2), .val (.int p3), .val (.int p4), .val (.long bb), .second, .val (.long sp), .second, .val (.int 2), .val (.int (p3 &&& (3 : Int32))), .val (.ref b11), .val (.ref b13), .val (.long nw), .second, .val (.int 2), .unset, .unset, .unset, .unset, .unset]
    refine step (fun t k => XS.istore X191.here hx rfl (hb hby at_116) rfl (l' := ls195) (by rw [hls190, hls195]; rfl) k) ?_
    show G T191 (mkF m 118 ls195 [])
    rcases own_k4 p3 with hee | hee | hee | hee
    · skip
      obtain ⟨ls196, hls196⟩  := own_sl #[.val (.long q0), .second, .val (.int p1), .val (.int p2), .val (.int p3), .val (.int p4), .val (.long bb), .second, .val (.long sp), .second, .val (.int 2), .val (.int 0), .val (.ref b11), .val (.ref b13), .val (.long nw), .second, .val (.int 2), .unset, .unset, .unset, .unset, .unset]
      rw [show ls195 = ls196 from by rw [hls195, hls196, hee]]
      show G T191 (mkF m 118 ls196 [])
      refine step (fun t k => XS.iload X191.here hx rfl (hb hby at_118) (by rw [hls196]; rfl) k) ?_
      show G T191 (mkF m 120 ls196 [(.int 0)])
      refine step (fun t k => XS.iconst X191.here hx rfl (hb hby at_120) k) ?_
      show G T191 (mkF m 121 ls196 [(.int 1), (.int 0)])
      refine step (fun t k => XS.icmpYes X191.here hx rfl (pc0 := 121) (pc' := 138) rfl (hb hby at_121) rfl (tlt (by decide : (0 : Int32) < (1 : Int32))).1 (by decide) (by decide) k) ?_
      show G T191 (mkF m 138 ls196 [])
      refine step (fun t k => XS.iload X191.here hx rfl (hb hby at_138) (by rw [hls196]; rfl) k) ?_
      show G T191 (mkF m 140 ls196 [(.int 0)])
      refine step (fun t k => XS.iconst X191.here hx rfl (hb hby at_140) k) ?_
      show G T191 (mkF m 141 ls196 [(.int 2), (.int 0)])
      refine step (fun t k => XS.icmpYes X191.here hx rfl (pc0 := 141) (pc' := 158) rfl (hb hby at_141) rfl (tlt (by decide : (0 : Int32) < (2 : Int32))).1 (by decide) (by decide) k) ?_
      show G T191 (mkF m 158 ls196 [])
      refine step (fun t k => XS.iload X191.here hx rfl (hb hby at_158) (by rw [hls196]; rfl) k) ?_
      show G T191 (mkF m 160 ls196 [(.int 0)])
      refine step (fun t k => XS.iconst X191.here hx rfl (hb hby at_160) k) ?_
      show G T191 (mkF m 161 ls196 [(.int 3), (.int 0)])
      refine step (fun t k => XS.icmpYes X191.here hx rfl (pc0 := 161) (pc' := 178) rfl (hb hby at_161) rfl (tlt (by decide : (0 : Int32) < (3 : Int32))).1 (by decide) (by decide) k) ?_
      show G T191 (mkF m 178 ls196 [])
      refine step (fun t k => XS.iconst X191.here hx rfl (hb hby at_178) k) ?_
      show G T191 (mkF m 179 ls196 [(.int 4)])
      refine step (fun t k => XS.iload X191.here hx rfl (hb hby at_179) (by rw [hls196]; rfl) k) ?_
      show G T191 (mkF m 181 ls196 [(.int 2), (.int 4)])
      refine step (fun t k => XS.isub X191.here hx rfl (hb hby at_181) rfl k) ?_
      show G T191 (mkF m 182 ls196 [(.int ((4 : Int32) - (2 : Int32)))])
      rw [(by decide : ((4 : Int32) - (2 : Int32)) = (2 : Int32))]
      show G T191 (mkF m 182 ls196 [(.int 2)])
      refine step (fun t k => XS.iload X191.here hx rfl (hb hby at_182) (by rw [hls196]; rfl) k) ?_
      show G T191 (mkF m 184 ls196 [(.int 0), (.int 2)])
      refine step (fun t k => XS.iadd X191.here hx rfl (hb hby at_184) rfl k) ?_
      show G T191 (mkF m 185 ls196 [(.int ((2 : Int32) + (0 : Int32)))])
      rw [(by decide : ((2 : Int32) + (0 : Int32)) = (2 : Int32))]
      show G T191 (mkF m 185 ls196 [(.int 2)])
      obtain ⟨ls197, hls197⟩  := own_sl #[.val (.long q0), .second, .val (.int p1), .val (.int p2), .val (.int p3), .val (.int p4), .val (.long bb), .second, .val (.long sp), .second, .val (.int 2), .val (.int 0), .val (.ref b11), .val (.ref b13), .val (.long nw), .second, .val (.int 2), .val (.int 2), .unset, .unset, .unset, .unset]
      refine step (fun t k => XS.istore X191.here hx rfl (hb hby at_185) rfl (l' := ls197) (by rw [hls196, hls197]; rfl) k) ?_
      show G T191 (mkF m 187 ls197 [])
      refine step (fun t k => XS.aload X191.here hx rfl (hb hby at_187) (by rw [hls197]; rfl) rfl k) ?_
      show G T191 (mkF m 189 ls197 [(.ref b13)])
      refine step (fun t k => XS.aload X191.here hx rfl (hb hby at_189) (by rw [hls197]; rfl) rfl k) ?_
      show G T191 (mkF m 191 ls197 [(.ref b11), (.ref b13)])
      refine step (fun t k => XS.lload X191.here hx rfl (hb hby at_191) (by rw [hls197]; rfl) k) ?_
      show G T191 (mkF m 193 ls197 [(.long nw), (.ref b11), (.ref b13)])
      have f199 := (Arv.keep Y22_4 K191q (ninS (Nat.ne_of_gt lt_b13_b14) nin0))
      have f200 := (Exa.keep f192 K191q)
      have f201 := (Fld.keep f193 K191q (ninS (Nat.ne_of_lt lt_b11_b13) nin0))
      have f202 := (Fld.keep f194 K191q (ninS (Nat.ne_of_lt lt_b11_b13) nin0))
      have hK198 := (backOf (R := room_1) (p := p) (e := e) (below := below) (args := #[(.long q0), (.int p1), (.int p2), (.int p3), (.int p4)]) (len := 3) (W := 0) (rm_cnt0_4 l Z a0 hw [] w_0 w_1 w_2 b13 b11 nw b14 kb_14 bb B1 B2 B3 (2 : Int32) (2 : Int32) (1 : Int64) T191.heap n0 (own_old_le O191) ST O191 Y191_0 ge_b13 Y191_1 ge_b14 Y191_2 Y191_3 f199 ((by decide) : (0 : Int32) < (2 : Int32)) (by decide) f200 f201 f202 (show (nw - (1 : Int64)) < B2 from (own_ltB tnw1 tB2 hsp1.1 (by decide)))) hZ (ww74 hw) (ww51 hw) (by decide) (by decide))
      obtain ⟨cq198, kq198, q198a, q198b, q198c⟩ := isOf hZ rfl Y191_0
      obtain ⟨_, _, ⟨T198, L198, k198, n198⟩, -, X198, ⟨Lc198, hQ198, l198, y198, z198⟩, st198⟩ := X191.virtualBack hx (y := y_13) (z := y_13) hown (mvT hZ (ww70 hw)) (mvT hZ (ww71 hw)) (notFace_of_selects (args := #[]) (mvT hZ (ww73 hw))) (mvT hZ (ww73 hw)) (mvT hZ (ww72 hw)) (by decide) hK198 q198a q198c (g := (mkF m 193 ls197 [(.long nw), (.ref b11), (.ref b13)])) rfl (by rw [hml, hls197]; rfl) (Steps.refl _) (argsL := [(.ref b11), (.long nw)]) (rest := []) (lenOf pd_9 rfl) rfl (by show 2 * 0 + _ ≤ _; exact Nat.le_of_eq rfl) (hb hby at_193) (fun _ _ => ⟨rfl, rfl, (by decide : 5 + 0 ≤ _), (by decide : 30 + 0 ≤ _)⟩)
      dsimp only [Pt.U, Pt.locs, Pt.cells, Pt.slots] at X198 l198 y198 z198 st198 hQ198
      subst l198 y198 z198
      obtain ⟨rfl, N198q, K198q, Y198_0, Y198_1, Y198_2, Y198_3⟩ := hQ198
      have N198 := Fr.app N191 N198q
      obtain ⟨lc198, X198, N198⟩ := own_gen X198 N198
      have O198 := O191.keep K198q (allS ge_b13 all0)
      have hk198 : _ ≤ T198.heap.size := Nat.le_trans hk191 K198q.1
      refine step (fun t k => st198.trans k) ?_
      show G T198 (mkF m 196 ls197 [(.int 2)])
      obtain ⟨ls203, hls203⟩  := own_sl #[.val (.long q0), .second, .val (.int p1), .val (.int p2), .val (.int p3), .val (.int p4), .val (.long bb), .second, .val (.long sp), .second, .val (.int 2), .val (.int 0), .val (.ref b11), .val (.ref b13), .val (.long nw), .second, .val (.int 2), .val (.int 2), .val (.int 2), .unset, .unset, .unset]
      refine step (fun t k => XS.istore X198.here hx rfl (hb hby at_196) rfl (l' := ls203) (by rw [hls197, hls203]; rfl) k) ?_
      show G T198 (mkF m 198 ls203 [])
      refine step (fun t k => XS.iload X198.here hx rfl (hb hby at_198) (by rw [hls203]; rfl) k) ?_
      show G T198 (mkF m 200 ls203 [(.int p4)])
      have q204 := X198.ldcInt hx hown (mvT hZ (ww101 hw)) (g := (mkF m 200 ls203 [(.int p4)])) rfl (hb hby at_200)
      refine step q204 ?_
      show G T198 (mkF m 202 ls203 [(.int 2147483647), (.int p4)])
      refine step (fun t k => XS.iand X198.here hx rfl (hb hby at_202) rfl k) ?_
      show G T198 (mkF m 203 ls203 [(.int (p4 &&& (2147483647 : Int32)))])
      refine step (fun t k => XS.iload X198.here hx rfl (hb hby at_203) (by rw [hls203]; rfl) k) ?_
      show G T198 (mkF m 205 ls203 [(.int 2), (.int (p4 &&& (2147483647 : Int32)))])
      refine step (fun t k => iremM X198 hx rfl (hb hby at_205) rfl (by decide) k) ?_
      show G T198 (mkF m 206 ls203 [(.int ((p4 &&& (2147483647 : Int32)) % (2 : Int32)))])
      obtain ⟨ls205, hls205⟩  := own_sl #[.val (.long q0), .second, .val (.int p1), .val (.int p2), .val (.int p3), .val (.int p4), .val (.long bb), .second, .val (.long sp), .second, .val (.int 2), .val (.int 0), .val (.ref b11), .val (.ref b13), .val (.long nw), .second, .val (.int 2), .val (.int 2), .val (.int 2), .val (.int ((p4 &&& (2147483647 : Int32)) % (2 : Int32))), .unset, .unset]
      refine step (fun t k => XS.istore X198.here hx rfl (hb hby at_206) rfl (l' := ls205) (by rw [hls203, hls205]; rfl) k) ?_
      show G T198 (mkF m 208 ls205 [])
      obtain ⟨jj, hjj⟩ : ∃ z : Int32, z = ((p4 &&& (2147483647 : Int32)) % (2 : Int32)) := ⟨_, rfl⟩
      obtain ⟨ls206, hls206⟩  := own_sl #[.val (.long q0), .second, .val (.int p1), .val (.int p2), .val (.int p3), .val (.int p4), .val (.long bb), .second, .val (.long sp), .second, .val (.int 2), .val (.int 0), .val (.ref b11), .val (.ref b13), .val (.long nw), .second, .val (.int 2), .val (.int 2), .val (.int 2), .val (.int jj), .unset, .unset]
      rw [show ls205 = ls206 from by rw [hls205, hls206, hjj]]
      show G T198 (mkF m 208 ls206 [])
      have hj := own_j2 p4
      rw [← hjj] at hj
      refine step (fun t k => XS.aload X198.here hx rfl (hb hby at_208) (by rw [hls206]; rfl) rfl k) ?_
      show G T198 (mkF m 210 ls206 [(.ref b13)])
      refine step (fun t k => XS.iload X198.here hx rfl (hb hby at_210) (by rw [hls206]; rfl) k) ?_
      show G T198 (mkF m 212 ls206 [(.int jj), (.ref b13)])
      have f208 := (Arv.keep f199 K198q (ninS (Nat.ne_of_gt lt_b13_b14) nin0))
      have hK207 := (backOf (R := room_1) (p := p) (e := e) (below := below) (args := #[(.long q0), (.int p1), (.int p2), (.int p3), (.int p4)]) (len := 3) (W := 0) (rm_get4 l Z a0 hw [] w_0 w_1 w_2 b13 jj b14 kb_14 bb B1 B2 B3 (2 : Int32) T198.heap n0 (own_old_le O198) ST O198 Y198_1 Y198_2 f208 (by rcases hj with h | h <;> (rw [h]; decide))) hZ (ww106 hw) (ww51 hw) (by decide) (by decide))
      obtain ⟨cq207, kq207, q207a, q207b, q207c⟩ := isOf hZ rfl Y198_0
      obtain ⟨_, _, ⟨T207, L207, k207, n207⟩, -, X207, ⟨Lc207, hQ207, l207, y207, z207⟩, st207⟩ := X198.virtualBack hx (y := y_14) (z := y_14) hown (mvT hZ (ww102 hw)) (mvT hZ (ww103 hw)) (notFace_of_selects (args := #[]) (mvT hZ (ww105 hw))) (mvT hZ (ww105 hw)) (mvT hZ (ww104 hw)) (by decide) hK207 q207a q207c (g := (mkF m 212 ls206 [(.int jj), (.ref b13)])) rfl (by rw [hml, hls206]; rfl) (Steps.refl _) (argsL := [(.int jj)]) (rest := []) (lenOf pd_10 rfl) rfl (by show 2 * 0 + _ ≤ _; exact Nat.le_of_eq rfl) (hb hby at_212) (fun _ _ => ⟨rfl, rfl, (by decide : 5 + 0 ≤ _), (by decide : 30 + 0 ≤ _)⟩)
      dsimp only [Pt.U, Pt.locs, Pt.cells, Pt.slots] at X207 l207 y207 z207 st207 hQ207
      subst l207 y207 z207
      obtain ⟨rfl, N207q, e207⟩ := hQ207
      have N207 := Fr.app N198 N207q
      obtain ⟨lc207, X207, N207⟩ := own_gen X207 N207
      refine step (fun t k => st207.trans k) ?_
      show G T207 (mkF m 215 ls206 [(.long (f_get4 w_0 w_1 w_2 b13 jj b14 kb_14 bb B1 B2 B3 (2 : Int32)))])
      have r209 : (f_get4 w_0 w_1 w_2 b13 jj b14 kb_14 bb B1 B2 B3 (2 : Int32)) = (own_at4 bb B1 B2 B3 (((2 : Int32) + jj) % (4 : Int32))) := rfl
      rw [r209]
      show G T207 (mkF m 215 ls206 [(.long (own_at4 bb B1 B2 B3 (((2 : Int32) + jj) % (4 : Int32))))])
      obtain ⟨ls210, hls210⟩  := own_sl #[.val (.long q0), .second, .val (.int p1), .val (.int p2), .val (.int p3), .val (.int p4), .val (.long bb), .second, .val (.long sp), .second, .val (.int 2), .val (.int 0), .val (.ref b11), .val (.ref b13), .val (.long nw), .second, .val (.int 2), .val (.int 2), .val (.int 2), .val (.int jj), .val (.long (own_at4 bb B1 B2 B3 (((2 : Int32) + jj) % (4 : Int32)))), .second]
      refine step (fun t k => XS.lstore X207.here hx rfl (hb hby at_215) rfl (l' := ls210) (by rw [hls206, hls210]; rfl) k) ?_
      show G T207 (mkF m 217 ls210 [])
      refine step (fun t k => XS.iload X207.here hx rfl (hb hby at_217) (by rw [hls210]; rfl) k) ?_
      show G T207 (mkF m 219 ls210 [(.int 2)])
      refine step (fun t k => XS.iconst X207.here hx rfl (hb hby at_219) k) ?_
      show G T207 (mkF m 220 ls210 [(.int 4), (.int 2)])
      refine step (fun t k => XS.iload X207.here hx rfl (hb hby at_220) (by rw [hls210]; rfl) k) ?_
      show G T207 (mkF m 222 ls210 [(.int 2), (.int 4), (.int 2)])
      refine step (fun t k => XS.isub X207.here hx rfl (hb hby at_222) rfl k) ?_
      show G T207 (mkF m 223 ls210 [(.int ((4 : Int32) - (2 : Int32))), (.int 2)])
      rw [(by decide : ((4 : Int32) - (2 : Int32)) = (2 : Int32))]
      show G T207 (mkF m 223 ls210 [(.int 2), (.int 2)])
      refine step (fun t k => XS.icmpNo X207.here hx rfl (hb hby at_223) rfl (teq (by decide : (2 : Int32) = (2 : Int32))).2 k) ?_
      show G T207 (mkF m 226 ls210 [])
      refine step (fun t k => XS.iload X207.here hx rfl (hb hby at_226) (by rw [hls210]; rfl) k) ?_
      show G T207 (mkF m 228 ls210 [(.int 2)])
      refine step (fun t k => XS.iload X207.here hx rfl (hb hby at_228) (by rw [hls210]; rfl) k) ?_
      show G T207 (mkF m 230 ls210 [(.int 2), (.int 2)])
      refine step (fun t k => XS.icmpNo X207.here hx rfl (hb hby at_230) rfl (teq (by decide : (2 : Int32) = (2 : Int32))).2 k) ?_
      show G T207 (mkF m 233 ls210 [])
      refine step (fun t k => XS.lload X207.here hx rfl (hb hby at_233) (by rw [hls210]; rfl) k) ?_
      show G T207 (mkF m 235 ls210 [(.long (own_at4 bb B1 B2 B3 (((2 : Int32) + jj) % (4 : Int32))))])
      refine step (fun t k => XS.lload X207.here hx rfl (hb hby at_235) (by rw [hls210]; rfl) k) ?_
      show G T207 (mkF m 237 ls210 [(.long bb), (.long (own_at4 bb B1 B2 B3 (((2 : Int32) + jj) % (4 : Int32))))])
      refine step (fun t k => XS.iload X207.here hx rfl (hb hby at_237) (by rw [hls210]; rfl) k) ?_
      show G T207 (mkF m 239 ls210 [(.int 2), (.long bb), (.long (own_at4 bb B1 B2 B3 (((2 : Int32) + jj) % (4 : Int32))))])
      refine step (fun t k => XS.iload X207.here hx rfl (hb hby at_239) (by rw [hls210]; rfl) k) ?_
      show G T207 (mkF m 241 ls210 [(.int jj), (.int 2), (.long bb), (.long (own_at4 bb B1 B2 B3 (((2 : Int32) + jj) % (4 : Int32))))])
      refine step (fun t k => XS.iadd X207.here hx rfl (hb hby at_241) rfl k) ?_
      show G T207 (mkF m 242 ls210 [(.int ((2 : Int32) + jj)), (.long bb), (.long (own_at4 bb B1 B2 B3 (((2 : Int32) + jj) % (4 : Int32))))])
      refine step (fun t k => XS.i2l X207.here hx rfl (hb hby at_242) rfl k) ?_
      show G T207 (mkF m 243 ls210 [(.long (((2 : Int32) + jj).toInt64)), (.long bb), (.long (own_at4 bb B1 B2 B3 (((2 : Int32) + jj) % (4 : Int32))))])
      refine step (fun t k => XS.lload X207.here hx rfl (hb hby at_243) (by rw [hls210]; rfl) k) ?_
      show G T207 (mkF m 245 ls210 [(.long sp), (.long (((2 : Int32) + jj).toInt64)), (.long bb), (.long (own_at4 bb B1 B2 B3 (((2 : Int32) + jj) % (4 : Int32))))])
      refine step (fun t k => XS.lmul X207.here hx rfl (hb hby at_245) rfl k) ?_
      show G T207 (mkF m 246 ls210 [(.long ((((2 : Int32) + jj).toInt64) * sp)), (.long bb), (.long (own_at4 bb B1 B2 B3 (((2 : Int32) + jj) % (4 : Int32))))])
      refine step (fun t k => XS.ladd X207.here hx rfl (hb hby at_246) rfl k) ?_
      show G T207 (mkF m 247 ls210 [(.long (bb + ((((2 : Int32) + jj).toInt64) * sp))), (.long (own_at4 bb B1 B2 B3 (((2 : Int32) + jj) % (4 : Int32))))])
      refine step (fun t k => XS.lcmp X207.here hx rfl (hb hby at_247) rfl k) ?_
      show G T207 (mkF m 248 ls210 [(.int (lcmpW (own_at4 bb B1 B2 B3 (((2 : Int32) + jj) % (4 : Int32))) (bb + ((((2 : Int32) + jj).toInt64) * sp))))])
      refine step (fun t k => XS.ifNo X207.here hx rfl (hb hby at_248) rfl ((if0 _ _).trans (teq ((lw_eq _ _).mpr (by rcases hj with h | h <;> rw [h] <;> first | exact hq2 | exact hq3))).2) k) ?_
      show G T207 (mkF m 251 ls210 [])
      refine step (fun t k => XS.iconst X207.here hx rfl (hb hby at_251) k) ?_
      show G T207 (mkF m 252 ls210 [(.int 1)])
      refine step (fun t k => XS.goto X207.here hx rfl (pc0 := 252) (pc' := 256) rfl (hb hby at_252) (by decide) (by decide) k) ?_
      show G T207 (mkF m 256 ls210 [(.int 1)])
      exact ret (v := some (.int 1)) X207 hS hk198 (fun h => by rw [Bd.returns] at h; cases h) (fun fs hr => retN X207 hx (t := .boolean) Bd.returns (by simp) (hb hby at_256) hr) e207 ⟨rfl, N207⟩ (by decide) (by decide)
    · skip
      obtain ⟨ls211, hls211⟩  := own_sl #[.val (.long q0), .second, .val (.int p1), .val (.int p2), .val (.int p3), .val (.int p4), .val (.long bb), .second, .val (.long sp), .second, .val (.int 2), .val (.int 1), .val (.ref b11), .val (.ref b13), .val (.long nw), .second, .val (.int 2), .unset, .unset, .unset, .unset, .unset]
      rw [show ls195 = ls211 from by rw [hls195, hls211, hee]]
      show G T191 (mkF m 118 ls211 [])
      refine step (fun t k => XS.iload X191.here hx rfl (hb hby at_118) (by rw [hls211]; rfl) k) ?_
      show G T191 (mkF m 120 ls211 [(.int 1)])
      refine step (fun t k => XS.iconst X191.here hx rfl (hb hby at_120) k) ?_
      show G T191 (mkF m 121 ls211 [(.int 1), (.int 1)])
      refine step (fun t k => XS.icmpNo X191.here hx rfl (hb hby at_121) rfl (flt (by decide : ¬ ((1 : Int32) < (1 : Int32)))).1 k) ?_
      show G T191 (mkF m 124 ls211 [])
      refine step (fun t k => XS.aload X191.here hx rfl (hb hby at_124) (by rw [hls211]; rfl) rfl k) ?_
      show G T191 (mkF m 126 ls211 [(.ref b13)])
      refine step (fun t k => XS.lload X191.here hx rfl (hb hby at_126) (by rw [hls211]; rfl) k) ?_
      show G T191 (mkF m 128 ls211 [(.long bb), (.ref b13)])
      have q212 := X191.ldc2Long hx hown (mvT hZ (ww107 hw)) (g := (mkF m 128 ls211 [(.long bb), (.ref b13)])) rfl (hb hby at_128)
      refine step q212 ?_
      show G T191 (mkF m 131 ls211 [(.long 4), (.long bb), (.ref b13)])
      refine step (fun t k => XS.lload X191.here hx rfl (hb hby at_131) (by rw [hls211]; rfl) k) ?_
      show G T191 (mkF m 133 ls211 [(.long sp), (.long 4), (.long bb), (.ref b13)])
      refine step (fun t k => XS.lmul X191.here hx rfl (hb hby at_133) rfl k) ?_
      show G T191 (mkF m 134 ls211 [(.long ((4 : Int64) * sp)), (.long bb), (.ref b13)])
      refine step (fun t k => XS.ladd X191.here hx rfl (hb hby at_134) rfl k) ?_
      show G T191 (mkF m 135 ls211 [(.long (bb + ((4 : Int64) * sp))), (.ref b13)])
      obtain ⟨B4, hB4⟩ : ∃ z : Int64, z = (bb + ((4 : Int64) * sp)) := ⟨_, rfl⟩
      rw [← hB4]
      show G T191 (mkF m 135 ls211 [(.long B4), (.ref b13)])
      have tB4 := own_B (4 : Int64) 4 (by decide) (by decide) (by decide) hbb1 hsp1 hB4
      have hq4 := hB4
      have f214 := (Arv.keep Y22_4 K191q (ninS (Nat.ne_of_gt lt_b13_b14) nin0))
      have hK213 := (backOf (R := room_1) (p := p) (e := e) (below := below) (args := #[(.long q0), (.int p1), (.int p2), (.int p3), (.int p4)]) (len := 3) (W := 0) (rm_add_4_0 l Z a0 hw [] w_0 w_1 w_2 b13 B4 b14 kb_14 bb B1 B2 B3 (2 : Int32) (2 : Int32) (3 : Int32) T191.heap n0 (own_old_le O191) ST O191 Y191_0 ge_b13 Y191_1 ge_b14 Y191_2 Y191_3 f214 (by decide : ¬ ((2 : Int32) = (4 : Int32))) (by decide : ((2 : Int32) + (1 : Int32)) = (3 : Int32)) (by decide : (((2 : Int32) + (2 : Int32)) % (4 : Int32)) = (0 : Int32))) hZ (ww63 hw) (ww51 hw) (by decide) (by decide))
      obtain ⟨cq213, kq213, q213a, q213b, q213c⟩ := isOf hZ rfl Y191_0
      obtain ⟨_, _, ⟨T213, L213, k213, n213⟩, -, X213, ⟨Lc213, hQ213, l213, y213, z213⟩, st213⟩ := X191.virtualBack hx (y := y_10) (z := y_10) hown (mvT hZ (ww59 hw)) (mvT hZ (ww60 hw)) (notFace_of_selects (args := #[]) (mvT hZ (ww62 hw))) (mvT hZ (ww62 hw)) (mvT hZ (ww61 hw)) (by decide) hK213 q213a q213c (g := (mkF m 135 ls211 [(.long B4), (.ref b13)])) rfl (by rw [hml, hls211]; rfl) (Steps.refl _) (argsL := [(.long B4)]) (rest := []) (lenOf pd_5 rfl) rfl (by show 2 * 0 + _ ≤ _; exact Nat.le_of_eq rfl) (hb hby at_135) (fun _ _ => ⟨rfl, rfl, (by decide : 5 + 0 ≤ _), (by decide : 30 + 0 ≤ _)⟩)
      dsimp only [Pt.U, Pt.locs, Pt.cells, Pt.slots] at X213 l213 y213 z213 st213 hQ213
      subst l213 y213 z213
      obtain ⟨rfl, N213q, K213q, Y213_0, Y213_1, Y213_2, Y213_3, Y213_4⟩ := hQ213
      have N213 := Fr.app N191 N213q
      obtain ⟨lc213, X213, N213⟩ := own_gen X213 N213
      have O213 := O191.keep K213q (allS ge_b13 (allS ge_b14 all0))
      have hk213 : _ ≤ T213.heap.size := Nat.le_trans hk191 K213q.1
      refine step (fun t k => st213.trans k) ?_
      show G T213 (mkF m 138 ls211 [])
      refine step (fun t k => XS.iload X213.here hx rfl (hb hby at_138) (by rw [hls211]; rfl) k) ?_
      show G T213 (mkF m 140 ls211 [(.int 1)])
      refine step (fun t k => XS.iconst X213.here hx rfl (hb hby at_140) k) ?_
      show G T213 (mkF m 141 ls211 [(.int 2), (.int 1)])
      refine step (fun t k => XS.icmpYes X213.here hx rfl (pc0 := 141) (pc' := 158) rfl (hb hby at_141) rfl (tlt (by decide : (1 : Int32) < (2 : Int32))).1 (by decide) (by decide) k) ?_
      show G T213 (mkF m 158 ls211 [])
      refine step (fun t k => XS.iload X213.here hx rfl (hb hby at_158) (by rw [hls211]; rfl) k) ?_
      show G T213 (mkF m 160 ls211 [(.int 1)])
      refine step (fun t k => XS.iconst X213.here hx rfl (hb hby at_160) k) ?_
      show G T213 (mkF m 161 ls211 [(.int 3), (.int 1)])
      refine step (fun t k => XS.icmpYes X213.here hx rfl (pc0 := 161) (pc' := 178) rfl (hb hby at_161) rfl (tlt (by decide : (1 : Int32) < (3 : Int32))).1 (by decide) (by decide) k) ?_
      show G T213 (mkF m 178 ls211 [])
      refine step (fun t k => XS.iconst X213.here hx rfl (hb hby at_178) k) ?_
      show G T213 (mkF m 179 ls211 [(.int 4)])
      refine step (fun t k => XS.iload X213.here hx rfl (hb hby at_179) (by rw [hls211]; rfl) k) ?_
      show G T213 (mkF m 181 ls211 [(.int 2), (.int 4)])
      refine step (fun t k => XS.isub X213.here hx rfl (hb hby at_181) rfl k) ?_
      show G T213 (mkF m 182 ls211 [(.int ((4 : Int32) - (2 : Int32)))])
      rw [(by decide : ((4 : Int32) - (2 : Int32)) = (2 : Int32))]
      show G T213 (mkF m 182 ls211 [(.int 2)])
      refine step (fun t k => XS.iload X213.here hx rfl (hb hby at_182) (by rw [hls211]; rfl) k) ?_
      show G T213 (mkF m 184 ls211 [(.int 1), (.int 2)])
      refine step (fun t k => XS.iadd X213.here hx rfl (hb hby at_184) rfl k) ?_
      show G T213 (mkF m 185 ls211 [(.int ((2 : Int32) + (1 : Int32)))])
      rw [(by decide : ((2 : Int32) + (1 : Int32)) = (3 : Int32))]
      show G T213 (mkF m 185 ls211 [(.int 3)])
      obtain ⟨ls215, hls215⟩  := own_sl #[.val (.long q0), .second, .val (.int p1), .val (.int p2), .val (.int p3), .val (.int p4), .val (.long bb), .second, .val (.long sp), .second, .val (.int 2), .val (.int 1), .val (.ref b11), .val (.ref b13), .val (.long nw), .second, .val (.int 2), .val (.int 3), .unset, .unset, .unset, .unset]
      refine step (fun t k => XS.istore X213.here hx rfl (hb hby at_185) rfl (l' := ls215) (by rw [hls211, hls215]; rfl) k) ?_
      show G T213 (mkF m 187 ls215 [])
      refine step (fun t k => XS.aload X213.here hx rfl (hb hby at_187) (by rw [hls215]; rfl) rfl k) ?_
      show G T213 (mkF m 189 ls215 [(.ref b13)])
      refine step (fun t k => XS.aload X213.here hx rfl (hb hby at_189) (by rw [hls215]; rfl) rfl k) ?_
      show G T213 (mkF m 191 ls215 [(.ref b11), (.ref b13)])
      refine step (fun t k => XS.lload X213.here hx rfl (hb hby at_191) (by rw [hls215]; rfl) k) ?_
      show G T213 (mkF m 193 ls215 [(.long nw), (.ref b11), (.ref b13)])
      have f217 := (Exa.keep (Exa.keep f192 K191q) K213q)
      have f218 := (Fld.keep (Fld.keep f193 K191q (ninS (Nat.ne_of_lt lt_b11_b13) nin0)) K213q (ninS (Nat.ne_of_lt lt_b11_b13) (ninS (Nat.ne_of_lt lt_b11_b14) nin0)))
      have f219 := (Fld.keep (Fld.keep f194 K191q (ninS (Nat.ne_of_lt lt_b11_b13) nin0)) K213q (ninS (Nat.ne_of_lt lt_b11_b13) (ninS (Nat.ne_of_lt lt_b11_b14) nin0)))
      have hK216 := (backOf (R := room_1) (p := p) (e := e) (below := below) (args := #[(.long q0), (.int p1), (.int p2), (.int p3), (.int p4)]) (len := 3) (W := 0) (rm_cnt0_4 l Z a0 hw [] w_0 w_1 w_2 b13 b11 nw b14 kb_14 B4 B1 B2 B3 (2 : Int32) (3 : Int32) (1 : Int64) T213.heap n0 (own_old_le O213) ST O213 Y213_0 ge_b13 Y213_1 ge_b14 Y213_2 Y213_3 Y213_4 ((by decide) : (0 : Int32) < (3 : Int32)) (by decide) f217 f218 f219 (show (nw - (1 : Int64)) < B2 from (own_ltB tnw1 tB2 hsp1.1 (by decide)))) hZ (ww74 hw) (ww51 hw) (by decide) (by decide))
      obtain ⟨cq216, kq216, q216a, q216b, q216c⟩ := isOf hZ rfl Y213_0
      obtain ⟨_, _, ⟨T216, L216, k216, n216⟩, -, X216, ⟨Lc216, hQ216, l216, y216, z216⟩, st216⟩ := X213.virtualBack hx (y := y_13) (z := y_13) hown (mvT hZ (ww70 hw)) (mvT hZ (ww71 hw)) (notFace_of_selects (args := #[]) (mvT hZ (ww73 hw))) (mvT hZ (ww73 hw)) (mvT hZ (ww72 hw)) (by decide) hK216 q216a q216c (g := (mkF m 193 ls215 [(.long nw), (.ref b11), (.ref b13)])) rfl (by rw [hml, hls215]; rfl) (Steps.refl _) (argsL := [(.ref b11), (.long nw)]) (rest := []) (lenOf pd_9 rfl) rfl (by show 2 * 0 + _ ≤ _; exact Nat.le_of_eq rfl) (hb hby at_193) (fun _ _ => ⟨rfl, rfl, (by decide : 5 + 0 ≤ _), (by decide : 30 + 0 ≤ _)⟩)
      dsimp only [Pt.U, Pt.locs, Pt.cells, Pt.slots] at X216 l216 y216 z216 st216 hQ216
      subst l216 y216 z216
      obtain ⟨rfl, N216q, K216q, Y216_0, Y216_1, Y216_2, Y216_3⟩ := hQ216
      have N216 := Fr.app N213 N216q
      obtain ⟨lc216, X216, N216⟩ := own_gen X216 N216
      have O216 := O213.keep K216q (allS ge_b13 all0)
      have hk216 : _ ≤ T216.heap.size := Nat.le_trans hk213 K216q.1
      refine step (fun t k => st216.trans k) ?_
      show G T216 (mkF m 196 ls215 [(.int 3)])
      obtain ⟨ls220, hls220⟩  := own_sl #[.val (.long q0), .second, .val (.int p1), .val (.int p2), .val (.int p3), .val (.int p4), .val (.long bb), .second, .val (.long sp), .second, .val (.int 2), .val (.int 1), .val (.ref b11), .val (.ref b13), .val (.long nw), .second, .val (.int 2), .val (.int 3), .val (.int 3), .unset, .unset, .unset]
      refine step (fun t k => XS.istore X216.here hx rfl (hb hby at_196) rfl (l' := ls220) (by rw [hls215, hls220]; rfl) k) ?_
      show G T216 (mkF m 198 ls220 [])
      refine step (fun t k => XS.iload X216.here hx rfl (hb hby at_198) (by rw [hls220]; rfl) k) ?_
      show G T216 (mkF m 200 ls220 [(.int p4)])
      have q221 := X216.ldcInt hx hown (mvT hZ (ww101 hw)) (g := (mkF m 200 ls220 [(.int p4)])) rfl (hb hby at_200)
      refine step q221 ?_
      show G T216 (mkF m 202 ls220 [(.int 2147483647), (.int p4)])
      refine step (fun t k => XS.iand X216.here hx rfl (hb hby at_202) rfl k) ?_
      show G T216 (mkF m 203 ls220 [(.int (p4 &&& (2147483647 : Int32)))])
      refine step (fun t k => XS.iload X216.here hx rfl (hb hby at_203) (by rw [hls220]; rfl) k) ?_
      show G T216 (mkF m 205 ls220 [(.int 3), (.int (p4 &&& (2147483647 : Int32)))])
      refine step (fun t k => iremM X216 hx rfl (hb hby at_205) rfl (by decide) k) ?_
      show G T216 (mkF m 206 ls220 [(.int ((p4 &&& (2147483647 : Int32)) % (3 : Int32)))])
      obtain ⟨ls222, hls222⟩  := own_sl #[.val (.long q0), .second, .val (.int p1), .val (.int p2), .val (.int p3), .val (.int p4), .val (.long bb), .second, .val (.long sp), .second, .val (.int 2), .val (.int 1), .val (.ref b11), .val (.ref b13), .val (.long nw), .second, .val (.int 2), .val (.int 3), .val (.int 3), .val (.int ((p4 &&& (2147483647 : Int32)) % (3 : Int32))), .unset, .unset]
      refine step (fun t k => XS.istore X216.here hx rfl (hb hby at_206) rfl (l' := ls222) (by rw [hls220, hls222]; rfl) k) ?_
      show G T216 (mkF m 208 ls222 [])
      obtain ⟨jj, hjj⟩ : ∃ z : Int32, z = ((p4 &&& (2147483647 : Int32)) % (3 : Int32)) := ⟨_, rfl⟩
      obtain ⟨ls223, hls223⟩  := own_sl #[.val (.long q0), .second, .val (.int p1), .val (.int p2), .val (.int p3), .val (.int p4), .val (.long bb), .second, .val (.long sp), .second, .val (.int 2), .val (.int 1), .val (.ref b11), .val (.ref b13), .val (.long nw), .second, .val (.int 2), .val (.int 3), .val (.int 3), .val (.int jj), .unset, .unset]
      rw [show ls222 = ls223 from by rw [hls222, hls223, hjj]]
      show G T216 (mkF m 208 ls223 [])
      have hj := own_j3 p4
      rw [← hjj] at hj
      refine step (fun t k => XS.aload X216.here hx rfl (hb hby at_208) (by rw [hls223]; rfl) rfl k) ?_
      show G T216 (mkF m 210 ls223 [(.ref b13)])
      refine step (fun t k => XS.iload X216.here hx rfl (hb hby at_210) (by rw [hls223]; rfl) k) ?_
      show G T216 (mkF m 212 ls223 [(.int jj), (.ref b13)])
      have f225 := (Arv.keep Y213_4 K216q (ninS (Nat.ne_of_gt lt_b13_b14) nin0))
      have hK224 := (backOf (R := room_1) (p := p) (e := e) (below := below) (args := #[(.long q0), (.int p1), (.int p2), (.int p3), (.int p4)]) (len := 3) (W := 0) (rm_get4 l Z a0 hw [] w_0 w_1 w_2 b13 jj b14 kb_14 B4 B1 B2 B3 (2 : Int32) T216.heap n0 (own_old_le O216) ST O216 Y216_1 Y216_2 f225 (by rcases hj with h | h | h <;> (rw [h]; decide))) hZ (ww106 hw) (ww51 hw) (by decide) (by decide))
      obtain ⟨cq224, kq224, q224a, q224b, q224c⟩ := isOf hZ rfl Y216_0
      obtain ⟨_, _, ⟨T224, L224, k224, n224⟩, -, X224, ⟨Lc224, hQ224, l224, y224, z224⟩, st224⟩ := X216.virtualBack hx (y := y_14) (z := y_14) hown (mvT hZ (ww102 hw)) (mvT hZ (ww103 hw)) (notFace_of_selects (args := #[]) (mvT hZ (ww105 hw))) (mvT hZ (ww105 hw)) (mvT hZ (ww104 hw)) (by decide) hK224 q224a q224c (g := (mkF m 212 ls223 [(.int jj), (.ref b13)])) rfl (by rw [hml, hls223]; rfl) (Steps.refl _) (argsL := [(.int jj)]) (rest := []) (lenOf pd_10 rfl) rfl (by show 2 * 0 + _ ≤ _; exact Nat.le_of_eq rfl) (hb hby at_212) (fun _ _ => ⟨rfl, rfl, (by decide : 5 + 0 ≤ _), (by decide : 30 + 0 ≤ _)⟩)
      dsimp only [Pt.U, Pt.locs, Pt.cells, Pt.slots] at X224 l224 y224 z224 st224 hQ224
      subst l224 y224 z224
      obtain ⟨rfl, N224q, e224⟩ := hQ224
      have N224 := Fr.app N216 N224q
      obtain ⟨lc224, X224, N224⟩ := own_gen X224 N224
      refine step (fun t k => st224.trans k) ?_
      show G T224 (mkF m 215 ls223 [(.long (f_get4 w_0 w_1 w_2 b13 jj b14 kb_14 B4 B1 B2 B3 (2 : Int32)))])
      have r226 : (f_get4 w_0 w_1 w_2 b13 jj b14 kb_14 B4 B1 B2 B3 (2 : Int32)) = (own_at4 B4 B1 B2 B3 (((2 : Int32) + jj) % (4 : Int32))) := rfl
      rw [r226]
      show G T224 (mkF m 215 ls223 [(.long (own_at4 B4 B1 B2 B3 (((2 : Int32) + jj) % (4 : Int32))))])
      obtain ⟨ls227, hls227⟩  := own_sl #[.val (.long q0), .second, .val (.int p1), .val (.int p2), .val (.int p3), .val (.int p4), .val (.long bb), .second, .val (.long sp), .second, .val (.int 2), .val (.int 1), .val (.ref b11), .val (.ref b13), .val (.long nw), .second, .val (.int 2), .val (.int 3), .val (.int 3), .val (.int jj), .val (.long (own_at4 B4 B1 B2 B3 (((2 : Int32) + jj) % (4 : Int32)))), .second]
      refine step (fun t k => XS.lstore X224.here hx rfl (hb hby at_215) rfl (l' := ls227) (by rw [hls223, hls227]; rfl) k) ?_
      show G T224 (mkF m 217 ls227 [])
      refine step (fun t k => XS.iload X224.here hx rfl (hb hby at_217) (by rw [hls227]; rfl) k) ?_
      show G T224 (mkF m 219 ls227 [(.int 2)])
      refine step (fun t k => XS.iconst X224.here hx rfl (hb hby at_219) k) ?_
      show G T224 (mkF m 220 ls227 [(.int 4), (.int 2)])
      refine step (fun t k => XS.iload X224.here hx rfl (hb hby at_220) (by rw [hls227]; rfl) k) ?_
      show G T224 (mkF m 222 ls227 [(.int 2), (.int 4), (.int 2)])
      refine step (fun t k => XS.isub X224.here hx rfl (hb hby at_222) rfl k) ?_
      show G T224 (mkF m 223 ls227 [(.int ((4 : Int32) - (2 : Int32))), (.int 2)])
      rw [(by decide : ((4 : Int32) - (2 : Int32)) = (2 : Int32))]
      show G T224 (mkF m 223 ls227 [(.int 2), (.int 2)])
      refine step (fun t k => XS.icmpNo X224.here hx rfl (hb hby at_223) rfl (teq (by decide : (2 : Int32) = (2 : Int32))).2 k) ?_
      show G T224 (mkF m 226 ls227 [])
      refine step (fun t k => XS.iload X224.here hx rfl (hb hby at_226) (by rw [hls227]; rfl) k) ?_
      show G T224 (mkF m 228 ls227 [(.int 3)])
      refine step (fun t k => XS.iload X224.here hx rfl (hb hby at_228) (by rw [hls227]; rfl) k) ?_
      show G T224 (mkF m 230 ls227 [(.int 3), (.int 3)])
      refine step (fun t k => XS.icmpNo X224.here hx rfl (hb hby at_230) rfl (teq (by decide : (3 : Int32) = (3 : Int32))).2 k) ?_
      show G T224 (mkF m 233 ls227 [])
      refine step (fun t k => XS.lload X224.here hx rfl (hb hby at_233) (by rw [hls227]; rfl) k) ?_
      show G T224 (mkF m 235 ls227 [(.long (own_at4 B4 B1 B2 B3 (((2 : Int32) + jj) % (4 : Int32))))])
      refine step (fun t k => XS.lload X224.here hx rfl (hb hby at_235) (by rw [hls227]; rfl) k) ?_
      show G T224 (mkF m 237 ls227 [(.long bb), (.long (own_at4 B4 B1 B2 B3 (((2 : Int32) + jj) % (4 : Int32))))])
      refine step (fun t k => XS.iload X224.here hx rfl (hb hby at_237) (by rw [hls227]; rfl) k) ?_
      show G T224 (mkF m 239 ls227 [(.int 2), (.long bb), (.long (own_at4 B4 B1 B2 B3 (((2 : Int32) + jj) % (4 : Int32))))])
      refine step (fun t k => XS.iload X224.here hx rfl (hb hby at_239) (by rw [hls227]; rfl) k) ?_
      show G T224 (mkF m 241 ls227 [(.int jj), (.int 2), (.long bb), (.long (own_at4 B4 B1 B2 B3 (((2 : Int32) + jj) % (4 : Int32))))])
      refine step (fun t k => XS.iadd X224.here hx rfl (hb hby at_241) rfl k) ?_
      show G T224 (mkF m 242 ls227 [(.int ((2 : Int32) + jj)), (.long bb), (.long (own_at4 B4 B1 B2 B3 (((2 : Int32) + jj) % (4 : Int32))))])
      refine step (fun t k => XS.i2l X224.here hx rfl (hb hby at_242) rfl k) ?_
      show G T224 (mkF m 243 ls227 [(.long (((2 : Int32) + jj).toInt64)), (.long bb), (.long (own_at4 B4 B1 B2 B3 (((2 : Int32) + jj) % (4 : Int32))))])
      refine step (fun t k => XS.lload X224.here hx rfl (hb hby at_243) (by rw [hls227]; rfl) k) ?_
      show G T224 (mkF m 245 ls227 [(.long sp), (.long (((2 : Int32) + jj).toInt64)), (.long bb), (.long (own_at4 B4 B1 B2 B3 (((2 : Int32) + jj) % (4 : Int32))))])
      refine step (fun t k => XS.lmul X224.here hx rfl (hb hby at_245) rfl k) ?_
      show G T224 (mkF m 246 ls227 [(.long ((((2 : Int32) + jj).toInt64) * sp)), (.long bb), (.long (own_at4 B4 B1 B2 B3 (((2 : Int32) + jj) % (4 : Int32))))])
      refine step (fun t k => XS.ladd X224.here hx rfl (hb hby at_246) rfl k) ?_
      show G T224 (mkF m 247 ls227 [(.long (bb + ((((2 : Int32) + jj).toInt64) * sp))), (.long (own_at4 B4 B1 B2 B3 (((2 : Int32) + jj) % (4 : Int32))))])
      refine step (fun t k => XS.lcmp X224.here hx rfl (hb hby at_247) rfl k) ?_
      show G T224 (mkF m 248 ls227 [(.int (lcmpW (own_at4 B4 B1 B2 B3 (((2 : Int32) + jj) % (4 : Int32))) (bb + ((((2 : Int32) + jj).toInt64) * sp))))])
      refine step (fun t k => XS.ifNo X224.here hx rfl (hb hby at_248) rfl ((if0 _ _).trans (teq ((lw_eq _ _).mpr (by rcases hj with h | h | h <;> rw [h] <;> first | exact hq2 | exact hq3 | exact hq4))).2) k) ?_
      show G T224 (mkF m 251 ls227 [])
      refine step (fun t k => XS.iconst X224.here hx rfl (hb hby at_251) k) ?_
      show G T224 (mkF m 252 ls227 [(.int 1)])
      refine step (fun t k => XS.goto X224.here hx rfl (pc0 := 252) (pc' := 256) rfl (hb hby at_252) (by decide) (by decide) k) ?_
      show G T224 (mkF m 256 ls227 [(.int 1)])
      exact ret (v := some (.int 1)) X224 hS hk216 (fun h => by rw [Bd.returns] at h; cases h) (fun fs hr => retN X224 hx (t := .boolean) Bd.returns (by simp) (hb hby at_256) hr) e224 ⟨rfl, N224⟩ (by decide) (by decide)
    · skip
      obtain ⟨ls228, hls228⟩  := own_sl #[.val (.long q0), .second, .val (.int p1), .val (.int p2), .val (.int p3), .val (.int p4), .val (.long bb), .second, .val (.long sp), .second, .val (.int 2), .val (.int 2), .val (.ref b11), .val (.ref b13), .val (.long nw), .second, .val (.int 2), .unset, .unset, .unset, .unset, .unset]
      rw [show ls195 = ls228 from by rw [hls195, hls228, hee]]
      show G T191 (mkF m 118 ls228 [])
      refine step (fun t k => XS.iload X191.here hx rfl (hb hby at_118) (by rw [hls228]; rfl) k) ?_
      show G T191 (mkF m 120 ls228 [(.int 2)])
      refine step (fun t k => XS.iconst X191.here hx rfl (hb hby at_120) k) ?_
      show G T191 (mkF m 121 ls228 [(.int 1), (.int 2)])
      refine step (fun t k => XS.icmpNo X191.here hx rfl (hb hby at_121) rfl (flt (by decide : ¬ ((2 : Int32) < (1 : Int32)))).1 k) ?_
      show G T191 (mkF m 124 ls228 [])
      refine step (fun t k => XS.aload X191.here hx rfl (hb hby at_124) (by rw [hls228]; rfl) rfl k) ?_
      show G T191 (mkF m 126 ls228 [(.ref b13)])
      refine step (fun t k => XS.lload X191.here hx rfl (hb hby at_126) (by rw [hls228]; rfl) k) ?_
      show G T191 (mkF m 128 ls228 [(.long bb), (.ref b13)])
      have q229 := X191.ldc2Long hx hown (mvT hZ (ww107 hw)) (g := (mkF m 128 ls228 [(.long bb), (.ref b13)])) rfl (hb hby at_128)
      refine step q229 ?_
      show G T191 (mkF m 131 ls228 [(.long 4), (.long bb), (.ref b13)])
      refine step (fun t k => XS.lload X191.here hx rfl (hb hby at_131) (by rw [hls228]; rfl) k) ?_
      show G T191 (mkF m 133 ls228 [(.long sp), (.long 4), (.long bb), (.ref b13)])
      refine step (fun t k => XS.lmul X191.here hx rfl (hb hby at_133) rfl k) ?_
      show G T191 (mkF m 134 ls228 [(.long ((4 : Int64) * sp)), (.long bb), (.ref b13)])
      refine step (fun t k => XS.ladd X191.here hx rfl (hb hby at_134) rfl k) ?_
      show G T191 (mkF m 135 ls228 [(.long (bb + ((4 : Int64) * sp))), (.ref b13)])
      obtain ⟨B4, hB4⟩ : ∃ z : Int64, z = (bb + ((4 : Int64) * sp)) := ⟨_, rfl⟩
      rw [← hB4]
      show G T191 (mkF m 135 ls228 [(.long B4), (.ref b13)])
      have tB4 := own_B (4 : Int64) 4 (by decide) (by decide) (by decide) hbb1 hsp1 hB4
      have hq4 := hB4
      have f231 := (Arv.keep Y22_4 K191q (ninS (Nat.ne_of_gt lt_b13_b14) nin0))
      have hK230 := (backOf (R := room_1) (p := p) (e := e) (below := below) (args := #[(.long q0), (.int p1), (.int p2), (.int p3), (.int p4)]) (len := 3) (W := 0) (rm_add_4_0 l Z a0 hw [] w_0 w_1 w_2 b13 B4 b14 kb_14 bb B1 B2 B3 (2 : Int32) (2 : Int32) (3 : Int32) T191.heap n0 (own_old_le O191) ST O191 Y191_0 ge_b13 Y191_1 ge_b14 Y191_2 Y191_3 f231 (by decide : ¬ ((2 : Int32) = (4 : Int32))) (by decide : ((2 : Int32) + (1 : Int32)) = (3 : Int32)) (by decide : (((2 : Int32) + (2 : Int32)) % (4 : Int32)) = (0 : Int32))) hZ (ww63 hw) (ww51 hw) (by decide) (by decide))
      obtain ⟨cq230, kq230, q230a, q230b, q230c⟩ := isOf hZ rfl Y191_0
      obtain ⟨_, _, ⟨T230, L230, k230, n230⟩, -, X230, ⟨Lc230, hQ230, l230, y230, z230⟩, st230⟩ := X191.virtualBack hx (y := y_10) (z := y_10) hown (mvT hZ (ww59 hw)) (mvT hZ (ww60 hw)) (notFace_of_selects (args := #[]) (mvT hZ (ww62 hw))) (mvT hZ (ww62 hw)) (mvT hZ (ww61 hw)) (by decide) hK230 q230a q230c (g := (mkF m 135 ls228 [(.long B4), (.ref b13)])) rfl (by rw [hml, hls228]; rfl) (Steps.refl _) (argsL := [(.long B4)]) (rest := []) (lenOf pd_5 rfl) rfl (by show 2 * 0 + _ ≤ _; exact Nat.le_of_eq rfl) (hb hby at_135) (fun _ _ => ⟨rfl, rfl, (by decide : 5 + 0 ≤ _), (by decide : 30 + 0 ≤ _)⟩)
      dsimp only [Pt.U, Pt.locs, Pt.cells, Pt.slots] at X230 l230 y230 z230 st230 hQ230
      subst l230 y230 z230
      obtain ⟨rfl, N230q, K230q, Y230_0, Y230_1, Y230_2, Y230_3, Y230_4⟩ := hQ230
      have N230 := Fr.app N191 N230q
      obtain ⟨lc230, X230, N230⟩ := own_gen X230 N230
      have O230 := O191.keep K230q (allS ge_b13 (allS ge_b14 all0))
      have hk230 : _ ≤ T230.heap.size := Nat.le_trans hk191 K230q.1
      refine step (fun t k => st230.trans k) ?_
      show G T230 (mkF m 138 ls228 [])
      refine step (fun t k => XS.iload X230.here hx rfl (hb hby at_138) (by rw [hls228]; rfl) k) ?_
      show G T230 (mkF m 140 ls228 [(.int 2)])
      refine step (fun t k => XS.iconst X230.here hx rfl (hb hby at_140) k) ?_
      show G T230 (mkF m 141 ls228 [(.int 2), (.int 2)])
      refine step (fun t k => XS.icmpNo X230.here hx rfl (hb hby at_141) rfl (flt (by decide : ¬ ((2 : Int32) < (2 : Int32)))).1 k) ?_
      show G T230 (mkF m 144 ls228 [])
      refine step (fun t k => XS.aload X230.here hx rfl (hb hby at_144) (by rw [hls228]; rfl) rfl k) ?_
      show G T230 (mkF m 146 ls228 [(.ref b13)])
      refine step (fun t k => XS.lload X230.here hx rfl (hb hby at_146) (by rw [hls228]; rfl) k) ?_
      show G T230 (mkF m 148 ls228 [(.long bb), (.ref b13)])
      have q232 := X230.ldc2Long hx hown (mvT hZ (ww108 hw)) (g := (mkF m 148 ls228 [(.long bb), (.ref b13)])) rfl (hb hby at_148)
      refine step q232 ?_
      show G T230 (mkF m 151 ls228 [(.long 5), (.long bb), (.ref b13)])
      refine step (fun t k => XS.lload X230.here hx rfl (hb hby at_151) (by rw [hls228]; rfl) k) ?_
      show G T230 (mkF m 153 ls228 [(.long sp), (.long 5), (.long bb), (.ref b13)])
      refine step (fun t k => XS.lmul X230.here hx rfl (hb hby at_153) rfl k) ?_
      show G T230 (mkF m 154 ls228 [(.long ((5 : Int64) * sp)), (.long bb), (.ref b13)])
      refine step (fun t k => XS.ladd X230.here hx rfl (hb hby at_154) rfl k) ?_
      show G T230 (mkF m 155 ls228 [(.long (bb + ((5 : Int64) * sp))), (.ref b13)])
      obtain ⟨B5, hB5⟩ : ∃ z : Int64, z = (bb + ((5 : Int64) * sp)) := ⟨_, rfl⟩
      rw [← hB5]
      show G T230 (mkF m 155 ls228 [(.long B5), (.ref b13)])
      have tB5 := own_B (5 : Int64) 5 (by decide) (by decide) (by decide) hbb1 hsp1 hB5
      have hq5 := hB5
      have hK233 := (backOf (R := room_1) (p := p) (e := e) (below := below) (args := #[(.long q0), (.int p1), (.int p2), (.int p3), (.int p4)]) (len := 3) (W := 0) (rm_add_4_1 l Z a0 hw [] w_0 w_1 w_2 b13 B5 b14 kb_14 B4 B1 B2 B3 (2 : Int32) (3 : Int32) (4 : Int32) T230.heap n0 (own_old_le O230) ST O230 Y230_0 ge_b13 Y230_1 ge_b14 Y230_2 Y230_3 Y230_4 (by decide : ¬ ((3 : Int32) = (4 : Int32))) (by decide : ((3 : Int32) + (1 : Int32)) = (4 : Int32)) (by decide : (((2 : Int32) + (3 : Int32)) % (4 : Int32)) = (1 : Int32))) hZ (ww63 hw) (ww51 hw) (by decide) (by decide))
      obtain ⟨cq233, kq233, q233a, q233b, q233c⟩ := isOf hZ rfl Y230_0
      obtain ⟨_, _, ⟨T233, L233, k233, n233⟩, -, X233, ⟨Lc233, hQ233, l233, y233, z233⟩, st233⟩ := X230.virtualBack hx (y := y_10) (z := y_10) hown (mvT hZ (ww59 hw)) (mvT hZ (ww60 hw)) (notFace_of_selects (args := #[]) (mvT hZ (ww62 hw))) (mvT hZ (ww62 hw)) (mvT hZ (ww61 hw)) (by decide) hK233 q233a q233c (g := (mkF m 155 ls228 [(.long B5), (.ref b13)])) rfl (by rw [hml, hls228]; rfl) (Steps.refl _) (argsL := [(.long B5)]) (rest := []) (lenOf pd_5 rfl) rfl (by show 2 * 0 + _ ≤ _; exact Nat.le_of_eq rfl) (hb hby at_155) (fun _ _ => ⟨rfl, rfl, (by decide : 5 + 0 ≤ _), (by decide : 30 + 0 ≤ _)⟩)
      dsimp only [Pt.U, Pt.locs, Pt.cells, Pt.slots] at X233 l233 y233 z233 st233 hQ233
      subst l233 y233 z233
      obtain ⟨rfl, N233q, K233q, Y233_0, Y233_1, Y233_2, Y233_3, Y233_4⟩ := hQ233
      have N233 := Fr.app N230 N233q
      obtain ⟨lc233, X233, N233⟩ := own_gen X233 N233
      have O233 := O230.keep K233q (allS ge_b13 (allS ge_b14 all0))
      have hk233 : _ ≤ T233.heap.size := Nat.le_trans hk230 K233q.1
      refine step (fun t k => st233.trans k) ?_
      show G T233 (mkF m 158 ls228 [])
      refine step (fun t k => XS.iload X233.here hx rfl (hb hby at_158) (by rw [hls228]; rfl) k) ?_
      show G T233 (mkF m 160 ls228 [(.int 2)])
      refine step (fun t k => XS.iconst X233.here hx rfl (hb hby at_160) k) ?_
      show G T233 (mkF m 161 ls228 [(.int 3), (.int 2)])
      refine step (fun t k => XS.icmpYes X233.here hx rfl (pc0 := 161) (pc' := 178) rfl (hb hby at_161) rfl (tlt (by decide : (2 : Int32) < (3 : Int32))).1 (by decide) (by decide) k) ?_
      show G T233 (mkF m 178 ls228 [])
      refine step (fun t k => XS.iconst X233.here hx rfl (hb hby at_178) k) ?_
      show G T233 (mkF m 179 ls228 [(.int 4)])
      refine step (fun t k => XS.iload X233.here hx rfl (hb hby at_179) (by rw [hls228]; rfl) k) ?_
      show G T233 (mkF m 181 ls228 [(.int 2), (.int 4)])
      refine step (fun t k => XS.isub X233.here hx rfl (hb hby at_181) rfl k) ?_
      show G T233 (mkF m 182 ls228 [(.int ((4 : Int32) - (2 : Int32)))])
      rw [(by decide : ((4 : Int32) - (2 : Int32)) = (2 : Int32))]
      show G T233 (mkF m 182 ls228 [(.int 2)])
      refine step (fun t k => XS.iload X233.here hx rfl (hb hby at_182) (by rw [hls228]; rfl) k) ?_
      show G T233 (mkF m 184 ls228 [(.int 2), (.int 2)])
      refine step (fun t k => XS.iadd X233.here hx rfl (hb hby at_184) rfl k) ?_
      show G T233 (mkF m 185 ls228 [(.int ((2 : Int32) + (2 : Int32)))])
      rw [(by decide : ((2 : Int32) + (2 : Int32)) = (4 : Int32))]
      show G T233 (mkF m 185 ls228 [(.int 4)])
      obtain ⟨ls234, hls234⟩  := own_sl #[.val (.long q0), .second, .val (.int p1), .val (.int p2), .val (.int p3), .val (.int p4), .val (.long bb), .second, .val (.long sp), .second, .val (.int 2), .val (.int 2), .val (.ref b11), .val (.ref b13), .val (.long nw), .second, .val (.int 2), .val (.int 4), .unset, .unset, .unset, .unset]
      refine step (fun t k => XS.istore X233.here hx rfl (hb hby at_185) rfl (l' := ls234) (by rw [hls228, hls234]; rfl) k) ?_
      show G T233 (mkF m 187 ls234 [])
      refine step (fun t k => XS.aload X233.here hx rfl (hb hby at_187) (by rw [hls234]; rfl) rfl k) ?_
      show G T233 (mkF m 189 ls234 [(.ref b13)])
      refine step (fun t k => XS.aload X233.here hx rfl (hb hby at_189) (by rw [hls234]; rfl) rfl k) ?_
      show G T233 (mkF m 191 ls234 [(.ref b11), (.ref b13)])
      refine step (fun t k => XS.lload X233.here hx rfl (hb hby at_191) (by rw [hls234]; rfl) k) ?_
      show G T233 (mkF m 193 ls234 [(.long nw), (.ref b11), (.ref b13)])
      have f236 := (Exa.keep (Exa.keep (Exa.keep f192 K191q) K230q) K233q)
      have f237 := (Fld.keep (Fld.keep (Fld.keep f193 K191q (ninS (Nat.ne_of_lt lt_b11_b13) nin0)) K230q (ninS (Nat.ne_of_lt lt_b11_b13) (ninS (Nat.ne_of_lt lt_b11_b14) nin0))) K233q (ninS (Nat.ne_of_lt lt_b11_b13) (ninS (Nat.ne_of_lt lt_b11_b14) nin0)))
      have f238 := (Fld.keep (Fld.keep (Fld.keep f194 K191q (ninS (Nat.ne_of_lt lt_b11_b13) nin0)) K230q (ninS (Nat.ne_of_lt lt_b11_b13) (ninS (Nat.ne_of_lt lt_b11_b14) nin0))) K233q (ninS (Nat.ne_of_lt lt_b11_b13) (ninS (Nat.ne_of_lt lt_b11_b14) nin0)))
      have hK235 := (backOf (R := room_1) (p := p) (e := e) (below := below) (args := #[(.long q0), (.int p1), (.int p2), (.int p3), (.int p4)]) (len := 3) (W := 0) (rm_cnt0_4 l Z a0 hw [] w_0 w_1 w_2 b13 b11 nw b14 kb_14 B4 B5 B2 B3 (2 : Int32) (4 : Int32) (1 : Int64) T233.heap n0 (own_old_le O233) ST O233 Y233_0 ge_b13 Y233_1 ge_b14 Y233_2 Y233_3 Y233_4 ((by decide) : (0 : Int32) < (4 : Int32)) (by decide) f236 f237 f238 (show (nw - (1 : Int64)) < B2 from (own_ltB tnw1 tB2 hsp1.1 (by decide)))) hZ (ww74 hw) (ww51 hw) (by decide) (by decide))
      obtain ⟨cq235, kq235, q235a, q235b, q235c⟩ := isOf hZ rfl Y233_0
      obtain ⟨_, _, ⟨T235, L235, k235, n235⟩, -, X235, ⟨Lc235, hQ235, l235, y235, z235⟩, st235⟩ := X233.virtualBack hx (y := y_13) (z := y_13) hown (mvT hZ (ww70 hw)) (mvT hZ (ww71 hw)) (notFace_of_selects (args := #[]) (mvT hZ (ww73 hw))) (mvT hZ (ww73 hw)) (mvT hZ (ww72 hw)) (by decide) hK235 q235a q235c (g := (mkF m 193 ls234 [(.long nw), (.ref b11), (.ref b13)])) rfl (by rw [hml, hls234]; rfl) (Steps.refl _) (argsL := [(.ref b11), (.long nw)]) (rest := []) (lenOf pd_9 rfl) rfl (by show 2 * 0 + _ ≤ _; exact Nat.le_of_eq rfl) (hb hby at_193) (fun _ _ => ⟨rfl, rfl, (by decide : 5 + 0 ≤ _), (by decide : 30 + 0 ≤ _)⟩)
      dsimp only [Pt.U, Pt.locs, Pt.cells, Pt.slots] at X235 l235 y235 z235 st235 hQ235
      subst l235 y235 z235
      obtain ⟨rfl, N235q, K235q, Y235_0, Y235_1, Y235_2, Y235_3⟩ := hQ235
      have N235 := Fr.app N233 N235q
      obtain ⟨lc235, X235, N235⟩ := own_gen X235 N235
      have O235 := O233.keep K235q (allS ge_b13 all0)
      have hk235 : _ ≤ T235.heap.size := Nat.le_trans hk233 K235q.1
      refine step (fun t k => st235.trans k) ?_
      show G T235 (mkF m 196 ls234 [(.int 4)])
      obtain ⟨ls239, hls239⟩  := own_sl #[.val (.long q0), .second, .val (.int p1), .val (.int p2), .val (.int p3), .val (.int p4), .val (.long bb), .second, .val (.long sp), .second, .val (.int 2), .val (.int 2), .val (.ref b11), .val (.ref b13), .val (.long nw), .second, .val (.int 2), .val (.int 4), .val (.int 4), .unset, .unset, .unset]
      refine step (fun t k => XS.istore X235.here hx rfl (hb hby at_196) rfl (l' := ls239) (by rw [hls234, hls239]; rfl) k) ?_
      show G T235 (mkF m 198 ls239 [])
      refine step (fun t k => XS.iload X235.here hx rfl (hb hby at_198) (by rw [hls239]; rfl) k) ?_
      show G T235 (mkF m 200 ls239 [(.int p4)])
      have q240 := X235.ldcInt hx hown (mvT hZ (ww101 hw)) (g := (mkF m 200 ls239 [(.int p4)])) rfl (hb hby at_200)
      refine step q240 ?_
      show G T235 (mkF m 202 ls239 [(.int 2147483647), (.int p4)])
      refine step (fun t k => XS.iand X235.here hx rfl (hb hby at_202) rfl k) ?_
      show G T235 (mkF m 203 ls239 [(.int (p4 &&& (2147483647 : Int32)))])
      refine step (fun t k => XS.iload X235.here hx rfl (hb hby at_203) (by rw [hls239]; rfl) k) ?_
      show G T235 (mkF m 205 ls239 [(.int 4), (.int (p4 &&& (2147483647 : Int32)))])
      refine step (fun t k => iremM X235 hx rfl (hb hby at_205) rfl (by decide) k) ?_
      show G T235 (mkF m 206 ls239 [(.int ((p4 &&& (2147483647 : Int32)) % (4 : Int32)))])
      obtain ⟨ls241, hls241⟩  := own_sl #[.val (.long q0), .second, .val (.int p1), .val (.int p2), .val (.int p3), .val (.int p4), .val (.long bb), .second, .val (.long sp), .second, .val (.int 2), .val (.int 2), .val (.ref b11), .val (.ref b13), .val (.long nw), .second, .val (.int 2), .val (.int 4), .val (.int 4), .val (.int ((p4 &&& (2147483647 : Int32)) % (4 : Int32))), .unset, .unset]
      refine step (fun t k => XS.istore X235.here hx rfl (hb hby at_206) rfl (l' := ls241) (by rw [hls239, hls241]; rfl) k) ?_
      show G T235 (mkF m 208 ls241 [])
      obtain ⟨jj, hjj⟩ : ∃ z : Int32, z = ((p4 &&& (2147483647 : Int32)) % (4 : Int32)) := ⟨_, rfl⟩
      obtain ⟨ls242, hls242⟩  := own_sl #[.val (.long q0), .second, .val (.int p1), .val (.int p2), .val (.int p3), .val (.int p4), .val (.long bb), .second, .val (.long sp), .second, .val (.int 2), .val (.int 2), .val (.ref b11), .val (.ref b13), .val (.long nw), .second, .val (.int 2), .val (.int 4), .val (.int 4), .val (.int jj), .unset, .unset]
      rw [show ls241 = ls242 from by rw [hls241, hls242, hjj]]
      show G T235 (mkF m 208 ls242 [])
      have hj := own_j4 p4
      rw [← hjj] at hj
      refine step (fun t k => XS.aload X235.here hx rfl (hb hby at_208) (by rw [hls242]; rfl) rfl k) ?_
      show G T235 (mkF m 210 ls242 [(.ref b13)])
      refine step (fun t k => XS.iload X235.here hx rfl (hb hby at_210) (by rw [hls242]; rfl) k) ?_
      show G T235 (mkF m 212 ls242 [(.int jj), (.ref b13)])
      have f244 := (Arv.keep Y233_4 K235q (ninS (Nat.ne_of_gt lt_b13_b14) nin0))
      have hK243 := (backOf (R := room_1) (p := p) (e := e) (below := below) (args := #[(.long q0), (.int p1), (.int p2), (.int p3), (.int p4)]) (len := 3) (W := 0) (rm_get4 l Z a0 hw [] w_0 w_1 w_2 b13 jj b14 kb_14 B4 B5 B2 B3 (2 : Int32) T235.heap n0 (own_old_le O235) ST O235 Y235_1 Y235_2 f244 (by rcases hj with h | h | h | h <;> (rw [h]; decide))) hZ (ww106 hw) (ww51 hw) (by decide) (by decide))
      obtain ⟨cq243, kq243, q243a, q243b, q243c⟩ := isOf hZ rfl Y235_0
      obtain ⟨_, _, ⟨T243, L243, k243, n243⟩, -, X243, ⟨Lc243, hQ243, l243, y243, z243⟩, st243⟩ := X235.virtualBack hx (y := y_14) (z := y_14) hown (mvT hZ (ww102 hw)) (mvT hZ (ww103 hw)) (notFace_of_selects (args := #[]) (mvT hZ (ww105 hw))) (mvT hZ (ww105 hw)) (mvT hZ (ww104 hw)) (by decide) hK243 q243a q243c (g := (mkF m 212 ls242 [(.int jj), (.ref b13)])) rfl (by rw [hml, hls242]; rfl) (Steps.refl _) (argsL := [(.int jj)]) (rest := []) (lenOf pd_10 rfl) rfl (by show 2 * 0 + _ ≤ _; exact Nat.le_of_eq rfl) (hb hby at_212) (fun _ _ => ⟨rfl, rfl, (by decide : 5 + 0 ≤ _), (by decide : 30 + 0 ≤ _)⟩)
      dsimp only [Pt.U, Pt.locs, Pt.cells, Pt.slots] at X243 l243 y243 z243 st243 hQ243
      subst l243 y243 z243
      obtain ⟨rfl, N243q, e243⟩ := hQ243
      have N243 := Fr.app N235 N243q
      obtain ⟨lc243, X243, N243⟩ := own_gen X243 N243
      refine step (fun t k => st243.trans k) ?_
      show G T243 (mkF m 215 ls242 [(.long (f_get4 w_0 w_1 w_2 b13 jj b14 kb_14 B4 B5 B2 B3 (2 : Int32)))])
      have r245 : (f_get4 w_0 w_1 w_2 b13 jj b14 kb_14 B4 B5 B2 B3 (2 : Int32)) = (own_at4 B4 B5 B2 B3 (((2 : Int32) + jj) % (4 : Int32))) := rfl
      rw [r245]
      show G T243 (mkF m 215 ls242 [(.long (own_at4 B4 B5 B2 B3 (((2 : Int32) + jj) % (4 : Int32))))])
      obtain ⟨ls246, hls246⟩  := own_sl #[.val (.long q0), .second, .val (.int p1), .val (.int p2), .val (.int p3), .val (.int p4), .val (.long bb), .second, .val (.long sp), .second, .val (.int 2), .val (.int 2), .val (.ref b11), .val (.ref b13), .val (.long nw), .second, .val (.int 2), .val (.int 4), .val (.int 4), .val (.int jj), .val (.long (own_at4 B4 B5 B2 B3 (((2 : Int32) + jj) % (4 : Int32)))), .second]
      refine step (fun t k => XS.lstore X243.here hx rfl (hb hby at_215) rfl (l' := ls246) (by rw [hls242, hls246]; rfl) k) ?_
      show G T243 (mkF m 217 ls246 [])
      refine step (fun t k => XS.iload X243.here hx rfl (hb hby at_217) (by rw [hls246]; rfl) k) ?_
      show G T243 (mkF m 219 ls246 [(.int 2)])
      refine step (fun t k => XS.iconst X243.here hx rfl (hb hby at_219) k) ?_
      show G T243 (mkF m 220 ls246 [(.int 4), (.int 2)])
      refine step (fun t k => XS.iload X243.here hx rfl (hb hby at_220) (by rw [hls246]; rfl) k) ?_
      show G T243 (mkF m 222 ls246 [(.int 2), (.int 4), (.int 2)])
      refine step (fun t k => XS.isub X243.here hx rfl (hb hby at_222) rfl k) ?_
      show G T243 (mkF m 223 ls246 [(.int ((4 : Int32) - (2 : Int32))), (.int 2)])
      rw [(by decide : ((4 : Int32) - (2 : Int32)) = (2 : Int32))]
      show G T243 (mkF m 223 ls246 [(.int 2), (.int 2)])
      refine step (fun t k => XS.icmpNo X243.here hx rfl (hb hby at_223) rfl (teq (by decide : (2 : Int32) = (2 : Int32))).2 k) ?_
      show G T243 (mkF m 226 ls246 [])
      refine step (fun t k => XS.iload X243.here hx rfl (hb hby at_226) (by rw [hls246]; rfl) k) ?_
      show G T243 (mkF m 228 ls246 [(.int 4)])
      refine step (fun t k => XS.iload X243.here hx rfl (hb hby at_228) (by rw [hls246]; rfl) k) ?_
      show G T243 (mkF m 230 ls246 [(.int 4), (.int 4)])
      refine step (fun t k => XS.icmpNo X243.here hx rfl (hb hby at_230) rfl (teq (by decide : (4 : Int32) = (4 : Int32))).2 k) ?_
      show G T243 (mkF m 233 ls246 [])
      refine step (fun t k => XS.lload X243.here hx rfl (hb hby at_233) (by rw [hls246]; rfl) k) ?_
      show G T243 (mkF m 235 ls246 [(.long (own_at4 B4 B5 B2 B3 (((2 : Int32) + jj) % (4 : Int32))))])
      refine step (fun t k => XS.lload X243.here hx rfl (hb hby at_235) (by rw [hls246]; rfl) k) ?_
      show G T243 (mkF m 237 ls246 [(.long bb), (.long (own_at4 B4 B5 B2 B3 (((2 : Int32) + jj) % (4 : Int32))))])
      refine step (fun t k => XS.iload X243.here hx rfl (hb hby at_237) (by rw [hls246]; rfl) k) ?_
      show G T243 (mkF m 239 ls246 [(.int 2), (.long bb), (.long (own_at4 B4 B5 B2 B3 (((2 : Int32) + jj) % (4 : Int32))))])
      refine step (fun t k => XS.iload X243.here hx rfl (hb hby at_239) (by rw [hls246]; rfl) k) ?_
      show G T243 (mkF m 241 ls246 [(.int jj), (.int 2), (.long bb), (.long (own_at4 B4 B5 B2 B3 (((2 : Int32) + jj) % (4 : Int32))))])
      refine step (fun t k => XS.iadd X243.here hx rfl (hb hby at_241) rfl k) ?_
      show G T243 (mkF m 242 ls246 [(.int ((2 : Int32) + jj)), (.long bb), (.long (own_at4 B4 B5 B2 B3 (((2 : Int32) + jj) % (4 : Int32))))])
      refine step (fun t k => XS.i2l X243.here hx rfl (hb hby at_242) rfl k) ?_
      show G T243 (mkF m 243 ls246 [(.long (((2 : Int32) + jj).toInt64)), (.long bb), (.long (own_at4 B4 B5 B2 B3 (((2 : Int32) + jj) % (4 : Int32))))])
      refine step (fun t k => XS.lload X243.here hx rfl (hb hby at_243) (by rw [hls246]; rfl) k) ?_
      show G T243 (mkF m 245 ls246 [(.long sp), (.long (((2 : Int32) + jj).toInt64)), (.long bb), (.long (own_at4 B4 B5 B2 B3 (((2 : Int32) + jj) % (4 : Int32))))])
      refine step (fun t k => XS.lmul X243.here hx rfl (hb hby at_245) rfl k) ?_
      show G T243 (mkF m 246 ls246 [(.long ((((2 : Int32) + jj).toInt64) * sp)), (.long bb), (.long (own_at4 B4 B5 B2 B3 (((2 : Int32) + jj) % (4 : Int32))))])
      refine step (fun t k => XS.ladd X243.here hx rfl (hb hby at_246) rfl k) ?_
      show G T243 (mkF m 247 ls246 [(.long (bb + ((((2 : Int32) + jj).toInt64) * sp))), (.long (own_at4 B4 B5 B2 B3 (((2 : Int32) + jj) % (4 : Int32))))])
      refine step (fun t k => XS.lcmp X243.here hx rfl (hb hby at_247) rfl k) ?_
      show G T243 (mkF m 248 ls246 [(.int (lcmpW (own_at4 B4 B5 B2 B3 (((2 : Int32) + jj) % (4 : Int32))) (bb + ((((2 : Int32) + jj).toInt64) * sp))))])
      refine step (fun t k => XS.ifNo X243.here hx rfl (hb hby at_248) rfl ((if0 _ _).trans (teq ((lw_eq _ _).mpr (by rcases hj with h | h | h | h <;> rw [h] <;> first | exact hq2 | exact hq3 | exact hq4 | exact hq5))).2) k) ?_
      show G T243 (mkF m 251 ls246 [])
      refine step (fun t k => XS.iconst X243.here hx rfl (hb hby at_251) k) ?_
      show G T243 (mkF m 252 ls246 [(.int 1)])
      refine step (fun t k => XS.goto X243.here hx rfl (pc0 := 252) (pc' := 256) rfl (hb hby at_252) (by decide) (by decide) k) ?_
      show G T243 (mkF m 256 ls246 [(.int 1)])
      exact ret (v := some (.int 1)) X243 hS hk235 (fun h => by rw [Bd.returns] at h; cases h) (fun fs hr => retN X243 hx (t := .boolean) Bd.returns (by simp) (hb hby at_256) hr) e243 ⟨rfl, N243⟩ (by decide) (by decide)
    · skip
      obtain ⟨ls247, hls247⟩  := own_sl #[.val (.long q0), .second, .val (.int p1), .val (.int p2), .val (.int p3), .val (.int p4), .val (.long bb), .second, .val (.long sp), .second, .val (.int 2), .val (.int 3), .val (.ref b11), .val (.ref b13), .val (.long nw), .second, .val (.int 2), .unset, .unset, .unset, .unset, .unset]
      rw [show ls195 = ls247 from by rw [hls195, hls247, hee]]
      show G T191 (mkF m 118 ls247 [])
      refine step (fun t k => XS.iload X191.here hx rfl (hb hby at_118) (by rw [hls247]; rfl) k) ?_
      show G T191 (mkF m 120 ls247 [(.int 3)])
      refine step (fun t k => XS.iconst X191.here hx rfl (hb hby at_120) k) ?_
      show G T191 (mkF m 121 ls247 [(.int 1), (.int 3)])
      refine step (fun t k => XS.icmpNo X191.here hx rfl (hb hby at_121) rfl (flt (by decide : ¬ ((3 : Int32) < (1 : Int32)))).1 k) ?_
      show G T191 (mkF m 124 ls247 [])
      refine step (fun t k => XS.aload X191.here hx rfl (hb hby at_124) (by rw [hls247]; rfl) rfl k) ?_
      show G T191 (mkF m 126 ls247 [(.ref b13)])
      refine step (fun t k => XS.lload X191.here hx rfl (hb hby at_126) (by rw [hls247]; rfl) k) ?_
      show G T191 (mkF m 128 ls247 [(.long bb), (.ref b13)])
      have q248 := X191.ldc2Long hx hown (mvT hZ (ww107 hw)) (g := (mkF m 128 ls247 [(.long bb), (.ref b13)])) rfl (hb hby at_128)
      refine step q248 ?_
      show G T191 (mkF m 131 ls247 [(.long 4), (.long bb), (.ref b13)])
      refine step (fun t k => XS.lload X191.here hx rfl (hb hby at_131) (by rw [hls247]; rfl) k) ?_
      show G T191 (mkF m 133 ls247 [(.long sp), (.long 4), (.long bb), (.ref b13)])
      refine step (fun t k => XS.lmul X191.here hx rfl (hb hby at_133) rfl k) ?_
      show G T191 (mkF m 134 ls247 [(.long ((4 : Int64) * sp)), (.long bb), (.ref b13)])
      refine step (fun t k => XS.ladd X191.here hx rfl (hb hby at_134) rfl k) ?_
      show G T191 (mkF m 135 ls247 [(.long (bb + ((4 : Int64) * sp))), (.ref b13)])
      obtain ⟨B4, hB4⟩ : ∃ z : Int64, z = (bb + ((4 : Int64) * sp)) := ⟨_, rfl⟩
      rw [← hB4]
      show G T191 (mkF m 135 ls247 [(.long B4), (.ref b13)])
      have tB4 := own_B (4 : Int64) 4 (by decide) (by decide) (by decide) hbb1 hsp1 hB4
      have hq4 := hB4
      have f250 := (Arv.keep Y22_4 K191q (ninS (Nat.ne_of_gt lt_b13_b14) nin0))
      have hK249 := (backOf (R := room_1) (p := p) (e := e) (below := below) (args := #[(.long q0), (.int p1), (.int p2), (.int p3), (.int p4)]) (len := 3) (W := 0) (rm_add_4_0 l Z a0 hw [] w_0 w_1 w_2 b13 B4 b14 kb_14 bb B1 B2 B3 (2 : Int32) (2 : Int32) (3 : Int32) T191.heap n0 (own_old_le O191) ST O191 Y191_0 ge_b13 Y191_1 ge_b14 Y191_2 Y191_3 f250 (by decide : ¬ ((2 : Int32) = (4 : Int32))) (by decide : ((2 : Int32) + (1 : Int32)) = (3 : Int32)) (by decide : (((2 : Int32) + (2 : Int32)) % (4 : Int32)) = (0 : Int32))) hZ (ww63 hw) (ww51 hw) (by decide) (by decide))
      obtain ⟨cq249, kq249, q249a, q249b, q249c⟩ := isOf hZ rfl Y191_0
      obtain ⟨_, _, ⟨T249, L249, k249, n249⟩, -, X249, ⟨Lc249, hQ249, l249, y249, z249⟩, st249⟩ := X191.virtualBack hx (y := y_10) (z := y_10) hown (mvT hZ (ww59 hw)) (mvT hZ (ww60 hw)) (notFace_of_selects (args := #[]) (mvT hZ (ww62 hw))) (mvT hZ (ww62 hw)) (mvT hZ (ww61 hw)) (by decide) hK249 q249a q249c (g := (mkF m 135 ls247 [(.long B4), (.ref b13)])) rfl (by rw [hml, hls247]; rfl) (Steps.refl _) (argsL := [(.long B4)]) (rest := []) (lenOf pd_5 rfl) rfl (by show 2 * 0 + _ ≤ _; exact Nat.le_of_eq rfl) (hb hby at_135) (fun _ _ => ⟨rfl, rfl, (by decide : 5 + 0 ≤ _), (by decide : 30 + 0 ≤ _)⟩)
      dsimp only [Pt.U, Pt.locs, Pt.cells, Pt.slots] at X249 l249 y249 z249 st249 hQ249
      subst l249 y249 z249
      obtain ⟨rfl, N249q, K249q, Y249_0, Y249_1, Y249_2, Y249_3, Y249_4⟩ := hQ249
      have N249 := Fr.app N191 N249q
      obtain ⟨lc249, X249, N249⟩ := own_gen X249 N249
      have O249 := O191.keep K249q (allS ge_b13 (allS ge_b14 all0))
      have hk249 : _ ≤ T249.heap.size := Nat.le_trans hk191 K249q.1
      refine step (fun t k => st249.trans k) ?_
      show G T249 (mkF m 138 ls247 [])
      refine step (fun t k => XS.iload X249.here hx rfl (hb hby at_138) (by rw [hls247]; rfl) k) ?_
      show G T249 (mkF m 140 ls247 [(.int 3)])
      refine step (fun t k => XS.iconst X249.here hx rfl (hb hby at_140) k) ?_
      show G T249 (mkF m 141 ls247 [(.int 2), (.int 3)])
      refine step (fun t k => XS.icmpNo X249.here hx rfl (hb hby at_141) rfl (flt (by decide : ¬ ((3 : Int32) < (2 : Int32)))).1 k) ?_
      show G T249 (mkF m 144 ls247 [])
      refine step (fun t k => XS.aload X249.here hx rfl (hb hby at_144) (by rw [hls247]; rfl) rfl k) ?_
      show G T249 (mkF m 146 ls247 [(.ref b13)])
      refine step (fun t k => XS.lload X249.here hx rfl (hb hby at_146) (by rw [hls247]; rfl) k) ?_
      show G T249 (mkF m 148 ls247 [(.long bb), (.ref b13)])
      have q251 := X249.ldc2Long hx hown (mvT hZ (ww108 hw)) (g := (mkF m 148 ls247 [(.long bb), (.ref b13)])) rfl (hb hby at_148)
      refine step q251 ?_
      show G T249 (mkF m 151 ls247 [(.long 5), (.long bb), (.ref b13)])
      refine step (fun t k => XS.lload X249.here hx rfl (hb hby at_151) (by rw [hls247]; rfl) k) ?_
      show G T249 (mkF m 153 ls247 [(.long sp), (.long 5), (.long bb), (.ref b13)])
      refine step (fun t k => XS.lmul X249.here hx rfl (hb hby at_153) rfl k) ?_
      show G T249 (mkF m 154 ls247 [(.long ((5 : Int64) * sp)), (.long bb), (.ref b13)])
      refine step (fun t k => XS.ladd X249.here hx rfl (hb hby at_154) rfl k) ?_
      show G T249 (mkF m 155 ls247 [(.long (bb + ((5 : Int64) * sp))), (.ref b13)])
      obtain ⟨B5, hB5⟩ : ∃ z : Int64, z = (bb + ((5 : Int64) * sp)) := ⟨_, rfl⟩
      rw [← hB5]
      show G T249 (mkF m 155 ls247 [(.long B5), (.ref b13)])
      have tB5 := own_B (5 : Int64) 5 (by decide) (by decide) (by decide) hbb1 hsp1 hB5
      have hq5 := hB5
      have hK252 := (backOf (R := room_1) (p := p) (e := e) (below := below) (args := #[(.long q0), (.int p1), (.int p2), (.int p3), (.int p4)]) (len := 3) (W := 0) (rm_add_4_1 l Z a0 hw [] w_0 w_1 w_2 b13 B5 b14 kb_14 B4 B1 B2 B3 (2 : Int32) (3 : Int32) (4 : Int32) T249.heap n0 (own_old_le O249) ST O249 Y249_0 ge_b13 Y249_1 ge_b14 Y249_2 Y249_3 Y249_4 (by decide : ¬ ((3 : Int32) = (4 : Int32))) (by decide : ((3 : Int32) + (1 : Int32)) = (4 : Int32)) (by decide : (((2 : Int32) + (3 : Int32)) % (4 : Int32)) = (1 : Int32))) hZ (ww63 hw) (ww51 hw) (by decide) (by decide))
      obtain ⟨cq252, kq252, q252a, q252b, q252c⟩ := isOf hZ rfl Y249_0
      obtain ⟨_, _, ⟨T252, L252, k252, n252⟩, -, X252, ⟨Lc252, hQ252, l252, y252, z252⟩, st252⟩ := X249.virtualBack hx (y := y_10) (z := y_10) hown (mvT hZ (ww59 hw)) (mvT hZ (ww60 hw)) (notFace_of_selects (args := #[]) (mvT hZ (ww62 hw))) (mvT hZ (ww62 hw)) (mvT hZ (ww61 hw)) (by decide) hK252 q252a q252c (g := (mkF m 155 ls247 [(.long B5), (.ref b13)])) rfl (by rw [hml, hls247]; rfl) (Steps.refl _) (argsL := [(.long B5)]) (rest := []) (lenOf pd_5 rfl) rfl (by show 2 * 0 + _ ≤ _; exact Nat.le_of_eq rfl) (hb hby at_155) (fun _ _ => ⟨rfl, rfl, (by decide : 5 + 0 ≤ _), (by decide : 30 + 0 ≤ _)⟩)
      dsimp only [Pt.U, Pt.locs, Pt.cells, Pt.slots] at X252 l252 y252 z252 st252 hQ252
      subst l252 y252 z252
      obtain ⟨rfl, N252q, K252q, Y252_0, Y252_1, Y252_2, Y252_3, Y252_4⟩ := hQ252
      have N252 := Fr.app N249 N252q
      obtain ⟨lc252, X252, N252⟩ := own_gen X252 N252
      have O252 := O249.keep K252q (allS ge_b13 (allS ge_b14 all0))
      have hk252 : _ ≤ T252.heap.size := Nat.le_trans hk249 K252q.1
      refine step (fun t k => st252.trans k) ?_
      show G T252 (mkF m 158 ls247 [])
      refine step (fun t k => XS.iload X252.here hx rfl (hb hby at_158) (by rw [hls247]; rfl) k) ?_
      show G T252 (mkF m 160 ls247 [(.int 3)])
      refine step (fun t k => XS.iconst X252.here hx rfl (hb hby at_160) k) ?_
      show G T252 (mkF m 161 ls247 [(.int 3), (.int 3)])
      refine step (fun t k => XS.icmpNo X252.here hx rfl (hb hby at_161) rfl (flt (by decide : ¬ ((3 : Int32) < (3 : Int32)))).1 k) ?_
      show G T252 (mkF m 164 ls247 [])
      refine step (fun t k => XS.aload X252.here hx rfl (hb hby at_164) (by rw [hls247]; rfl) rfl k) ?_
      show G T252 (mkF m 166 ls247 [(.ref b13)])
      refine step (fun t k => XS.lload X252.here hx rfl (hb hby at_166) (by rw [hls247]; rfl) k) ?_
      show G T252 (mkF m 168 ls247 [(.long bb), (.ref b13)])
      have q253 := X252.ldc2Long hx hown (mvT hZ (ww109 hw)) (g := (mkF m 168 ls247 [(.long bb), (.ref b13)])) rfl (hb hby at_168)
      refine step q253 ?_
      show G T252 (mkF m 171 ls247 [(.long 6), (.long bb), (.ref b13)])
      refine step (fun t k => XS.lload X252.here hx rfl (hb hby at_171) (by rw [hls247]; rfl) k) ?_
      show G T252 (mkF m 173 ls247 [(.long sp), (.long 6), (.long bb), (.ref b13)])
      refine step (fun t k => XS.lmul X252.here hx rfl (hb hby at_173) rfl k) ?_
      show G T252 (mkF m 174 ls247 [(.long ((6 : Int64) * sp)), (.long bb), (.ref b13)])
      refine step (fun t k => XS.ladd X252.here hx rfl (hb hby at_174) rfl k) ?_
      show G T252 (mkF m 175 ls247 [(.long (bb + ((6 : Int64) * sp))), (.ref b13)])
      obtain ⟨B6, hB6⟩ : ∃ z : Int64, z = (bb + ((6 : Int64) * sp)) := ⟨_, rfl⟩
      rw [← hB6]
      show G T252 (mkF m 175 ls247 [(.long B6), (.ref b13)])
      have tB6 := own_B (6 : Int64) 6 (by decide) (by decide) (by decide) hbb1 hsp1 hB6
      have hq6 := hB6
      have hK254 := (backOf (R := room_1) (p := p) (e := e) (below := below) (args := #[(.long q0), (.int p1), (.int p2), (.int p3), (.int p4)]) (len := 3) (W := 0) (rm_addg_4_2 l Z a0 hw [] w_0 w_1 w_2 b13 B6 b14 kb_14 B4 B5 B2 B3 T252.heap n0 (own_old_le O252) ST O252 Y252_0 ge_b13 Y252_1 ge_b14 Y252_2 Y252_3 Y252_4) hZ (ww63 hw) (ww51 hw) (by decide) (by decide))
      obtain ⟨cq254, kq254, q254a, q254b, q254c⟩ := isOf hZ rfl Y252_0
      obtain ⟨_, _, ⟨T254, L254, k254, n254⟩, -, X254, ⟨Lc254, hQ254, l254, y254, z254⟩, st254⟩ := X252.virtualBack hx (y := y_10) (z := y_10) hown (mvT hZ (ww59 hw)) (mvT hZ (ww60 hw)) (notFace_of_selects (args := #[]) (mvT hZ (ww62 hw))) (mvT hZ (ww62 hw)) (mvT hZ (ww61 hw)) (by decide) hK254 q254a q254c (g := (mkF m 175 ls247 [(.long B6), (.ref b13)])) rfl (by rw [hml, hls247]; rfl) (Steps.refl _) (argsL := [(.long B6)]) (rest := []) (lenOf pd_5 rfl) rfl (by show 2 * 0 + _ ≤ _; exact Nat.le_of_eq rfl) (hb hby at_175) (fun _ _ => ⟨rfl, rfl, (by decide : 5 + 1 ≤ _), (by decide : 30 + 8 ≤ _)⟩)
      dsimp only [Pt.U, Pt.locs, Pt.cells, Pt.slots] at X254 l254 y254 z254 st254 hQ254
      subst l254 y254 z254
      have f255 := (Exa.keep (Exa.keep (Exa.keep f192 K191q) K249q) K252q)
      obtain ⟨b254, kb_254, rfl, N254q, K254q, Y254_0, Y254_1, Y254_2, Y254_3, Y254_4, Y254_5⟩ := hQ254
      have N254 := Fr.app N252 N254q
      obtain ⟨lc254, X254, N254⟩ := own_gen X254 N254
      have O254 := O252.keep K254q (allS ge_b13 all0)
      have ge_b254 : n0 ≤ b254 := Nat.le_trans (own_old_le O252) Y254_0
      have lt_b11_b254 : b11 < b254 := Nat.lt_of_lt_of_le f255.lt Y254_0
      have lt_b13_b254 : b13 < b254 := Nat.lt_of_lt_of_le Y252_0.lt Y254_0
      have lt_b14_b254 : b14 < b254 := Nat.lt_of_lt_of_le Y252_4.lt Y254_0
      have hk254 : _ ≤ T254.heap.size := Nat.le_trans hk252 K254q.1
      refine step (fun t k => st254.trans k) ?_
      show G T254 (mkF m 178 ls247 [])
      refine step (fun t k => XS.iconst X254.here hx rfl (hb hby at_178) k) ?_
      show G T254 (mkF m 179 ls247 [(.int 4)])
      refine step (fun t k => XS.iload X254.here hx rfl (hb hby at_179) (by rw [hls247]; rfl) k) ?_
      show G T254 (mkF m 181 ls247 [(.int 2), (.int 4)])
      refine step (fun t k => XS.isub X254.here hx rfl (hb hby at_181) rfl k) ?_
      show G T254 (mkF m 182 ls247 [(.int ((4 : Int32) - (2 : Int32)))])
      rw [(by decide : ((4 : Int32) - (2 : Int32)) = (2 : Int32))]
      show G T254 (mkF m 182 ls247 [(.int 2)])
      refine step (fun t k => XS.iload X254.here hx rfl (hb hby at_182) (by rw [hls247]; rfl) k) ?_
      show G T254 (mkF m 184 ls247 [(.int 3), (.int 2)])
      refine step (fun t k => XS.iadd X254.here hx rfl (hb hby at_184) rfl k) ?_
      show G T254 (mkF m 185 ls247 [(.int ((2 : Int32) + (3 : Int32)))])
      rw [(by decide : ((2 : Int32) + (3 : Int32)) = (5 : Int32))]
      show G T254 (mkF m 185 ls247 [(.int 5)])
      obtain ⟨ls256, hls256⟩  := own_sl #[.val (.long q0), .second, .val (.int p1), .val (.int p2), .val (.int p3), .val (.int p4), .val (.long bb), .second, .val (.long sp), .second, .val (.int 2), .val (.int 3), .val (.ref b11), .val (.ref b13), .val (.long nw), .second, .val (.int 2), .val (.int 5), .unset, .unset, .unset, .unset]
      refine step (fun t k => XS.istore X254.here hx rfl (hb hby at_185) rfl (l' := ls256) (by rw [hls247, hls256]; rfl) k) ?_
      show G T254 (mkF m 187 ls256 [])
      refine step (fun t k => XS.aload X254.here hx rfl (hb hby at_187) (by rw [hls256]; rfl) rfl k) ?_
      show G T254 (mkF m 189 ls256 [(.ref b13)])
      refine step (fun t k => XS.aload X254.here hx rfl (hb hby at_189) (by rw [hls256]; rfl) rfl k) ?_
      show G T254 (mkF m 191 ls256 [(.ref b11), (.ref b13)])
      refine step (fun t k => XS.lload X254.here hx rfl (hb hby at_191) (by rw [hls256]; rfl) k) ?_
      show G T254 (mkF m 193 ls256 [(.long nw), (.ref b11), (.ref b13)])
      have f258 := (Exa.keep f255 K254q)
      have f259 := (Fld.keep (Fld.keep (Fld.keep (Fld.keep f193 K191q (ninS (Nat.ne_of_lt lt_b11_b13) nin0)) K249q (ninS (Nat.ne_of_lt lt_b11_b13) (ninS (Nat.ne_of_lt lt_b11_b14) nin0))) K252q (ninS (Nat.ne_of_lt lt_b11_b13) (ninS (Nat.ne_of_lt lt_b11_b14) nin0))) K254q (ninS (Nat.ne_of_lt lt_b11_b13) nin0))
      have f260 := (Fld.keep (Fld.keep (Fld.keep (Fld.keep f194 K191q (ninS (Nat.ne_of_lt lt_b11_b13) nin0)) K249q (ninS (Nat.ne_of_lt lt_b11_b13) (ninS (Nat.ne_of_lt lt_b11_b14) nin0))) K252q (ninS (Nat.ne_of_lt lt_b11_b13) (ninS (Nat.ne_of_lt lt_b11_b14) nin0))) K254q (ninS (Nat.ne_of_lt lt_b11_b13) nin0))
      have hK257 := (backOf (R := room_1) (p := p) (e := e) (below := below) (args := #[(.long q0), (.int p1), (.int p2), (.int p3), (.int p4)]) (len := 3) (W := 0) (rm_cnt0_8 l Z a0 hw [] w_0 w_1 w_2 b13 b11 nw b254 kb_254 B2 B3 B4 B5 B6 (0 : Int64) (0 : Int64) (0 : Int64) (0 : Int32) (5 : Int32) (1 : Int64) T254.heap n0 (own_old_le O254) ST O254 Y254_1 ge_b13 Y254_2 ge_b254 Y254_3 Y254_4 Y254_5 ((by decide) : (0 : Int32) < (5 : Int32)) (by decide) f258 f259 f260 (show (nw - (1 : Int64)) < B2 from (own_ltB tnw1 tB2 hsp1.1 (by decide)))) hZ (ww74 hw) (ww51 hw) (by decide) (by decide))
      obtain ⟨cq257, kq257, q257a, q257b, q257c⟩ := isOf hZ rfl Y254_1
      obtain ⟨_, _, ⟨T257, L257, k257, n257⟩, -, X257, ⟨Lc257, hQ257, l257, y257, z257⟩, st257⟩ := X254.virtualBack hx (y := y_13) (z := y_13) hown (mvT hZ (ww70 hw)) (mvT hZ (ww71 hw)) (notFace_of_selects (args := #[]) (mvT hZ (ww73 hw))) (mvT hZ (ww73 hw)) (mvT hZ (ww72 hw)) (by decide) hK257 q257a q257c (g := (mkF m 193 ls256 [(.long nw), (.ref b11), (.ref b13)])) rfl (by rw [hml, hls256]; rfl) (Steps.refl _) (argsL := [(.ref b11), (.long nw)]) (rest := []) (lenOf pd_9 rfl) rfl (by show 2 * 0 + _ ≤ _; exact Nat.le_of_eq rfl) (hb hby at_193) (fun _ _ => ⟨rfl, rfl, (by decide : 6 + 0 ≤ _), (by decide : 38 + 0 ≤ _)⟩)
      dsimp only [Pt.U, Pt.locs, Pt.cells, Pt.slots] at X257 l257 y257 z257 st257 hQ257
      subst l257 y257 z257
      obtain ⟨rfl, N257q, K257q, Y257_0, Y257_1, Y257_2, Y257_3⟩ := hQ257
      have N257 := Fr.app N254 N257q
      obtain ⟨lc257, X257, N257⟩ := own_gen X257 N257
      have O257 := O254.keep K257q (allS ge_b13 all0)
      have hk257 : _ ≤ T257.heap.size := Nat.le_trans hk254 K257q.1
      refine step (fun t k => st257.trans k) ?_
      show G T257 (mkF m 196 ls256 [(.int 5)])
      obtain ⟨ls261, hls261⟩  := own_sl #[.val (.long q0), .second, .val (.int p1), .val (.int p2), .val (.int p3), .val (.int p4), .val (.long bb), .second, .val (.long sp), .second, .val (.int 2), .val (.int 3), .val (.ref b11), .val (.ref b13), .val (.long nw), .second, .val (.int 2), .val (.int 5), .val (.int 5), .unset, .unset, .unset]
      refine step (fun t k => XS.istore X257.here hx rfl (hb hby at_196) rfl (l' := ls261) (by rw [hls256, hls261]; rfl) k) ?_
      show G T257 (mkF m 198 ls261 [])
      refine step (fun t k => XS.iload X257.here hx rfl (hb hby at_198) (by rw [hls261]; rfl) k) ?_
      show G T257 (mkF m 200 ls261 [(.int p4)])
      have q262 := X257.ldcInt hx hown (mvT hZ (ww101 hw)) (g := (mkF m 200 ls261 [(.int p4)])) rfl (hb hby at_200)
      refine step q262 ?_
      show G T257 (mkF m 202 ls261 [(.int 2147483647), (.int p4)])
      refine step (fun t k => XS.iand X257.here hx rfl (hb hby at_202) rfl k) ?_
      show G T257 (mkF m 203 ls261 [(.int (p4 &&& (2147483647 : Int32)))])
      refine step (fun t k => XS.iload X257.here hx rfl (hb hby at_203) (by rw [hls261]; rfl) k) ?_
      show G T257 (mkF m 205 ls261 [(.int 5), (.int (p4 &&& (2147483647 : Int32)))])
      refine step (fun t k => iremM X257 hx rfl (hb hby at_205) rfl (by decide) k) ?_
      show G T257 (mkF m 206 ls261 [(.int ((p4 &&& (2147483647 : Int32)) % (5 : Int32)))])
      obtain ⟨ls263, hls263⟩  := own_sl #[.val (.long q0), .second, .val (.int p1), .val (.int p2), .val (.int p3), .val (.int p4), .val (.long bb), .second, .val (.long sp), .second, .val (.int 2), .val (.int 3), .val (.ref b11), .val (.ref b13), .val (.long nw), .second, .val (.int 2), .val (.int 5), .val (.int 5), .val (.int ((p4 &&& (2147483647 : Int32)) % (5 : Int32))), .unset, .unset]
      refine step (fun t k => XS.istore X257.here hx rfl (hb hby at_206) rfl (l' := ls263) (by rw [hls261, hls263]; rfl) k) ?_
      show G T257 (mkF m 208 ls263 [])
      obtain ⟨jj, hjj⟩ : ∃ z : Int32, z = ((p4 &&& (2147483647 : Int32)) % (5 : Int32)) := ⟨_, rfl⟩
      obtain ⟨ls264, hls264⟩  := own_sl #[.val (.long q0), .second, .val (.int p1), .val (.int p2), .val (.int p3), .val (.int p4), .val (.long bb), .second, .val (.long sp), .second, .val (.int 2), .val (.int 3), .val (.ref b11), .val (.ref b13), .val (.long nw), .second, .val (.int 2), .val (.int 5), .val (.int 5), .val (.int jj), .unset, .unset]
      rw [show ls263 = ls264 from by rw [hls263, hls264, hjj]]
      show G T257 (mkF m 208 ls264 [])
      have hj := own_j5 p4
      rw [← hjj] at hj
      refine step (fun t k => XS.aload X257.here hx rfl (hb hby at_208) (by rw [hls264]; rfl) rfl k) ?_
      show G T257 (mkF m 210 ls264 [(.ref b13)])
      refine step (fun t k => XS.iload X257.here hx rfl (hb hby at_210) (by rw [hls264]; rfl) k) ?_
      show G T257 (mkF m 212 ls264 [(.int jj), (.ref b13)])
      have f266 := (Arv.keep Y254_5 K257q (ninS (Nat.ne_of_gt lt_b13_b254) nin0))
      have hK265 := (backOf (R := room_1) (p := p) (e := e) (below := below) (args := #[(.long q0), (.int p1), (.int p2), (.int p3), (.int p4)]) (len := 3) (W := 0) (rm_get8 l Z a0 hw [] w_0 w_1 w_2 b13 jj b254 kb_254 B2 B3 B4 B5 B6 (0 : Int64) (0 : Int64) (0 : Int64) (0 : Int32) T257.heap n0 (own_old_le O257) ST O257 Y257_1 Y257_2 f266 (by rcases hj with h | h | h | h | h <;> (rw [h]; decide))) hZ (ww106 hw) (ww51 hw) (by decide) (by decide))
      obtain ⟨cq265, kq265, q265a, q265b, q265c⟩ := isOf hZ rfl Y257_0
      obtain ⟨_, _, ⟨T265, L265, k265, n265⟩, -, X265, ⟨Lc265, hQ265, l265, y265, z265⟩, st265⟩ := X257.virtualBack hx (y := y_14) (z := y_14) hown (mvT hZ (ww102 hw)) (mvT hZ (ww103 hw)) (notFace_of_selects (args := #[]) (mvT hZ (ww105 hw))) (mvT hZ (ww105 hw)) (mvT hZ (ww104 hw)) (by decide) hK265 q265a q265c (g := (mkF m 212 ls264 [(.int jj), (.ref b13)])) rfl (by rw [hml, hls264]; rfl) (Steps.refl _) (argsL := [(.int jj)]) (rest := []) (lenOf pd_10 rfl) rfl (by show 2 * 0 + _ ≤ _; exact Nat.le_of_eq rfl) (hb hby at_212) (fun _ _ => ⟨rfl, rfl, (by decide : 6 + 0 ≤ _), (by decide : 38 + 0 ≤ _)⟩)
      dsimp only [Pt.U, Pt.locs, Pt.cells, Pt.slots] at X265 l265 y265 z265 st265 hQ265
      subst l265 y265 z265
      obtain ⟨rfl, N265q, e265⟩ := hQ265
      have N265 := Fr.app N257 N265q
      obtain ⟨lc265, X265, N265⟩ := own_gen X265 N265
      refine step (fun t k => st265.trans k) ?_
      show G T265 (mkF m 215 ls264 [(.long (f_get8 w_0 w_1 w_2 b13 jj b254 kb_254 B2 B3 B4 B5 B6 (0 : Int64) (0 : Int64) (0 : Int64) (0 : Int32)))])
      have r267 : (f_get8 w_0 w_1 w_2 b13 jj b254 kb_254 B2 B3 B4 B5 B6 (0 : Int64) (0 : Int64) (0 : Int64) (0 : Int32)) = (own_at8 B2 B3 B4 B5 B6 (0 : Int64) (0 : Int64) (0 : Int64) (((0 : Int32) + jj) % (8 : Int32))) := rfl
      rw [r267]
      show G T265 (mkF m 215 ls264 [(.long (own_at8 B2 B3 B4 B5 B6 (0 : Int64) (0 : Int64) (0 : Int64) (((0 : Int32) + jj) % (8 : Int32))))])
      obtain ⟨ls268, hls268⟩  := own_sl #[.val (.long q0), .second, .val (.int p1), .val (.int p2), .val (.int p3), .val (.int p4), .val (.long bb), .second, .val (.long sp), .second, .val (.int 2), .val (.int 3), .val (.ref b11), .val (.ref b13), .val (.long nw), .second, .val (.int 2), .val (.int 5), .val (.int 5), .val (.int jj), .val (.long (own_at8 B2 B3 B4 B5 B6 (0 : Int64) (0 : Int64) (0 : Int64) (((0 : Int32) + jj) % (8 : Int32)))), .second]
      refine step (fun t k => XS.lstore X265.here hx rfl (hb hby at_215) rfl (l' := ls268) (by rw [hls264, hls268]; rfl) k) ?_
      show G T265 (mkF m 217 ls268 [])
      refine step (fun t k => XS.iload X265.here hx rfl (hb hby at_217) (by rw [hls268]; rfl) k) ?_
      show G T265 (mkF m 219 ls268 [(.int 2)])
      refine step (fun t k => XS.iconst X265.here hx rfl (hb hby at_219) k) ?_
      show G T265 (mkF m 220 ls268 [(.int 4), (.int 2)])
      refine step (fun t k => XS.iload X265.here hx rfl (hb hby at_220) (by rw [hls268]; rfl) k) ?_
      show G T265 (mkF m 222 ls268 [(.int 2), (.int 4), (.int 2)])
      refine step (fun t k => XS.isub X265.here hx rfl (hb hby at_222) rfl k) ?_
      show G T265 (mkF m 223 ls268 [(.int ((4 : Int32) - (2 : Int32))), (.int 2)])
      rw [(by decide : ((4 : Int32) - (2 : Int32)) = (2 : Int32))]
      show G T265 (mkF m 223 ls268 [(.int 2), (.int 2)])
      refine step (fun t k => XS.icmpNo X265.here hx rfl (hb hby at_223) rfl (teq (by decide : (2 : Int32) = (2 : Int32))).2 k) ?_
      show G T265 (mkF m 226 ls268 [])
      refine step (fun t k => XS.iload X265.here hx rfl (hb hby at_226) (by rw [hls268]; rfl) k) ?_
      show G T265 (mkF m 228 ls268 [(.int 5)])
      refine step (fun t k => XS.iload X265.here hx rfl (hb hby at_228) (by rw [hls268]; rfl) k) ?_
      show G T265 (mkF m 230 ls268 [(.int 5), (.int 5)])
      refine step (fun t k => XS.icmpNo X265.here hx rfl (hb hby at_230) rfl (teq (by decide : (5 : Int32) = (5 : Int32))).2 k) ?_
      show G T265 (mkF m 233 ls268 [])
      refine step (fun t k => XS.lload X265.here hx rfl (hb hby at_233) (by rw [hls268]; rfl) k) ?_
      show G T265 (mkF m 235 ls268 [(.long (own_at8 B2 B3 B4 B5 B6 (0 : Int64) (0 : Int64) (0 : Int64) (((0 : Int32) + jj) % (8 : Int32))))])
      refine step (fun t k => XS.lload X265.here hx rfl (hb hby at_235) (by rw [hls268]; rfl) k) ?_
      show G T265 (mkF m 237 ls268 [(.long bb), (.long (own_at8 B2 B3 B4 B5 B6 (0 : Int64) (0 : Int64) (0 : Int64) (((0 : Int32) + jj) % (8 : Int32))))])
      refine step (fun t k => XS.iload X265.here hx rfl (hb hby at_237) (by rw [hls268]; rfl) k) ?_
      show G T265 (mkF m 239 ls268 [(.int 2), (.long bb), (.long (own_at8 B2 B3 B4 B5 B6 (0 : Int64) (0 : Int64) (0 : Int64) (((0 : Int32) + jj) % (8 : Int32))))])
      refine step (fun t k => XS.iload X265.here hx rfl (hb hby at_239) (by rw [hls268]; rfl) k) ?_
      show G T265 (mkF m 241 ls268 [(.int jj), (.int 2), (.long bb), (.long (own_at8 B2 B3 B4 B5 B6 (0 : Int64) (0 : Int64) (0 : Int64) (((0 : Int32) + jj) % (8 : Int32))))])
      refine step (fun t k => XS.iadd X265.here hx rfl (hb hby at_241) rfl k) ?_
      show G T265 (mkF m 242 ls268 [(.int ((2 : Int32) + jj)), (.long bb), (.long (own_at8 B2 B3 B4 B5 B6 (0 : Int64) (0 : Int64) (0 : Int64) (((0 : Int32) + jj) % (8 : Int32))))])
      refine step (fun t k => XS.i2l X265.here hx rfl (hb hby at_242) rfl k) ?_
      show G T265 (mkF m 243 ls268 [(.long (((2 : Int32) + jj).toInt64)), (.long bb), (.long (own_at8 B2 B3 B4 B5 B6 (0 : Int64) (0 : Int64) (0 : Int64) (((0 : Int32) + jj) % (8 : Int32))))])
      refine step (fun t k => XS.lload X265.here hx rfl (hb hby at_243) (by rw [hls268]; rfl) k) ?_
      show G T265 (mkF m 245 ls268 [(.long sp), (.long (((2 : Int32) + jj).toInt64)), (.long bb), (.long (own_at8 B2 B3 B4 B5 B6 (0 : Int64) (0 : Int64) (0 : Int64) (((0 : Int32) + jj) % (8 : Int32))))])
      refine step (fun t k => XS.lmul X265.here hx rfl (hb hby at_245) rfl k) ?_
      show G T265 (mkF m 246 ls268 [(.long ((((2 : Int32) + jj).toInt64) * sp)), (.long bb), (.long (own_at8 B2 B3 B4 B5 B6 (0 : Int64) (0 : Int64) (0 : Int64) (((0 : Int32) + jj) % (8 : Int32))))])
      refine step (fun t k => XS.ladd X265.here hx rfl (hb hby at_246) rfl k) ?_
      show G T265 (mkF m 247 ls268 [(.long (bb + ((((2 : Int32) + jj).toInt64) * sp))), (.long (own_at8 B2 B3 B4 B5 B6 (0 : Int64) (0 : Int64) (0 : Int64) (((0 : Int32) + jj) % (8 : Int32))))])
      refine step (fun t k => XS.lcmp X265.here hx rfl (hb hby at_247) rfl k) ?_
      show G T265 (mkF m 248 ls268 [(.int (lcmpW (own_at8 B2 B3 B4 B5 B6 (0 : Int64) (0 : Int64) (0 : Int64) (((0 : Int32) + jj) % (8 : Int32))) (bb + ((((2 : Int32) + jj).toInt64) * sp))))])
      refine step (fun t k => XS.ifNo X265.here hx rfl (hb hby at_248) rfl ((if0 _ _).trans (teq ((lw_eq _ _).mpr (by rcases hj with h | h | h | h | h <;> rw [h] <;> first | exact hq2 | exact hq3 | exact hq4 | exact hq5 | exact hq6))).2) k) ?_
      show G T265 (mkF m 251 ls268 [])
      refine step (fun t k => XS.iconst X265.here hx rfl (hb hby at_251) k) ?_
      show G T265 (mkF m 252 ls268 [(.int 1)])
      refine step (fun t k => XS.goto X265.here hx rfl (pc0 := 252) (pc' := 256) rfl (hb hby at_252) (by decide) (by decide) k) ?_
      show G T265 (mkF m 256 ls268 [(.int 1)])
      exact ret (v := some (.int 1)) X265 hS hk257 (fun h => by rw [Bd.returns] at h; cases h) (fun fs hr => retN X265 hx (t := .boolean) Bd.returns (by simp) (hb hby at_256) hr) e265 ⟨rfl, N265⟩ (by decide) (by decide)
  · skip
    obtain ⟨ls269, hls269⟩  := own_sl #[.val (.long q0), .second, .val (.int p1), .val (.int p2), .val (.int p3), .val (.int p4), .val (.long bb), .second, .val (.long sp), .second, .val (.int 3), .val (.int (p3 &&& (3 : Int32))), .val (.ref b11), .val (.ref b13), .unset, .unset, .unset, .unset, .unset, .unset, .unset, .unset]
    rw [show ls16 = ls269 from by rw [hls16, hls269, hkk]]
    show G T22 (mkF m 96 ls269 [])
    refine step (fun t k => XS.lload X22.here hx rfl (hb hby at_96) (by rw [hls269]; rfl) k) ?_
    show G T22 (mkF m 98 ls269 [(.long bb)])
    refine step (fun t k => XS.iload X22.here hx rfl (hb hby at_98) (by rw [hls269]; rfl) k) ?_
    show G T22 (mkF m 100 ls269 [(.int 3), (.long bb)])
    refine step (fun t k => XS.i2l X22.here hx rfl (hb hby at_100) rfl k) ?_
    show G T22 (mkF m 101 ls269 [(.long ((3 : Int32).toInt64)), (.long bb)])
    rw [(by decide : ((3 : Int32).toInt64) = (3 : Int64))]
    show G T22 (mkF m 101 ls269 [(.long 3), (.long bb)])
    refine step (fun t k => XS.lload X22.here hx rfl (hb hby at_101) (by rw [hls269]; rfl) k) ?_
    show G T22 (mkF m 103 ls269 [(.long sp), (.long 3), (.long bb)])
    refine step (fun t k => XS.lmul X22.here hx rfl (hb hby at_103) rfl k) ?_
    show G T22 (mkF m 104 ls269 [(.long ((3 : Int64) * sp)), (.long bb)])
    refine step (fun t k => XS.ladd X22.here hx rfl (hb hby at_104) rfl k) ?_
    show G T22 (mkF m 105 ls269 [(.long (bb + ((3 : Int64) * sp)))])
    obtain ⟨ls270, hls270⟩  := own_sl #[.val (.long q0), .second, .val (.int p1), .val (.int p2), .val (.int p3), .val (.int p4), .val (.long bb), .second, .val (.long sp), .second, .val (.int 3), .val (.int (p3 &&& (3 : Int32))), .val (.ref b11), .val (.ref b13), .val (.long (bb + ((3 : Int64) * sp))), .second, .unset, .unset, .unset, .unset, .unset, .unset]
    refine step (fun t k => XS.lstore X22.here hx rfl (hb hby at_105) rfl (l' := ls270) (by rw [hls269, hls270]; rfl) k) ?_
    show G T22 (mkF m 107 ls270 [])
    obtain ⟨nw, hnw⟩ : ∃ z : Int64, z = (bb + ((3 : Int64) * sp)) := ⟨_, rfl⟩
    obtain ⟨ls271, hls271⟩  := own_sl #[.val (.long q0), .second, .val (.int p1), .val (.int p2), .val (.int p3), .val (.int p4), .val (.long bb), .second, .val (.long sp), .second, .val (.int 3), .val (.int (p3 &&& (3 : Int32))), .val (.ref b11), .val (.ref b13), .val (.long nw), .second, .unset, .unset, .unset, .unset, .unset, .unset]
    rw [show ls270 = ls271 from by rw [hls270, hls271, hnw]]
    show G T22 (mkF m 107 ls271 [])
    have tnw := own_B (3 : Int64) 3 (by decide) (by decide) (by decide) hbb1 hsp1 hnw
    have tnw1 := own_nw1 (by decide) (by decide) hbb1 hsp1 tnw
    refine step (fun t k => XS.aload X22.here hx rfl (hb hby at_107) (by rw [hls271]; rfl) rfl k) ?_
    show G T22 (mkF m 109 ls271 [(.ref b13)])
    refine step (fun t k => XS.aload X22.here hx rfl (hb hby at_109) (by rw [hls271]; rfl) rfl k) ?_
    show G T22 (mkF m 111 ls271 [(.ref b11), (.ref b13)])
    refine step (fun t k => XS.lload X22.here hx rfl (hb hby at_111) (by rw [hls271]; rfl) k) ?_
    show G T22 (mkF m 113 ls271 [(.long nw), (.ref b11), (.ref b13)])
    have f273 := (Exa.keep (Exa.keep (Exa.keep (Exa.keep (Exa.keep f15 K14q) K17q) K18q) K20q) K22q)
    have f274 := (Fld.keep (Fld.keep (Fld.keep (Fld.keep (Fld.keep (Fld.ext E13 Y11_2) K14q (ninS (Nat.ne_of_lt lt_b11_b13) nin0)) K17q (ninS (Nat.ne_of_lt lt_b11_b13) (ninS (Nat.ne_of_lt lt_b11_b14) nin0))) K18q (ninS (Nat.ne_of_lt lt_b11_b13) (ninS (Nat.ne_of_lt lt_b11_b14) nin0))) K20q (ninS (Nat.ne_of_lt lt_b11_b13) (ninS (Nat.ne_of_lt lt_b11_b14) nin0))) K22q (ninS (Nat.ne_of_lt lt_b11_b13) (ninS (Nat.ne_of_lt lt_b11_b14) nin0)))
    have f275 := (Fld.keep (Fld.keep (Fld.keep (Fld.keep (Fld.keep (Fld.ext E13 Y11_3) K14q (ninS (Nat.ne_of_lt lt_b11_b13) nin0)) K17q (ninS (Nat.ne_of_lt lt_b11_b13) (ninS (Nat.ne_of_lt lt_b11_b14) nin0))) K18q (ninS (Nat.ne_of_lt lt_b11_b13) (ninS (Nat.ne_of_lt lt_b11_b14) nin0))) K20q (ninS (Nat.ne_of_lt lt_b11_b13) (ninS (Nat.ne_of_lt lt_b11_b14) nin0))) K22q (ninS (Nat.ne_of_lt lt_b11_b13) (ninS (Nat.ne_of_lt lt_b11_b14) nin0)))
    have hK272 := (backOf (R := room_1) (p := p) (e := e) (below := below) (args := #[(.long q0), (.int p1), (.int p2), (.int p3), (.int p4)]) (len := 3) (W := 0) (rm_cnt_4_0_4_3 l Z a0 hw [] w_0 w_1 w_2 b13 b11 nw b14 kb_14 bb B1 B2 B3 (1 : Int64) T22.heap n0 (own_old_le O22) ST O22 Y22_0 ge_b13 Y22_1 ge_b14 Y22_2 Y22_3 Y22_4 f273 f274 f275 ((own_geB tnw1 tB0 hsp1.1 (by decide)) : ¬ ((nw - (1 : Int64)) < bb)) ((own_geB tnw1 tB1 hsp1.1 (by decide)) : ¬ ((nw - (1 : Int64)) < B1)) ((own_geB tnw1 tB2 hsp1.1 (by decide)) : ¬ ((nw - (1 : Int64)) < B2)) ((own_ltB tnw1 tB3 hsp1.1 (by decide)) : (nw - (1 : Int64)) < B3)) hZ (ww74 hw) (ww51 hw) (by decide) (by decide))
    obtain ⟨cq272, kq272, q272a, q272b, q272c⟩ := isOf hZ rfl Y22_0
    obtain ⟨_, _, ⟨T272, L272, k272, n272⟩, -, X272, ⟨Lc272, hQ272, l272, y272, z272⟩, st272⟩ := X22.virtualBack hx (y := y_13) (z := y_13) hown (mvT hZ (ww70 hw)) (mvT hZ (ww71 hw)) (notFace_of_selects (args := #[]) (mvT hZ (ww73 hw))) (mvT hZ (ww73 hw)) (mvT hZ (ww72 hw)) (by decide) hK272 q272a q272c (g := (mkF m 113 ls271 [(.long nw), (.ref b11), (.ref b13)])) rfl (by rw [hml, hls271]; rfl) (Steps.refl _) (argsL := [(.ref b11), (.long nw)]) (rest := []) (lenOf pd_9 rfl) rfl (by show 2 * 0 + _ ≤ _; exact Nat.le_of_eq rfl) (hb hby at_113) (fun _ _ => ⟨rfl, rfl, (by decide : 5 + 0 ≤ _), (by decide : 30 + 0 ≤ _)⟩)
    dsimp only [Pt.U, Pt.locs, Pt.cells, Pt.slots] at X272 l272 y272 z272 st272 hQ272
    subst l272 y272 z272
    obtain ⟨rfl, N272q, K272q, Y272_0, Y272_1, Y272_2, Y272_3⟩ := hQ272
    have N272 := Fr.app N22 N272q
    obtain ⟨lc272, X272, N272⟩ := own_gen X272 N272
    have O272 := O22.keep K272q (allS ge_b13 all0)
    have hk272 : _ ≤ T272.heap.size := Nat.le_trans hk22 K272q.1
    refine step (fun t k => st272.trans k) ?_
    show G T272 (mkF m 116 ls271 [(.int 1)])
    obtain ⟨ls276, hls276⟩  := own_sl #[.val (.long q0), .second, .val (.int p1), .val (.int p2), .val (.int p3), .val (.int p4), .val (.long bb), .second, .val (.long sp), .second, .val (.int 3), .val (.int (p3 &&& (3 : Int32))), .val (.ref b11), .val (.ref b13), .val (.long nw), .second, .val (.int 1), .unset, .unset, .unset, .unset, .unset]
    refine step (fun t k => XS.istore X272.here hx rfl (hb hby at_116) rfl (l' := ls276) (by rw [hls271, hls276]; rfl) k) ?_
    show G T272 (mkF m 118 ls276 [])
    rcases own_k4 p3 with hee | hee | hee | hee
    · skip
      obtain ⟨ls277, hls277⟩  := own_sl #[.val (.long q0), .second, .val (.int p1), .val (.int p2), .val (.int p3), .val (.int p4), .val (.long bb), .second, .val (.long sp), .second, .val (.int 3), .val (.int 0), .val (.ref b11), .val (.ref b13), .val (.long nw), .second, .val (.int 1), .unset, .unset, .unset, .unset, .unset]
      rw [show ls276 = ls277 from by rw [hls276, hls277, hee]]
      show G T272 (mkF m 118 ls277 [])
      refine step (fun t k => XS.iload X272.here hx rfl (hb hby at_118) (by rw [hls277]; rfl) k) ?_
      show G T272 (mkF m 120 ls277 [(.int 0)])
      refine step (fun t k => XS.iconst X272.here hx rfl (hb hby at_120) k) ?_
      show G T272 (mkF m 121 ls277 [(.int 1), (.int 0)])
      refine step (fun t k => XS.icmpYes X272.here hx rfl (pc0 := 121) (pc' := 138) rfl (hb hby at_121) rfl (tlt (by decide : (0 : Int32) < (1 : Int32))).1 (by decide) (by decide) k) ?_
      show G T272 (mkF m 138 ls277 [])
      refine step (fun t k => XS.iload X272.here hx rfl (hb hby at_138) (by rw [hls277]; rfl) k) ?_
      show G T272 (mkF m 140 ls277 [(.int 0)])
      refine step (fun t k => XS.iconst X272.here hx rfl (hb hby at_140) k) ?_
      show G T272 (mkF m 141 ls277 [(.int 2), (.int 0)])
      refine step (fun t k => XS.icmpYes X272.here hx rfl (pc0 := 141) (pc' := 158) rfl (hb hby at_141) rfl (tlt (by decide : (0 : Int32) < (2 : Int32))).1 (by decide) (by decide) k) ?_
      show G T272 (mkF m 158 ls277 [])
      refine step (fun t k => XS.iload X272.here hx rfl (hb hby at_158) (by rw [hls277]; rfl) k) ?_
      show G T272 (mkF m 160 ls277 [(.int 0)])
      refine step (fun t k => XS.iconst X272.here hx rfl (hb hby at_160) k) ?_
      show G T272 (mkF m 161 ls277 [(.int 3), (.int 0)])
      refine step (fun t k => XS.icmpYes X272.here hx rfl (pc0 := 161) (pc' := 178) rfl (hb hby at_161) rfl (tlt (by decide : (0 : Int32) < (3 : Int32))).1 (by decide) (by decide) k) ?_
      show G T272 (mkF m 178 ls277 [])
      refine step (fun t k => XS.iconst X272.here hx rfl (hb hby at_178) k) ?_
      show G T272 (mkF m 179 ls277 [(.int 4)])
      refine step (fun t k => XS.iload X272.here hx rfl (hb hby at_179) (by rw [hls277]; rfl) k) ?_
      show G T272 (mkF m 181 ls277 [(.int 3), (.int 4)])
      refine step (fun t k => XS.isub X272.here hx rfl (hb hby at_181) rfl k) ?_
      show G T272 (mkF m 182 ls277 [(.int ((4 : Int32) - (3 : Int32)))])
      rw [(by decide : ((4 : Int32) - (3 : Int32)) = (1 : Int32))]
      show G T272 (mkF m 182 ls277 [(.int 1)])
      refine step (fun t k => XS.iload X272.here hx rfl (hb hby at_182) (by rw [hls277]; rfl) k) ?_
      show G T272 (mkF m 184 ls277 [(.int 0), (.int 1)])
      refine step (fun t k => XS.iadd X272.here hx rfl (hb hby at_184) rfl k) ?_
      show G T272 (mkF m 185 ls277 [(.int ((1 : Int32) + (0 : Int32)))])
      rw [(by decide : ((1 : Int32) + (0 : Int32)) = (1 : Int32))]
      show G T272 (mkF m 185 ls277 [(.int 1)])
      obtain ⟨ls278, hls278⟩  := own_sl #[.val (.long q0), .second, .val (.int p1), .val (.int p2), .val (.int p3), .val (.int p4), .val (.long bb), .second, .val (.long sp), .second, .val (.int 3), .val (.int 0), .val (.ref b11), .val (.ref b13), .val (.long nw), .second, .val (.int 1), .val (.int 1), .unset, .unset, .unset, .unset]
      refine step (fun t k => XS.istore X272.here hx rfl (hb hby at_185) rfl (l' := ls278) (by rw [hls277, hls278]; rfl) k) ?_
      show G T272 (mkF m 187 ls278 [])
      refine step (fun t k => XS.aload X272.here hx rfl (hb hby at_187) (by rw [hls278]; rfl) rfl k) ?_
      show G T272 (mkF m 189 ls278 [(.ref b13)])
      refine step (fun t k => XS.aload X272.here hx rfl (hb hby at_189) (by rw [hls278]; rfl) rfl k) ?_
      show G T272 (mkF m 191 ls278 [(.ref b11), (.ref b13)])
      refine step (fun t k => XS.lload X272.here hx rfl (hb hby at_191) (by rw [hls278]; rfl) k) ?_
      show G T272 (mkF m 193 ls278 [(.long nw), (.ref b11), (.ref b13)])
      have f280 := (Arv.keep Y22_4 K272q (ninS (Nat.ne_of_gt lt_b13_b14) nin0))
      have f281 := (Exa.keep f273 K272q)
      have f282 := (Fld.keep f274 K272q (ninS (Nat.ne_of_lt lt_b11_b13) nin0))
      have f283 := (Fld.keep f275 K272q (ninS (Nat.ne_of_lt lt_b11_b13) nin0))
      have hK279 := (backOf (R := room_1) (p := p) (e := e) (below := below) (args := #[(.long q0), (.int p1), (.int p2), (.int p3), (.int p4)]) (len := 3) (W := 0) (rm_cnt0_4 l Z a0 hw [] w_0 w_1 w_2 b13 b11 nw b14 kb_14 bb B1 B2 B3 (3 : Int32) (1 : Int32) (1 : Int64) T272.heap n0 (own_old_le O272) ST O272 Y272_0 ge_b13 Y272_1 ge_b14 Y272_2 Y272_3 f280 ((by decide) : (0 : Int32) < (1 : Int32)) (by decide) f281 f282 f283 (show (nw - (1 : Int64)) < B3 from (own_ltB tnw1 tB3 hsp1.1 (by decide)))) hZ (ww74 hw) (ww51 hw) (by decide) (by decide))
      obtain ⟨cq279, kq279, q279a, q279b, q279c⟩ := isOf hZ rfl Y272_0
      obtain ⟨_, _, ⟨T279, L279, k279, n279⟩, -, X279, ⟨Lc279, hQ279, l279, y279, z279⟩, st279⟩ := X272.virtualBack hx (y := y_13) (z := y_13) hown (mvT hZ (ww70 hw)) (mvT hZ (ww71 hw)) (notFace_of_selects (args := #[]) (mvT hZ (ww73 hw))) (mvT hZ (ww73 hw)) (mvT hZ (ww72 hw)) (by decide) hK279 q279a q279c (g := (mkF m 193 ls278 [(.long nw), (.ref b11), (.ref b13)])) rfl (by rw [hml, hls278]; rfl) (Steps.refl _) (argsL := [(.ref b11), (.long nw)]) (rest := []) (lenOf pd_9 rfl) rfl (by show 2 * 0 + _ ≤ _; exact Nat.le_of_eq rfl) (hb hby at_193) (fun _ _ => ⟨rfl, rfl, (by decide : 5 + 0 ≤ _), (by decide : 30 + 0 ≤ _)⟩)
      dsimp only [Pt.U, Pt.locs, Pt.cells, Pt.slots] at X279 l279 y279 z279 st279 hQ279
      subst l279 y279 z279
      obtain ⟨rfl, N279q, K279q, Y279_0, Y279_1, Y279_2, Y279_3⟩ := hQ279
      have N279 := Fr.app N272 N279q
      obtain ⟨lc279, X279, N279⟩ := own_gen X279 N279
      have O279 := O272.keep K279q (allS ge_b13 all0)
      have hk279 : _ ≤ T279.heap.size := Nat.le_trans hk272 K279q.1
      refine step (fun t k => st279.trans k) ?_
      show G T279 (mkF m 196 ls278 [(.int 1)])
      obtain ⟨ls284, hls284⟩  := own_sl #[.val (.long q0), .second, .val (.int p1), .val (.int p2), .val (.int p3), .val (.int p4), .val (.long bb), .second, .val (.long sp), .second, .val (.int 3), .val (.int 0), .val (.ref b11), .val (.ref b13), .val (.long nw), .second, .val (.int 1), .val (.int 1), .val (.int 1), .unset, .unset, .unset]
      refine step (fun t k => XS.istore X279.here hx rfl (hb hby at_196) rfl (l' := ls284) (by rw [hls278, hls284]; rfl) k) ?_
      show G T279 (mkF m 198 ls284 [])
      refine step (fun t k => XS.iload X279.here hx rfl (hb hby at_198) (by rw [hls284]; rfl) k) ?_
      show G T279 (mkF m 200 ls284 [(.int p4)])
      have q285 := X279.ldcInt hx hown (mvT hZ (ww101 hw)) (g := (mkF m 200 ls284 [(.int p4)])) rfl (hb hby at_200)
      refine step q285 ?_
      show G T279 (mkF m 202 ls284 [(.int 2147483647), (.int p4)])
      refine step (fun t k => XS.iand X279.here hx rfl (hb hby at_202) rfl k) ?_
      show G T279 (mkF m 203 ls284 [(.int (p4 &&& (2147483647 : Int32)))])
      refine step (fun t k => XS.iload X279.here hx rfl (hb hby at_203) (by rw [hls284]; rfl) k) ?_
      show G T279 (mkF m 205 ls284 [(.int 1), (.int (p4 &&& (2147483647 : Int32)))])
      refine step (fun t k => iremM X279 hx rfl (hb hby at_205) rfl (by decide) k) ?_
      show G T279 (mkF m 206 ls284 [(.int ((p4 &&& (2147483647 : Int32)) % (1 : Int32)))])
      obtain ⟨ls286, hls286⟩  := own_sl #[.val (.long q0), .second, .val (.int p1), .val (.int p2), .val (.int p3), .val (.int p4), .val (.long bb), .second, .val (.long sp), .second, .val (.int 3), .val (.int 0), .val (.ref b11), .val (.ref b13), .val (.long nw), .second, .val (.int 1), .val (.int 1), .val (.int 1), .val (.int ((p4 &&& (2147483647 : Int32)) % (1 : Int32))), .unset, .unset]
      refine step (fun t k => XS.istore X279.here hx rfl (hb hby at_206) rfl (l' := ls286) (by rw [hls284, hls286]; rfl) k) ?_
      show G T279 (mkF m 208 ls286 [])
      obtain ⟨jj, hjj⟩ : ∃ z : Int32, z = ((p4 &&& (2147483647 : Int32)) % (1 : Int32)) := ⟨_, rfl⟩
      obtain ⟨ls287, hls287⟩  := own_sl #[.val (.long q0), .second, .val (.int p1), .val (.int p2), .val (.int p3), .val (.int p4), .val (.long bb), .second, .val (.long sp), .second, .val (.int 3), .val (.int 0), .val (.ref b11), .val (.ref b13), .val (.long nw), .second, .val (.int 1), .val (.int 1), .val (.int 1), .val (.int jj), .unset, .unset]
      rw [show ls286 = ls287 from by rw [hls286, hls287, hjj]]
      show G T279 (mkF m 208 ls287 [])
      have hj := own_j1 p4
      rw [← hjj] at hj
      refine step (fun t k => XS.aload X279.here hx rfl (hb hby at_208) (by rw [hls287]; rfl) rfl k) ?_
      show G T279 (mkF m 210 ls287 [(.ref b13)])
      refine step (fun t k => XS.iload X279.here hx rfl (hb hby at_210) (by rw [hls287]; rfl) k) ?_
      show G T279 (mkF m 212 ls287 [(.int jj), (.ref b13)])
      have f289 := (Arv.keep f280 K279q (ninS (Nat.ne_of_gt lt_b13_b14) nin0))
      have hK288 := (backOf (R := room_1) (p := p) (e := e) (below := below) (args := #[(.long q0), (.int p1), (.int p2), (.int p3), (.int p4)]) (len := 3) (W := 0) (rm_get4 l Z a0 hw [] w_0 w_1 w_2 b13 jj b14 kb_14 bb B1 B2 B3 (3 : Int32) T279.heap n0 (own_old_le O279) ST O279 Y279_1 Y279_2 f289 (by rw [hj]; decide)) hZ (ww106 hw) (ww51 hw) (by decide) (by decide))
      obtain ⟨cq288, kq288, q288a, q288b, q288c⟩ := isOf hZ rfl Y279_0
      obtain ⟨_, _, ⟨T288, L288, k288, n288⟩, -, X288, ⟨Lc288, hQ288, l288, y288, z288⟩, st288⟩ := X279.virtualBack hx (y := y_14) (z := y_14) hown (mvT hZ (ww102 hw)) (mvT hZ (ww103 hw)) (notFace_of_selects (args := #[]) (mvT hZ (ww105 hw))) (mvT hZ (ww105 hw)) (mvT hZ (ww104 hw)) (by decide) hK288 q288a q288c (g := (mkF m 212 ls287 [(.int jj), (.ref b13)])) rfl (by rw [hml, hls287]; rfl) (Steps.refl _) (argsL := [(.int jj)]) (rest := []) (lenOf pd_10 rfl) rfl (by show 2 * 0 + _ ≤ _; exact Nat.le_of_eq rfl) (hb hby at_212) (fun _ _ => ⟨rfl, rfl, (by decide : 5 + 0 ≤ _), (by decide : 30 + 0 ≤ _)⟩)
      dsimp only [Pt.U, Pt.locs, Pt.cells, Pt.slots] at X288 l288 y288 z288 st288 hQ288
      subst l288 y288 z288
      obtain ⟨rfl, N288q, e288⟩ := hQ288
      have N288 := Fr.app N279 N288q
      obtain ⟨lc288, X288, N288⟩ := own_gen X288 N288
      refine step (fun t k => st288.trans k) ?_
      show G T288 (mkF m 215 ls287 [(.long (f_get4 w_0 w_1 w_2 b13 jj b14 kb_14 bb B1 B2 B3 (3 : Int32)))])
      have r290 : (f_get4 w_0 w_1 w_2 b13 jj b14 kb_14 bb B1 B2 B3 (3 : Int32)) = (own_at4 bb B1 B2 B3 (((3 : Int32) + jj) % (4 : Int32))) := rfl
      rw [r290]
      show G T288 (mkF m 215 ls287 [(.long (own_at4 bb B1 B2 B3 (((3 : Int32) + jj) % (4 : Int32))))])
      obtain ⟨ls291, hls291⟩  := own_sl #[.val (.long q0), .second, .val (.int p1), .val (.int p2), .val (.int p3), .val (.int p4), .val (.long bb), .second, .val (.long sp), .second, .val (.int 3), .val (.int 0), .val (.ref b11), .val (.ref b13), .val (.long nw), .second, .val (.int 1), .val (.int 1), .val (.int 1), .val (.int jj), .val (.long (own_at4 bb B1 B2 B3 (((3 : Int32) + jj) % (4 : Int32)))), .second]
      refine step (fun t k => XS.lstore X288.here hx rfl (hb hby at_215) rfl (l' := ls291) (by rw [hls287, hls291]; rfl) k) ?_
      show G T288 (mkF m 217 ls291 [])
      refine step (fun t k => XS.iload X288.here hx rfl (hb hby at_217) (by rw [hls291]; rfl) k) ?_
      show G T288 (mkF m 219 ls291 [(.int 1)])
      refine step (fun t k => XS.iconst X288.here hx rfl (hb hby at_219) k) ?_
      show G T288 (mkF m 220 ls291 [(.int 4), (.int 1)])
      refine step (fun t k => XS.iload X288.here hx rfl (hb hby at_220) (by rw [hls291]; rfl) k) ?_
      show G T288 (mkF m 222 ls291 [(.int 3), (.int 4), (.int 1)])
      refine step (fun t k => XS.isub X288.here hx rfl (hb hby at_222) rfl k) ?_
      show G T288 (mkF m 223 ls291 [(.int ((4 : Int32) - (3 : Int32))), (.int 1)])
      rw [(by decide : ((4 : Int32) - (3 : Int32)) = (1 : Int32))]
      show G T288 (mkF m 223 ls291 [(.int 1), (.int 1)])
      refine step (fun t k => XS.icmpNo X288.here hx rfl (hb hby at_223) rfl (teq (by decide : (1 : Int32) = (1 : Int32))).2 k) ?_
      show G T288 (mkF m 226 ls291 [])
      refine step (fun t k => XS.iload X288.here hx rfl (hb hby at_226) (by rw [hls291]; rfl) k) ?_
      show G T288 (mkF m 228 ls291 [(.int 1)])
      refine step (fun t k => XS.iload X288.here hx rfl (hb hby at_228) (by rw [hls291]; rfl) k) ?_
      show G T288 (mkF m 230 ls291 [(.int 1), (.int 1)])
      refine step (fun t k => XS.icmpNo X288.here hx rfl (hb hby at_230) rfl (teq (by decide : (1 : Int32) = (1 : Int32))).2 k) ?_
      show G T288 (mkF m 233 ls291 [])
      refine step (fun t k => XS.lload X288.here hx rfl (hb hby at_233) (by rw [hls291]; rfl) k) ?_
      show G T288 (mkF m 235 ls291 [(.long (own_at4 bb B1 B2 B3 (((3 : Int32) + jj) % (4 : Int32))))])
      refine step (fun t k => XS.lload X288.here hx rfl (hb hby at_235) (by rw [hls291]; rfl) k) ?_
      show G T288 (mkF m 237 ls291 [(.long bb), (.long (own_at4 bb B1 B2 B3 (((3 : Int32) + jj) % (4 : Int32))))])
      refine step (fun t k => XS.iload X288.here hx rfl (hb hby at_237) (by rw [hls291]; rfl) k) ?_
      show G T288 (mkF m 239 ls291 [(.int 3), (.long bb), (.long (own_at4 bb B1 B2 B3 (((3 : Int32) + jj) % (4 : Int32))))])
      refine step (fun t k => XS.iload X288.here hx rfl (hb hby at_239) (by rw [hls291]; rfl) k) ?_
      show G T288 (mkF m 241 ls291 [(.int jj), (.int 3), (.long bb), (.long (own_at4 bb B1 B2 B3 (((3 : Int32) + jj) % (4 : Int32))))])
      refine step (fun t k => XS.iadd X288.here hx rfl (hb hby at_241) rfl k) ?_
      show G T288 (mkF m 242 ls291 [(.int ((3 : Int32) + jj)), (.long bb), (.long (own_at4 bb B1 B2 B3 (((3 : Int32) + jj) % (4 : Int32))))])
      refine step (fun t k => XS.i2l X288.here hx rfl (hb hby at_242) rfl k) ?_
      show G T288 (mkF m 243 ls291 [(.long (((3 : Int32) + jj).toInt64)), (.long bb), (.long (own_at4 bb B1 B2 B3 (((3 : Int32) + jj) % (4 : Int32))))])
      refine step (fun t k => XS.lload X288.here hx rfl (hb hby at_243) (by rw [hls291]; rfl) k) ?_
      show G T288 (mkF m 245 ls291 [(.long sp), (.long (((3 : Int32) + jj).toInt64)), (.long bb), (.long (own_at4 bb B1 B2 B3 (((3 : Int32) + jj) % (4 : Int32))))])
      refine step (fun t k => XS.lmul X288.here hx rfl (hb hby at_245) rfl k) ?_
      show G T288 (mkF m 246 ls291 [(.long ((((3 : Int32) + jj).toInt64) * sp)), (.long bb), (.long (own_at4 bb B1 B2 B3 (((3 : Int32) + jj) % (4 : Int32))))])
      refine step (fun t k => XS.ladd X288.here hx rfl (hb hby at_246) rfl k) ?_
      show G T288 (mkF m 247 ls291 [(.long (bb + ((((3 : Int32) + jj).toInt64) * sp))), (.long (own_at4 bb B1 B2 B3 (((3 : Int32) + jj) % (4 : Int32))))])
      refine step (fun t k => XS.lcmp X288.here hx rfl (hb hby at_247) rfl k) ?_
      show G T288 (mkF m 248 ls291 [(.int (lcmpW (own_at4 bb B1 B2 B3 (((3 : Int32) + jj) % (4 : Int32))) (bb + ((((3 : Int32) + jj).toInt64) * sp))))])
      refine step (fun t k => XS.ifNo X288.here hx rfl (hb hby at_248) rfl ((if0 _ _).trans (teq ((lw_eq _ _).mpr (by rw [hj]; exact hq3))).2) k) ?_
      show G T288 (mkF m 251 ls291 [])
      refine step (fun t k => XS.iconst X288.here hx rfl (hb hby at_251) k) ?_
      show G T288 (mkF m 252 ls291 [(.int 1)])
      refine step (fun t k => XS.goto X288.here hx rfl (pc0 := 252) (pc' := 256) rfl (hb hby at_252) (by decide) (by decide) k) ?_
      show G T288 (mkF m 256 ls291 [(.int 1)])
      exact ret (v := some (.int 1)) X288 hS hk279 (fun h => by rw [Bd.returns] at h; cases h) (fun fs hr => retN X288 hx (t := .boolean) Bd.returns (by simp) (hb hby at_256) hr) e288 ⟨rfl, N288⟩ (by decide) (by decide)
    · skip
      obtain ⟨ls292, hls292⟩  := own_sl #[.val (.long q0), .second, .val (.int p1), .val (.int p2), .val (.int p3), .val (.int p4), .val (.long bb), .second, .val (.long sp), .second, .val (.int 3), .val (.int 1), .val (.ref b11), .val (.ref b13), .val (.long nw), .second, .val (.int 1), .unset, .unset, .unset, .unset, .unset]
      rw [show ls276 = ls292 from by rw [hls276, hls292, hee]]
      show G T272 (mkF m 118 ls292 [])
      refine step (fun t k => XS.iload X272.here hx rfl (hb hby at_118) (by rw [hls292]; rfl) k) ?_
      show G T272 (mkF m 120 ls292 [(.int 1)])
      refine step (fun t k => XS.iconst X272.here hx rfl (hb hby at_120) k) ?_
      show G T272 (mkF m 121 ls292 [(.int 1), (.int 1)])
      refine step (fun t k => XS.icmpNo X272.here hx rfl (hb hby at_121) rfl (flt (by decide : ¬ ((1 : Int32) < (1 : Int32)))).1 k) ?_
      show G T272 (mkF m 124 ls292 [])
      refine step (fun t k => XS.aload X272.here hx rfl (hb hby at_124) (by rw [hls292]; rfl) rfl k) ?_
      show G T272 (mkF m 126 ls292 [(.ref b13)])
      refine step (fun t k => XS.lload X272.here hx rfl (hb hby at_126) (by rw [hls292]; rfl) k) ?_
      show G T272 (mkF m 128 ls292 [(.long bb), (.ref b13)])
      have q293 := X272.ldc2Long hx hown (mvT hZ (ww107 hw)) (g := (mkF m 128 ls292 [(.long bb), (.ref b13)])) rfl (hb hby at_128)
      refine step q293 ?_
      show G T272 (mkF m 131 ls292 [(.long 4), (.long bb), (.ref b13)])
      refine step (fun t k => XS.lload X272.here hx rfl (hb hby at_131) (by rw [hls292]; rfl) k) ?_
      show G T272 (mkF m 133 ls292 [(.long sp), (.long 4), (.long bb), (.ref b13)])
      refine step (fun t k => XS.lmul X272.here hx rfl (hb hby at_133) rfl k) ?_
      show G T272 (mkF m 134 ls292 [(.long ((4 : Int64) * sp)), (.long bb), (.ref b13)])
      refine step (fun t k => XS.ladd X272.here hx rfl (hb hby at_134) rfl k) ?_
      show G T272 (mkF m 135 ls292 [(.long (bb + ((4 : Int64) * sp))), (.ref b13)])
      obtain ⟨B4, hB4⟩ : ∃ z : Int64, z = (bb + ((4 : Int64) * sp)) := ⟨_, rfl⟩
      rw [← hB4]
      show G T272 (mkF m 135 ls292 [(.long B4), (.ref b13)])
      have tB4 := own_B (4 : Int64) 4 (by decide) (by decide) (by decide) hbb1 hsp1 hB4
      have hq4 := hB4
      have f295 := (Arv.keep Y22_4 K272q (ninS (Nat.ne_of_gt lt_b13_b14) nin0))
      have hK294 := (backOf (R := room_1) (p := p) (e := e) (below := below) (args := #[(.long q0), (.int p1), (.int p2), (.int p3), (.int p4)]) (len := 3) (W := 0) (rm_add_4_0 l Z a0 hw [] w_0 w_1 w_2 b13 B4 b14 kb_14 bb B1 B2 B3 (3 : Int32) (1 : Int32) (2 : Int32) T272.heap n0 (own_old_le O272) ST O272 Y272_0 ge_b13 Y272_1 ge_b14 Y272_2 Y272_3 f295 (by decide : ¬ ((1 : Int32) = (4 : Int32))) (by decide : ((1 : Int32) + (1 : Int32)) = (2 : Int32)) (by decide : (((3 : Int32) + (1 : Int32)) % (4 : Int32)) = (0 : Int32))) hZ (ww63 hw) (ww51 hw) (by decide) (by decide))
      obtain ⟨cq294, kq294, q294a, q294b, q294c⟩ := isOf hZ rfl Y272_0
      obtain ⟨_, _, ⟨T294, L294, k294, n294⟩, -, X294, ⟨Lc294, hQ294, l294, y294, z294⟩, st294⟩ := X272.virtualBack hx (y := y_10) (z := y_10) hown (mvT hZ (ww59 hw)) (mvT hZ (ww60 hw)) (notFace_of_selects (args := #[]) (mvT hZ (ww62 hw))) (mvT hZ (ww62 hw)) (mvT hZ (ww61 hw)) (by decide) hK294 q294a q294c (g := (mkF m 135 ls292 [(.long B4), (.ref b13)])) rfl (by rw [hml, hls292]; rfl) (Steps.refl _) (argsL := [(.long B4)]) (rest := []) (lenOf pd_5 rfl) rfl (by show 2 * 0 + _ ≤ _; exact Nat.le_of_eq rfl) (hb hby at_135) (fun _ _ => ⟨rfl, rfl, (by decide : 5 + 0 ≤ _), (by decide : 30 + 0 ≤ _)⟩)
      dsimp only [Pt.U, Pt.locs, Pt.cells, Pt.slots] at X294 l294 y294 z294 st294 hQ294
      subst l294 y294 z294
      obtain ⟨rfl, N294q, K294q, Y294_0, Y294_1, Y294_2, Y294_3, Y294_4⟩ := hQ294
      have N294 := Fr.app N272 N294q
      obtain ⟨lc294, X294, N294⟩ := own_gen X294 N294
      have O294 := O272.keep K294q (allS ge_b13 (allS ge_b14 all0))
      have hk294 : _ ≤ T294.heap.size := Nat.le_trans hk272 K294q.1
      refine step (fun t k => st294.trans k) ?_
      show G T294 (mkF m 138 ls292 [])
      refine step (fun t k => XS.iload X294.here hx rfl (hb hby at_138) (by rw [hls292]; rfl) k) ?_
      show G T294 (mkF m 140 ls292 [(.int 1)])
      refine step (fun t k => XS.iconst X294.here hx rfl (hb hby at_140) k) ?_
      show G T294 (mkF m 141 ls292 [(.int 2), (.int 1)])
      refine step (fun t k => XS.icmpYes X294.here hx rfl (pc0 := 141) (pc' := 158) rfl (hb hby at_141) rfl (tlt (by decide : (1 : Int32) < (2 : Int32))).1 (by decide) (by decide) k) ?_
      show G T294 (mkF m 158 ls292 [])
      refine step (fun t k => XS.iload X294.here hx rfl (hb hby at_158) (by rw [hls292]; rfl) k) ?_
      show G T294 (mkF m 160 ls292 [(.int 1)])
      refine step (fun t k => XS.iconst X294.here hx rfl (hb hby at_160) k) ?_
      show G T294 (mkF m 161 ls292 [(.int 3), (.int 1)])
      refine step (fun t k => XS.icmpYes X294.here hx rfl (pc0 := 161) (pc' := 178) rfl (hb hby at_161) rfl (tlt (by decide : (1 : Int32) < (3 : Int32))).1 (by decide) (by decide) k) ?_
      show G T294 (mkF m 178 ls292 [])
      refine step (fun t k => XS.iconst X294.here hx rfl (hb hby at_178) k) ?_
      show G T294 (mkF m 179 ls292 [(.int 4)])
      refine step (fun t k => XS.iload X294.here hx rfl (hb hby at_179) (by rw [hls292]; rfl) k) ?_
      show G T294 (mkF m 181 ls292 [(.int 3), (.int 4)])
      refine step (fun t k => XS.isub X294.here hx rfl (hb hby at_181) rfl k) ?_
      show G T294 (mkF m 182 ls292 [(.int ((4 : Int32) - (3 : Int32)))])
      rw [(by decide : ((4 : Int32) - (3 : Int32)) = (1 : Int32))]
      show G T294 (mkF m 182 ls292 [(.int 1)])
      refine step (fun t k => XS.iload X294.here hx rfl (hb hby at_182) (by rw [hls292]; rfl) k) ?_
      show G T294 (mkF m 184 ls292 [(.int 1), (.int 1)])
      refine step (fun t k => XS.iadd X294.here hx rfl (hb hby at_184) rfl k) ?_
      show G T294 (mkF m 185 ls292 [(.int ((1 : Int32) + (1 : Int32)))])
      rw [(by decide : ((1 : Int32) + (1 : Int32)) = (2 : Int32))]
      show G T294 (mkF m 185 ls292 [(.int 2)])
      obtain ⟨ls296, hls296⟩  := own_sl #[.val (.long q0), .second, .val (.int p1), .val (.int p2), .val (.int p3), .val (.int p4), .val (.long bb), .second, .val (.long sp), .second, .val (.int 3), .val (.int 1), .val (.ref b11), .val (.ref b13), .val (.long nw), .second, .val (.int 1), .val (.int 2), .unset, .unset, .unset, .unset]
      refine step (fun t k => XS.istore X294.here hx rfl (hb hby at_185) rfl (l' := ls296) (by rw [hls292, hls296]; rfl) k) ?_
      show G T294 (mkF m 187 ls296 [])
      refine step (fun t k => XS.aload X294.here hx rfl (hb hby at_187) (by rw [hls296]; rfl) rfl k) ?_
      show G T294 (mkF m 189 ls296 [(.ref b13)])
      refine step (fun t k => XS.aload X294.here hx rfl (hb hby at_189) (by rw [hls296]; rfl) rfl k) ?_
      show G T294 (mkF m 191 ls296 [(.ref b11), (.ref b13)])
      refine step (fun t k => XS.lload X294.here hx rfl (hb hby at_191) (by rw [hls296]; rfl) k) ?_
      show G T294 (mkF m 193 ls296 [(.long nw), (.ref b11), (.ref b13)])
      have f298 := (Exa.keep (Exa.keep f273 K272q) K294q)
      have f299 := (Fld.keep (Fld.keep f274 K272q (ninS (Nat.ne_of_lt lt_b11_b13) nin0)) K294q (ninS (Nat.ne_of_lt lt_b11_b13) (ninS (Nat.ne_of_lt lt_b11_b14) nin0)))
      have f300 := (Fld.keep (Fld.keep f275 K272q (ninS (Nat.ne_of_lt lt_b11_b13) nin0)) K294q (ninS (Nat.ne_of_lt lt_b11_b13) (ninS (Nat.ne_of_lt lt_b11_b14) nin0)))
      have hK297 := (backOf (R := room_1) (p := p) (e := e) (below := below) (args := #[(.long q0), (.int p1), (.int p2), (.int p3), (.int p4)]) (len := 3) (W := 0) (rm_cnt0_4 l Z a0 hw [] w_0 w_1 w_2 b13 b11 nw b14 kb_14 B4 B1 B2 B3 (3 : Int32) (2 : Int32) (1 : Int64) T294.heap n0 (own_old_le O294) ST O294 Y294_0 ge_b13 Y294_1 ge_b14 Y294_2 Y294_3 Y294_4 ((by decide) : (0 : Int32) < (2 : Int32)) (by decide) f298 f299 f300 (show (nw - (1 : Int64)) < B3 from (own_ltB tnw1 tB3 hsp1.1 (by decide)))) hZ (ww74 hw) (ww51 hw) (by decide) (by decide))
      obtain ⟨cq297, kq297, q297a, q297b, q297c⟩ := isOf hZ rfl Y294_0
      obtain ⟨_, _, ⟨T297, L297, k297, n297⟩, -, X297, ⟨Lc297, hQ297, l297, y297, z297⟩, st297⟩ := X294.virtualBack hx (y := y_13) (z := y_13) hown (mvT hZ (ww70 hw)) (mvT hZ (ww71 hw)) (notFace_of_selects (args := #[]) (mvT hZ (ww73 hw))) (mvT hZ (ww73 hw)) (mvT hZ (ww72 hw)) (by decide) hK297 q297a q297c (g := (mkF m 193 ls296 [(.long nw), (.ref b11), (.ref b13)])) rfl (by rw [hml, hls296]; rfl) (Steps.refl _) (argsL := [(.ref b11), (.long nw)]) (rest := []) (lenOf pd_9 rfl) rfl (by show 2 * 0 + _ ≤ _; exact Nat.le_of_eq rfl) (hb hby at_193) (fun _ _ => ⟨rfl, rfl, (by decide : 5 + 0 ≤ _), (by decide : 30 + 0 ≤ _)⟩)
      dsimp only [Pt.U, Pt.locs, Pt.cells, Pt.slots] at X297 l297 y297 z297 st297 hQ297
      subst l297 y297 z297
      obtain ⟨rfl, N297q, K297q, Y297_0, Y297_1, Y297_2, Y297_3⟩ := hQ297
      have N297 := Fr.app N294 N297q
      obtain ⟨lc297, X297, N297⟩ := own_gen X297 N297
      have O297 := O294.keep K297q (allS ge_b13 all0)
      have hk297 : _ ≤ T297.heap.size := Nat.le_trans hk294 K297q.1
      refine step (fun t k => st297.trans k) ?_
      show G T297 (mkF m 196 ls296 [(.int 2)])
      obtain ⟨ls301, hls301⟩  := own_sl #[.val (.long q0), .second, .val (.int p1), .val (.int p2), .val (.int p3), .val (.int p4), .val (.long bb), .second, .val (.long sp), .second, .val (.int 3), .val (.int 1), .val (.ref b11), .val (.ref b13), .val (.long nw), .second, .val (.int 1), .val (.int 2), .val (.int 2), .unset, .unset, .unset]
      refine step (fun t k => XS.istore X297.here hx rfl (hb hby at_196) rfl (l' := ls301) (by rw [hls296, hls301]; rfl) k) ?_
      show G T297 (mkF m 198 ls301 [])
      refine step (fun t k => XS.iload X297.here hx rfl (hb hby at_198) (by rw [hls301]; rfl) k) ?_
      show G T297 (mkF m 200 ls301 [(.int p4)])
      have q302 := X297.ldcInt hx hown (mvT hZ (ww101 hw)) (g := (mkF m 200 ls301 [(.int p4)])) rfl (hb hby at_200)
      refine step q302 ?_
      show G T297 (mkF m 202 ls301 [(.int 2147483647), (.int p4)])
      refine step (fun t k => XS.iand X297.here hx rfl (hb hby at_202) rfl k) ?_
      show G T297 (mkF m 203 ls301 [(.int (p4 &&& (2147483647 : Int32)))])
      refine step (fun t k => XS.iload X297.here hx rfl (hb hby at_203) (by rw [hls301]; rfl) k) ?_
      show G T297 (mkF m 205 ls301 [(.int 2), (.int (p4 &&& (2147483647 : Int32)))])
      refine step (fun t k => iremM X297 hx rfl (hb hby at_205) rfl (by decide) k) ?_
      show G T297 (mkF m 206 ls301 [(.int ((p4 &&& (2147483647 : Int32)) % (2 : Int32)))])
      obtain ⟨ls303, hls303⟩  := own_sl #[.val (.long q0), .second, .val (.int p1), .val (.int p2), .val (.int p3), .val (.int p4), .val (.long bb), .second, .val (.long sp), .second, .val (.int 3), .val (.int 1), .val (.ref b11), .val (.ref b13), .val (.long nw), .second, .val (.int 1), .val (.int 2), .val (.int 2), .val (.int ((p4 &&& (2147483647 : Int32)) % (2 : Int32))), .unset, .unset]
      refine step (fun t k => XS.istore X297.here hx rfl (hb hby at_206) rfl (l' := ls303) (by rw [hls301, hls303]; rfl) k) ?_
      show G T297 (mkF m 208 ls303 [])
      obtain ⟨jj, hjj⟩ : ∃ z : Int32, z = ((p4 &&& (2147483647 : Int32)) % (2 : Int32)) := ⟨_, rfl⟩
      obtain ⟨ls304, hls304⟩  := own_sl #[.val (.long q0), .second, .val (.int p1), .val (.int p2), .val (.int p3), .val (.int p4), .val (.long bb), .second, .val (.long sp), .second, .val (.int 3), .val (.int 1), .val (.ref b11), .val (.ref b13), .val (.long nw), .second, .val (.int 1), .val (.int 2), .val (.int 2), .val (.int jj), .unset, .unset]
      rw [show ls303 = ls304 from by rw [hls303, hls304, hjj]]
      show G T297 (mkF m 208 ls304 [])
      have hj := own_j2 p4
      rw [← hjj] at hj
      refine step (fun t k => XS.aload X297.here hx rfl (hb hby at_208) (by rw [hls304]; rfl) rfl k) ?_
      show G T297 (mkF m 210 ls304 [(.ref b13)])
      refine step (fun t k => XS.iload X297.here hx rfl (hb hby at_210) (by rw [hls304]; rfl) k) ?_
      show G T297 (mkF m 212 ls304 [(.int jj), (.ref b13)])
      have f306 := (Arv.keep Y294_4 K297q (ninS (Nat.ne_of_gt lt_b13_b14) nin0))
      have hK305 := (backOf (R := room_1) (p := p) (e := e) (below := below) (args := #[(.long q0), (.int p1), (.int p2), (.int p3), (.int p4)]) (len := 3) (W := 0) (rm_get4 l Z a0 hw [] w_0 w_1 w_2 b13 jj b14 kb_14 B4 B1 B2 B3 (3 : Int32) T297.heap n0 (own_old_le O297) ST O297 Y297_1 Y297_2 f306 (by rcases hj with h | h <;> (rw [h]; decide))) hZ (ww106 hw) (ww51 hw) (by decide) (by decide))
      obtain ⟨cq305, kq305, q305a, q305b, q305c⟩ := isOf hZ rfl Y297_0
      obtain ⟨_, _, ⟨T305, L305, k305, n305⟩, -, X305, ⟨Lc305, hQ305, l305, y305, z305⟩, st305⟩ := X297.virtualBack hx (y := y_14) (z := y_14) hown (mvT hZ (ww102 hw)) (mvT hZ (ww103 hw)) (notFace_of_selects (args := #[]) (mvT hZ (ww105 hw))) (mvT hZ (ww105 hw)) (mvT hZ (ww104 hw)) (by decide) hK305 q305a q305c (g := (mkF m 212 ls304 [(.int jj), (.ref b13)])) rfl (by rw [hml, hls304]; rfl) (Steps.refl _) (argsL := [(.int jj)]) (rest := []) (lenOf pd_10 rfl) rfl (by show 2 * 0 + _ ≤ _; exact Nat.le_of_eq rfl) (hb hby at_212) (fun _ _ => ⟨rfl, rfl, (by decide : 5 + 0 ≤ _), (by decide : 30 + 0 ≤ _)⟩)
      dsimp only [Pt.U, Pt.locs, Pt.cells, Pt.slots] at X305 l305 y305 z305 st305 hQ305
      subst l305 y305 z305
      obtain ⟨rfl, N305q, e305⟩ := hQ305
      have N305 := Fr.app N297 N305q
      obtain ⟨lc305, X305, N305⟩ := own_gen X305 N305
      refine step (fun t k => st305.trans k) ?_
      show G T305 (mkF m 215 ls304 [(.long (f_get4 w_0 w_1 w_2 b13 jj b14 kb_14 B4 B1 B2 B3 (3 : Int32)))])
      have r307 : (f_get4 w_0 w_1 w_2 b13 jj b14 kb_14 B4 B1 B2 B3 (3 : Int32)) = (own_at4 B4 B1 B2 B3 (((3 : Int32) + jj) % (4 : Int32))) := rfl
      rw [r307]
      show G T305 (mkF m 215 ls304 [(.long (own_at4 B4 B1 B2 B3 (((3 : Int32) + jj) % (4 : Int32))))])
      obtain ⟨ls308, hls308⟩  := own_sl #[.val (.long q0), .second, .val (.int p1), .val (.int p2), .val (.int p3), .val (.int p4), .val (.long bb), .second, .val (.long sp), .second, .val (.int 3), .val (.int 1), .val (.ref b11), .val (.ref b13), .val (.long nw), .second, .val (.int 1), .val (.int 2), .val (.int 2), .val (.int jj), .val (.long (own_at4 B4 B1 B2 B3 (((3 : Int32) + jj) % (4 : Int32)))), .second]
      refine step (fun t k => XS.lstore X305.here hx rfl (hb hby at_215) rfl (l' := ls308) (by rw [hls304, hls308]; rfl) k) ?_
      show G T305 (mkF m 217 ls308 [])
      refine step (fun t k => XS.iload X305.here hx rfl (hb hby at_217) (by rw [hls308]; rfl) k) ?_
      show G T305 (mkF m 219 ls308 [(.int 1)])
      refine step (fun t k => XS.iconst X305.here hx rfl (hb hby at_219) k) ?_
      show G T305 (mkF m 220 ls308 [(.int 4), (.int 1)])
      refine step (fun t k => XS.iload X305.here hx rfl (hb hby at_220) (by rw [hls308]; rfl) k) ?_
      show G T305 (mkF m 222 ls308 [(.int 3), (.int 4), (.int 1)])
      refine step (fun t k => XS.isub X305.here hx rfl (hb hby at_222) rfl k) ?_
      show G T305 (mkF m 223 ls308 [(.int ((4 : Int32) - (3 : Int32))), (.int 1)])
      rw [(by decide : ((4 : Int32) - (3 : Int32)) = (1 : Int32))]
      show G T305 (mkF m 223 ls308 [(.int 1), (.int 1)])
      refine step (fun t k => XS.icmpNo X305.here hx rfl (hb hby at_223) rfl (teq (by decide : (1 : Int32) = (1 : Int32))).2 k) ?_
      show G T305 (mkF m 226 ls308 [])
      refine step (fun t k => XS.iload X305.here hx rfl (hb hby at_226) (by rw [hls308]; rfl) k) ?_
      show G T305 (mkF m 228 ls308 [(.int 2)])
      refine step (fun t k => XS.iload X305.here hx rfl (hb hby at_228) (by rw [hls308]; rfl) k) ?_
      show G T305 (mkF m 230 ls308 [(.int 2), (.int 2)])
      refine step (fun t k => XS.icmpNo X305.here hx rfl (hb hby at_230) rfl (teq (by decide : (2 : Int32) = (2 : Int32))).2 k) ?_
      show G T305 (mkF m 233 ls308 [])
      refine step (fun t k => XS.lload X305.here hx rfl (hb hby at_233) (by rw [hls308]; rfl) k) ?_
      show G T305 (mkF m 235 ls308 [(.long (own_at4 B4 B1 B2 B3 (((3 : Int32) + jj) % (4 : Int32))))])
      refine step (fun t k => XS.lload X305.here hx rfl (hb hby at_235) (by rw [hls308]; rfl) k) ?_
      show G T305 (mkF m 237 ls308 [(.long bb), (.long (own_at4 B4 B1 B2 B3 (((3 : Int32) + jj) % (4 : Int32))))])
      refine step (fun t k => XS.iload X305.here hx rfl (hb hby at_237) (by rw [hls308]; rfl) k) ?_
      show G T305 (mkF m 239 ls308 [(.int 3), (.long bb), (.long (own_at4 B4 B1 B2 B3 (((3 : Int32) + jj) % (4 : Int32))))])
      refine step (fun t k => XS.iload X305.here hx rfl (hb hby at_239) (by rw [hls308]; rfl) k) ?_
      show G T305 (mkF m 241 ls308 [(.int jj), (.int 3), (.long bb), (.long (own_at4 B4 B1 B2 B3 (((3 : Int32) + jj) % (4 : Int32))))])
      refine step (fun t k => XS.iadd X305.here hx rfl (hb hby at_241) rfl k) ?_
      show G T305 (mkF m 242 ls308 [(.int ((3 : Int32) + jj)), (.long bb), (.long (own_at4 B4 B1 B2 B3 (((3 : Int32) + jj) % (4 : Int32))))])
      refine step (fun t k => XS.i2l X305.here hx rfl (hb hby at_242) rfl k) ?_
      show G T305 (mkF m 243 ls308 [(.long (((3 : Int32) + jj).toInt64)), (.long bb), (.long (own_at4 B4 B1 B2 B3 (((3 : Int32) + jj) % (4 : Int32))))])
      refine step (fun t k => XS.lload X305.here hx rfl (hb hby at_243) (by rw [hls308]; rfl) k) ?_
      show G T305 (mkF m 245 ls308 [(.long sp), (.long (((3 : Int32) + jj).toInt64)), (.long bb), (.long (own_at4 B4 B1 B2 B3 (((3 : Int32) + jj) % (4 : Int32))))])
      refine step (fun t k => XS.lmul X305.here hx rfl (hb hby at_245) rfl k) ?_
      show G T305 (mkF m 246 ls308 [(.long ((((3 : Int32) + jj).toInt64) * sp)), (.long bb), (.long (own_at4 B4 B1 B2 B3 (((3 : Int32) + jj) % (4 : Int32))))])
      refine step (fun t k => XS.ladd X305.here hx rfl (hb hby at_246) rfl k) ?_
      show G T305 (mkF m 247 ls308 [(.long (bb + ((((3 : Int32) + jj).toInt64) * sp))), (.long (own_at4 B4 B1 B2 B3 (((3 : Int32) + jj) % (4 : Int32))))])
      refine step (fun t k => XS.lcmp X305.here hx rfl (hb hby at_247) rfl k) ?_
      show G T305 (mkF m 248 ls308 [(.int (lcmpW (own_at4 B4 B1 B2 B3 (((3 : Int32) + jj) % (4 : Int32))) (bb + ((((3 : Int32) + jj).toInt64) * sp))))])
      refine step (fun t k => XS.ifNo X305.here hx rfl (hb hby at_248) rfl ((if0 _ _).trans (teq ((lw_eq _ _).mpr (by rcases hj with h | h <;> rw [h] <;> first | exact hq3 | exact hq4))).2) k) ?_
      show G T305 (mkF m 251 ls308 [])
      refine step (fun t k => XS.iconst X305.here hx rfl (hb hby at_251) k) ?_
      show G T305 (mkF m 252 ls308 [(.int 1)])
      refine step (fun t k => XS.goto X305.here hx rfl (pc0 := 252) (pc' := 256) rfl (hb hby at_252) (by decide) (by decide) k) ?_
      show G T305 (mkF m 256 ls308 [(.int 1)])
      exact ret (v := some (.int 1)) X305 hS hk297 (fun h => by rw [Bd.returns] at h; cases h) (fun fs hr => retN X305 hx (t := .boolean) Bd.returns (by simp) (hb hby at_256) hr) e305 ⟨rfl, N305⟩ (by decide) (by decide)
    · skip
      obtain ⟨ls309, hls309⟩  := own_sl #[.val (.long q0), .second, .val (.int p1), .val (.int p2), .val (.int p3), .val (.int p4), .val (.long bb), .second, .val (.long sp), .second, .val (.int 3), .val (.int 2), .val (.ref b11), .val (.ref b13), .val (.long nw), .second, .val (.int 1), .unset, .unset, .unset, .unset, .unset]
      rw [show ls276 = ls309 from by rw [hls276, hls309, hee]]
      show G T272 (mkF m 118 ls309 [])
      refine step (fun t k => XS.iload X272.here hx rfl (hb hby at_118) (by rw [hls309]; rfl) k) ?_
      show G T272 (mkF m 120 ls309 [(.int 2)])
      refine step (fun t k => XS.iconst X272.here hx rfl (hb hby at_120) k) ?_
      show G T272 (mkF m 121 ls309 [(.int 1), (.int 2)])
      refine step (fun t k => XS.icmpNo X272.here hx rfl (hb hby at_121) rfl (flt (by decide : ¬ ((2 : Int32) < (1 : Int32)))).1 k) ?_
      show G T272 (mkF m 124 ls309 [])
      refine step (fun t k => XS.aload X272.here hx rfl (hb hby at_124) (by rw [hls309]; rfl) rfl k) ?_
      show G T272 (mkF m 126 ls309 [(.ref b13)])
      refine step (fun t k => XS.lload X272.here hx rfl (hb hby at_126) (by rw [hls309]; rfl) k) ?_
      show G T272 (mkF m 128 ls309 [(.long bb), (.ref b13)])
      have q310 := X272.ldc2Long hx hown (mvT hZ (ww107 hw)) (g := (mkF m 128 ls309 [(.long bb), (.ref b13)])) rfl (hb hby at_128)
      refine step q310 ?_
      show G T272 (mkF m 131 ls309 [(.long 4), (.long bb), (.ref b13)])
      refine step (fun t k => XS.lload X272.here hx rfl (hb hby at_131) (by rw [hls309]; rfl) k) ?_
      show G T272 (mkF m 133 ls309 [(.long sp), (.long 4), (.long bb), (.ref b13)])
      refine step (fun t k => XS.lmul X272.here hx rfl (hb hby at_133) rfl k) ?_
      show G T272 (mkF m 134 ls309 [(.long ((4 : Int64) * sp)), (.long bb), (.ref b13)])
      refine step (fun t k => XS.ladd X272.here hx rfl (hb hby at_134) rfl k) ?_
      show G T272 (mkF m 135 ls309 [(.long (bb + ((4 : Int64) * sp))), (.ref b13)])
      obtain ⟨B4, hB4⟩ : ∃ z : Int64, z = (bb + ((4 : Int64) * sp)) := ⟨_, rfl⟩
      rw [← hB4]
      show G T272 (mkF m 135 ls309 [(.long B4), (.ref b13)])
      have tB4 := own_B (4 : Int64) 4 (by decide) (by decide) (by decide) hbb1 hsp1 hB4
      have hq4 := hB4
      have f312 := (Arv.keep Y22_4 K272q (ninS (Nat.ne_of_gt lt_b13_b14) nin0))
      have hK311 := (backOf (R := room_1) (p := p) (e := e) (below := below) (args := #[(.long q0), (.int p1), (.int p2), (.int p3), (.int p4)]) (len := 3) (W := 0) (rm_add_4_0 l Z a0 hw [] w_0 w_1 w_2 b13 B4 b14 kb_14 bb B1 B2 B3 (3 : Int32) (1 : Int32) (2 : Int32) T272.heap n0 (own_old_le O272) ST O272 Y272_0 ge_b13 Y272_1 ge_b14 Y272_2 Y272_3 f312 (by decide : ¬ ((1 : Int32) = (4 : Int32))) (by decide : ((1 : Int32) + (1 : Int32)) = (2 : Int32)) (by decide : (((3 : Int32) + (1 : Int32)) % (4 : Int32)) = (0 : Int32))) hZ (ww63 hw) (ww51 hw) (by decide) (by decide))
      obtain ⟨cq311, kq311, q311a, q311b, q311c⟩ := isOf hZ rfl Y272_0
      obtain ⟨_, _, ⟨T311, L311, k311, n311⟩, -, X311, ⟨Lc311, hQ311, l311, y311, z311⟩, st311⟩ := X272.virtualBack hx (y := y_10) (z := y_10) hown (mvT hZ (ww59 hw)) (mvT hZ (ww60 hw)) (notFace_of_selects (args := #[]) (mvT hZ (ww62 hw))) (mvT hZ (ww62 hw)) (mvT hZ (ww61 hw)) (by decide) hK311 q311a q311c (g := (mkF m 135 ls309 [(.long B4), (.ref b13)])) rfl (by rw [hml, hls309]; rfl) (Steps.refl _) (argsL := [(.long B4)]) (rest := []) (lenOf pd_5 rfl) rfl (by show 2 * 0 + _ ≤ _; exact Nat.le_of_eq rfl) (hb hby at_135) (fun _ _ => ⟨rfl, rfl, (by decide : 5 + 0 ≤ _), (by decide : 30 + 0 ≤ _)⟩)
      dsimp only [Pt.U, Pt.locs, Pt.cells, Pt.slots] at X311 l311 y311 z311 st311 hQ311
      subst l311 y311 z311
      obtain ⟨rfl, N311q, K311q, Y311_0, Y311_1, Y311_2, Y311_3, Y311_4⟩ := hQ311
      have N311 := Fr.app N272 N311q
      obtain ⟨lc311, X311, N311⟩ := own_gen X311 N311
      have O311 := O272.keep K311q (allS ge_b13 (allS ge_b14 all0))
      have hk311 : _ ≤ T311.heap.size := Nat.le_trans hk272 K311q.1
      refine step (fun t k => st311.trans k) ?_
      show G T311 (mkF m 138 ls309 [])
      refine step (fun t k => XS.iload X311.here hx rfl (hb hby at_138) (by rw [hls309]; rfl) k) ?_
      show G T311 (mkF m 140 ls309 [(.int 2)])
      refine step (fun t k => XS.iconst X311.here hx rfl (hb hby at_140) k) ?_
      show G T311 (mkF m 141 ls309 [(.int 2), (.int 2)])
      refine step (fun t k => XS.icmpNo X311.here hx rfl (hb hby at_141) rfl (flt (by decide : ¬ ((2 : Int32) < (2 : Int32)))).1 k) ?_
      show G T311 (mkF m 144 ls309 [])
      refine step (fun t k => XS.aload X311.here hx rfl (hb hby at_144) (by rw [hls309]; rfl) rfl k) ?_
      show G T311 (mkF m 146 ls309 [(.ref b13)])
      refine step (fun t k => XS.lload X311.here hx rfl (hb hby at_146) (by rw [hls309]; rfl) k) ?_
      show G T311 (mkF m 148 ls309 [(.long bb), (.ref b13)])
      have q313 := X311.ldc2Long hx hown (mvT hZ (ww108 hw)) (g := (mkF m 148 ls309 [(.long bb), (.ref b13)])) rfl (hb hby at_148)
      refine step q313 ?_
      show G T311 (mkF m 151 ls309 [(.long 5), (.long bb), (.ref b13)])
      refine step (fun t k => XS.lload X311.here hx rfl (hb hby at_151) (by rw [hls309]; rfl) k) ?_
      show G T311 (mkF m 153 ls309 [(.long sp), (.long 5), (.long bb), (.ref b13)])
      refine step (fun t k => XS.lmul X311.here hx rfl (hb hby at_153) rfl k) ?_
      show G T311 (mkF m 154 ls309 [(.long ((5 : Int64) * sp)), (.long bb), (.ref b13)])
      refine step (fun t k => XS.ladd X311.here hx rfl (hb hby at_154) rfl k) ?_
      show G T311 (mkF m 155 ls309 [(.long (bb + ((5 : Int64) * sp))), (.ref b13)])
      obtain ⟨B5, hB5⟩ : ∃ z : Int64, z = (bb + ((5 : Int64) * sp)) := ⟨_, rfl⟩
      rw [← hB5]
      show G T311 (mkF m 155 ls309 [(.long B5), (.ref b13)])
      have tB5 := own_B (5 : Int64) 5 (by decide) (by decide) (by decide) hbb1 hsp1 hB5
      have hq5 := hB5
      have hK314 := (backOf (R := room_1) (p := p) (e := e) (below := below) (args := #[(.long q0), (.int p1), (.int p2), (.int p3), (.int p4)]) (len := 3) (W := 0) (rm_add_4_1 l Z a0 hw [] w_0 w_1 w_2 b13 B5 b14 kb_14 B4 B1 B2 B3 (3 : Int32) (2 : Int32) (3 : Int32) T311.heap n0 (own_old_le O311) ST O311 Y311_0 ge_b13 Y311_1 ge_b14 Y311_2 Y311_3 Y311_4 (by decide : ¬ ((2 : Int32) = (4 : Int32))) (by decide : ((2 : Int32) + (1 : Int32)) = (3 : Int32)) (by decide : (((3 : Int32) + (2 : Int32)) % (4 : Int32)) = (1 : Int32))) hZ (ww63 hw) (ww51 hw) (by decide) (by decide))
      obtain ⟨cq314, kq314, q314a, q314b, q314c⟩ := isOf hZ rfl Y311_0
      obtain ⟨_, _, ⟨T314, L314, k314, n314⟩, -, X314, ⟨Lc314, hQ314, l314, y314, z314⟩, st314⟩ := X311.virtualBack hx (y := y_10) (z := y_10) hown (mvT hZ (ww59 hw)) (mvT hZ (ww60 hw)) (notFace_of_selects (args := #[]) (mvT hZ (ww62 hw))) (mvT hZ (ww62 hw)) (mvT hZ (ww61 hw)) (by decide) hK314 q314a q314c (g := (mkF m 155 ls309 [(.long B5), (.ref b13)])) rfl (by rw [hml, hls309]; rfl) (Steps.refl _) (argsL := [(.long B5)]) (rest := []) (lenOf pd_5 rfl) rfl (by show 2 * 0 + _ ≤ _; exact Nat.le_of_eq rfl) (hb hby at_155) (fun _ _ => ⟨rfl, rfl, (by decide : 5 + 0 ≤ _), (by decide : 30 + 0 ≤ _)⟩)
      dsimp only [Pt.U, Pt.locs, Pt.cells, Pt.slots] at X314 l314 y314 z314 st314 hQ314
      subst l314 y314 z314
      obtain ⟨rfl, N314q, K314q, Y314_0, Y314_1, Y314_2, Y314_3, Y314_4⟩ := hQ314
      have N314 := Fr.app N311 N314q
      obtain ⟨lc314, X314, N314⟩ := own_gen X314 N314
      have O314 := O311.keep K314q (allS ge_b13 (allS ge_b14 all0))
      have hk314 : _ ≤ T314.heap.size := Nat.le_trans hk311 K314q.1
      refine step (fun t k => st314.trans k) ?_
      show G T314 (mkF m 158 ls309 [])
      refine step (fun t k => XS.iload X314.here hx rfl (hb hby at_158) (by rw [hls309]; rfl) k) ?_
      show G T314 (mkF m 160 ls309 [(.int 2)])
      refine step (fun t k => XS.iconst X314.here hx rfl (hb hby at_160) k) ?_
      show G T314 (mkF m 161 ls309 [(.int 3), (.int 2)])
      refine step (fun t k => XS.icmpYes X314.here hx rfl (pc0 := 161) (pc' := 178) rfl (hb hby at_161) rfl (tlt (by decide : (2 : Int32) < (3 : Int32))).1 (by decide) (by decide) k) ?_
      show G T314 (mkF m 178 ls309 [])
      refine step (fun t k => XS.iconst X314.here hx rfl (hb hby at_178) k) ?_
      show G T314 (mkF m 179 ls309 [(.int 4)])
      refine step (fun t k => XS.iload X314.here hx rfl (hb hby at_179) (by rw [hls309]; rfl) k) ?_
      show G T314 (mkF m 181 ls309 [(.int 3), (.int 4)])
      refine step (fun t k => XS.isub X314.here hx rfl (hb hby at_181) rfl k) ?_
      show G T314 (mkF m 182 ls309 [(.int ((4 : Int32) - (3 : Int32)))])
      rw [(by decide : ((4 : Int32) - (3 : Int32)) = (1 : Int32))]
      show G T314 (mkF m 182 ls309 [(.int 1)])
      refine step (fun t k => XS.iload X314.here hx rfl (hb hby at_182) (by rw [hls309]; rfl) k) ?_
      show G T314 (mkF m 184 ls309 [(.int 2), (.int 1)])
      refine step (fun t k => XS.iadd X314.here hx rfl (hb hby at_184) rfl k) ?_
      show G T314 (mkF m 185 ls309 [(.int ((1 : Int32) + (2 : Int32)))])
      rw [(by decide : ((1 : Int32) + (2 : Int32)) = (3 : Int32))]
      show G T314 (mkF m 185 ls309 [(.int 3)])
      obtain ⟨ls315, hls315⟩  := own_sl #[.val (.long q0), .second, .val (.int p1), .val (.int p2), .val (.int p3), .val (.int p4), .val (.long bb), .second, .val (.long sp), .second, .val (.int 3), .val (.int 2), .val (.ref b11), .val (.ref b13), .val (.long nw), .second, .val (.int 1), .val (.int 3), .unset, .unset, .unset, .unset]
      refine step (fun t k => XS.istore X314.here hx rfl (hb hby at_185) rfl (l' := ls315) (by rw [hls309, hls315]; rfl) k) ?_
      show G T314 (mkF m 187 ls315 [])
      refine step (fun t k => XS.aload X314.here hx rfl (hb hby at_187) (by rw [hls315]; rfl) rfl k) ?_
      show G T314 (mkF m 189 ls315 [(.ref b13)])
      refine step (fun t k => XS.aload X314.here hx rfl (hb hby at_189) (by rw [hls315]; rfl) rfl k) ?_
      show G T314 (mkF m 191 ls315 [(.ref b11), (.ref b13)])
      refine step (fun t k => XS.lload X314.here hx rfl (hb hby at_191) (by rw [hls315]; rfl) k) ?_
      show G T314 (mkF m 193 ls315 [(.long nw), (.ref b11), (.ref b13)])
      have f317 := (Exa.keep (Exa.keep (Exa.keep f273 K272q) K311q) K314q)
      have f318 := (Fld.keep (Fld.keep (Fld.keep f274 K272q (ninS (Nat.ne_of_lt lt_b11_b13) nin0)) K311q (ninS (Nat.ne_of_lt lt_b11_b13) (ninS (Nat.ne_of_lt lt_b11_b14) nin0))) K314q (ninS (Nat.ne_of_lt lt_b11_b13) (ninS (Nat.ne_of_lt lt_b11_b14) nin0)))
      have f319 := (Fld.keep (Fld.keep (Fld.keep f275 K272q (ninS (Nat.ne_of_lt lt_b11_b13) nin0)) K311q (ninS (Nat.ne_of_lt lt_b11_b13) (ninS (Nat.ne_of_lt lt_b11_b14) nin0))) K314q (ninS (Nat.ne_of_lt lt_b11_b13) (ninS (Nat.ne_of_lt lt_b11_b14) nin0)))
      have hK316 := (backOf (R := room_1) (p := p) (e := e) (below := below) (args := #[(.long q0), (.int p1), (.int p2), (.int p3), (.int p4)]) (len := 3) (W := 0) (rm_cnt0_4 l Z a0 hw [] w_0 w_1 w_2 b13 b11 nw b14 kb_14 B4 B5 B2 B3 (3 : Int32) (3 : Int32) (1 : Int64) T314.heap n0 (own_old_le O314) ST O314 Y314_0 ge_b13 Y314_1 ge_b14 Y314_2 Y314_3 Y314_4 ((by decide) : (0 : Int32) < (3 : Int32)) (by decide) f317 f318 f319 (show (nw - (1 : Int64)) < B3 from (own_ltB tnw1 tB3 hsp1.1 (by decide)))) hZ (ww74 hw) (ww51 hw) (by decide) (by decide))
      obtain ⟨cq316, kq316, q316a, q316b, q316c⟩ := isOf hZ rfl Y314_0
      obtain ⟨_, _, ⟨T316, L316, k316, n316⟩, -, X316, ⟨Lc316, hQ316, l316, y316, z316⟩, st316⟩ := X314.virtualBack hx (y := y_13) (z := y_13) hown (mvT hZ (ww70 hw)) (mvT hZ (ww71 hw)) (notFace_of_selects (args := #[]) (mvT hZ (ww73 hw))) (mvT hZ (ww73 hw)) (mvT hZ (ww72 hw)) (by decide) hK316 q316a q316c (g := (mkF m 193 ls315 [(.long nw), (.ref b11), (.ref b13)])) rfl (by rw [hml, hls315]; rfl) (Steps.refl _) (argsL := [(.ref b11), (.long nw)]) (rest := []) (lenOf pd_9 rfl) rfl (by show 2 * 0 + _ ≤ _; exact Nat.le_of_eq rfl) (hb hby at_193) (fun _ _ => ⟨rfl, rfl, (by decide : 5 + 0 ≤ _), (by decide : 30 + 0 ≤ _)⟩)
      dsimp only [Pt.U, Pt.locs, Pt.cells, Pt.slots] at X316 l316 y316 z316 st316 hQ316
      subst l316 y316 z316
      obtain ⟨rfl, N316q, K316q, Y316_0, Y316_1, Y316_2, Y316_3⟩ := hQ316
      have N316 := Fr.app N314 N316q
      obtain ⟨lc316, X316, N316⟩ := own_gen X316 N316
      have O316 := O314.keep K316q (allS ge_b13 all0)
      have hk316 : _ ≤ T316.heap.size := Nat.le_trans hk314 K316q.1
      refine step (fun t k => st316.trans k) ?_
      show G T316 (mkF m 196 ls315 [(.int 3)])
      obtain ⟨ls320, hls320⟩  := own_sl #[.val (.long q0), .second, .val (.int p1), .val (.int p2), .val (.int p3), .val (.int p4), .val (.long bb), .second, .val (.long sp), .second, .val (.int 3), .val (.int 2), .val (.ref b11), .val (.ref b13), .val (.long nw), .second, .val (.int 1), .val (.int 3), .val (.int 3), .unset, .unset, .unset]
      refine step (fun t k => XS.istore X316.here hx rfl (hb hby at_196) rfl (l' := ls320) (by rw [hls315, hls320]; rfl) k) ?_
      show G T316 (mkF m 198 ls320 [])
      refine step (fun t k => XS.iload X316.here hx rfl (hb hby at_198) (by rw [hls320]; rfl) k) ?_
      show G T316 (mkF m 200 ls320 [(.int p4)])
      have q321 := X316.ldcInt hx hown (mvT hZ (ww101 hw)) (g := (mkF m 200 ls320 [(.int p4)])) rfl (hb hby at_200)
      refine step q321 ?_
      show G T316 (mkF m 202 ls320 [(.int 2147483647), (.int p4)])
      refine step (fun t k => XS.iand X316.here hx rfl (hb hby at_202) rfl k) ?_
      show G T316 (mkF m 203 ls320 [(.int (p4 &&& (2147483647 : Int32)))])
      refine step (fun t k => XS.iload X316.here hx rfl (hb hby at_203) (by rw [hls320]; rfl) k) ?_
      show G T316 (mkF m 205 ls320 [(.int 3), (.int (p4 &&& (2147483647 : Int32)))])
      refine step (fun t k => iremM X316 hx rfl (hb hby at_205) rfl (by decide) k) ?_
      show G T316 (mkF m 206 ls320 [(.int ((p4 &&& (2147483647 : Int32)) % (3 : Int32)))])
      obtain ⟨ls322, hls322⟩  := own_sl #[.val (.long q0), .second, .val (.int p1), .val (.int p2), .val (.int p3), .val (.int p4), .val (.long bb), .second, .val (.long sp), .second, .val (.int 3), .val (.int 2), .val (.ref b11), .val (.ref b13), .val (.long nw), .second, .val (.int 1), .val (.int 3), .val (.int 3), .val (.int ((p4 &&& (2147483647 : Int32)) % (3 : Int32))), .unset, .unset]
      refine step (fun t k => XS.istore X316.here hx rfl (hb hby at_206) rfl (l' := ls322) (by rw [hls320, hls322]; rfl) k) ?_
      show G T316 (mkF m 208 ls322 [])
      obtain ⟨jj, hjj⟩ : ∃ z : Int32, z = ((p4 &&& (2147483647 : Int32)) % (3 : Int32)) := ⟨_, rfl⟩
      obtain ⟨ls323, hls323⟩  := own_sl #[.val (.long q0), .second, .val (.int p1), .val (.int p2), .val (.int p3), .val (.int p4), .val (.long bb), .second, .val (.long sp), .second, .val (.int 3), .val (.int 2), .val (.ref b11), .val (.ref b13), .val (.long nw), .second, .val (.int 1), .val (.int 3), .val (.int 3), .val (.int jj), .unset, .unset]
      rw [show ls322 = ls323 from by rw [hls322, hls323, hjj]]
      show G T316 (mkF m 208 ls323 [])
      have hj := own_j3 p4
      rw [← hjj] at hj
      refine step (fun t k => XS.aload X316.here hx rfl (hb hby at_208) (by rw [hls323]; rfl) rfl k) ?_
      show G T316 (mkF m 210 ls323 [(.ref b13)])
      refine step (fun t k => XS.iload X316.here hx rfl (hb hby at_210) (by rw [hls323]; rfl) k) ?_
      show G T316 (mkF m 212 ls323 [(.int jj), (.ref b13)])
      have f325 := (Arv.keep Y314_4 K316q (ninS (Nat.ne_of_gt lt_b13_b14) nin0))
      have hK324 := (backOf (R := room_1) (p := p) (e := e) (below := below) (args := #[(.long q0), (.int p1), (.int p2), (.int p3), (.int p4)]) (len := 3) (W := 0) (rm_get4 l Z a0 hw [] w_0 w_1 w_2 b13 jj b14 kb_14 B4 B5 B2 B3 (3 : Int32) T316.heap n0 (own_old_le O316) ST O316 Y316_1 Y316_2 f325 (by rcases hj with h | h | h <;> (rw [h]; decide))) hZ (ww106 hw) (ww51 hw) (by decide) (by decide))
      obtain ⟨cq324, kq324, q324a, q324b, q324c⟩ := isOf hZ rfl Y316_0
      obtain ⟨_, _, ⟨T324, L324, k324, n324⟩, -, X324, ⟨Lc324, hQ324, l324, y324, z324⟩, st324⟩ := X316.virtualBack hx (y := y_14) (z := y_14) hown (mvT hZ (ww102 hw)) (mvT hZ (ww103 hw)) (notFace_of_selects (args := #[]) (mvT hZ (ww105 hw))) (mvT hZ (ww105 hw)) (mvT hZ (ww104 hw)) (by decide) hK324 q324a q324c (g := (mkF m 212 ls323 [(.int jj), (.ref b13)])) rfl (by rw [hml, hls323]; rfl) (Steps.refl _) (argsL := [(.int jj)]) (rest := []) (lenOf pd_10 rfl) rfl (by show 2 * 0 + _ ≤ _; exact Nat.le_of_eq rfl) (hb hby at_212) (fun _ _ => ⟨rfl, rfl, (by decide : 5 + 0 ≤ _), (by decide : 30 + 0 ≤ _)⟩)
      dsimp only [Pt.U, Pt.locs, Pt.cells, Pt.slots] at X324 l324 y324 z324 st324 hQ324
      subst l324 y324 z324
      obtain ⟨rfl, N324q, e324⟩ := hQ324
      have N324 := Fr.app N316 N324q
      obtain ⟨lc324, X324, N324⟩ := own_gen X324 N324
      refine step (fun t k => st324.trans k) ?_
      show G T324 (mkF m 215 ls323 [(.long (f_get4 w_0 w_1 w_2 b13 jj b14 kb_14 B4 B5 B2 B3 (3 : Int32)))])
      have r326 : (f_get4 w_0 w_1 w_2 b13 jj b14 kb_14 B4 B5 B2 B3 (3 : Int32)) = (own_at4 B4 B5 B2 B3 (((3 : Int32) + jj) % (4 : Int32))) := rfl
      rw [r326]
      show G T324 (mkF m 215 ls323 [(.long (own_at4 B4 B5 B2 B3 (((3 : Int32) + jj) % (4 : Int32))))])
      obtain ⟨ls327, hls327⟩  := own_sl #[.val (.long q0), .second, .val (.int p1), .val (.int p2), .val (.int p3), .val (.int p4), .val (.long bb), .second, .val (.long sp), .second, .val (.int 3), .val (.int 2), .val (.ref b11), .val (.ref b13), .val (.long nw), .second, .val (.int 1), .val (.int 3), .val (.int 3), .val (.int jj), .val (.long (own_at4 B4 B5 B2 B3 (((3 : Int32) + jj) % (4 : Int32)))), .second]
      refine step (fun t k => XS.lstore X324.here hx rfl (hb hby at_215) rfl (l' := ls327) (by rw [hls323, hls327]; rfl) k) ?_
      show G T324 (mkF m 217 ls327 [])
      refine step (fun t k => XS.iload X324.here hx rfl (hb hby at_217) (by rw [hls327]; rfl) k) ?_
      show G T324 (mkF m 219 ls327 [(.int 1)])
      refine step (fun t k => XS.iconst X324.here hx rfl (hb hby at_219) k) ?_
      show G T324 (mkF m 220 ls327 [(.int 4), (.int 1)])
      refine step (fun t k => XS.iload X324.here hx rfl (hb hby at_220) (by rw [hls327]; rfl) k) ?_
      show G T324 (mkF m 222 ls327 [(.int 3), (.int 4), (.int 1)])
      refine step (fun t k => XS.isub X324.here hx rfl (hb hby at_222) rfl k) ?_
      show G T324 (mkF m 223 ls327 [(.int ((4 : Int32) - (3 : Int32))), (.int 1)])
      rw [(by decide : ((4 : Int32) - (3 : Int32)) = (1 : Int32))]
      show G T324 (mkF m 223 ls327 [(.int 1), (.int 1)])
      refine step (fun t k => XS.icmpNo X324.here hx rfl (hb hby at_223) rfl (teq (by decide : (1 : Int32) = (1 : Int32))).2 k) ?_
      show G T324 (mkF m 226 ls327 [])
      refine step (fun t k => XS.iload X324.here hx rfl (hb hby at_226) (by rw [hls327]; rfl) k) ?_
      show G T324 (mkF m 228 ls327 [(.int 3)])
      refine step (fun t k => XS.iload X324.here hx rfl (hb hby at_228) (by rw [hls327]; rfl) k) ?_
      show G T324 (mkF m 230 ls327 [(.int 3), (.int 3)])
      refine step (fun t k => XS.icmpNo X324.here hx rfl (hb hby at_230) rfl (teq (by decide : (3 : Int32) = (3 : Int32))).2 k) ?_
      show G T324 (mkF m 233 ls327 [])
      refine step (fun t k => XS.lload X324.here hx rfl (hb hby at_233) (by rw [hls327]; rfl) k) ?_
      show G T324 (mkF m 235 ls327 [(.long (own_at4 B4 B5 B2 B3 (((3 : Int32) + jj) % (4 : Int32))))])
      refine step (fun t k => XS.lload X324.here hx rfl (hb hby at_235) (by rw [hls327]; rfl) k) ?_
      show G T324 (mkF m 237 ls327 [(.long bb), (.long (own_at4 B4 B5 B2 B3 (((3 : Int32) + jj) % (4 : Int32))))])
      refine step (fun t k => XS.iload X324.here hx rfl (hb hby at_237) (by rw [hls327]; rfl) k) ?_
      show G T324 (mkF m 239 ls327 [(.int 3), (.long bb), (.long (own_at4 B4 B5 B2 B3 (((3 : Int32) + jj) % (4 : Int32))))])
      refine step (fun t k => XS.iload X324.here hx rfl (hb hby at_239) (by rw [hls327]; rfl) k) ?_
      show G T324 (mkF m 241 ls327 [(.int jj), (.int 3), (.long bb), (.long (own_at4 B4 B5 B2 B3 (((3 : Int32) + jj) % (4 : Int32))))])
      refine step (fun t k => XS.iadd X324.here hx rfl (hb hby at_241) rfl k) ?_
      show G T324 (mkF m 242 ls327 [(.int ((3 : Int32) + jj)), (.long bb), (.long (own_at4 B4 B5 B2 B3 (((3 : Int32) + jj) % (4 : Int32))))])
      refine step (fun t k => XS.i2l X324.here hx rfl (hb hby at_242) rfl k) ?_
      show G T324 (mkF m 243 ls327 [(.long (((3 : Int32) + jj).toInt64)), (.long bb), (.long (own_at4 B4 B5 B2 B3 (((3 : Int32) + jj) % (4 : Int32))))])
      refine step (fun t k => XS.lload X324.here hx rfl (hb hby at_243) (by rw [hls327]; rfl) k) ?_
      show G T324 (mkF m 245 ls327 [(.long sp), (.long (((3 : Int32) + jj).toInt64)), (.long bb), (.long (own_at4 B4 B5 B2 B3 (((3 : Int32) + jj) % (4 : Int32))))])
      refine step (fun t k => XS.lmul X324.here hx rfl (hb hby at_245) rfl k) ?_
      show G T324 (mkF m 246 ls327 [(.long ((((3 : Int32) + jj).toInt64) * sp)), (.long bb), (.long (own_at4 B4 B5 B2 B3 (((3 : Int32) + jj) % (4 : Int32))))])
      refine step (fun t k => XS.ladd X324.here hx rfl (hb hby at_246) rfl k) ?_
      show G T324 (mkF m 247 ls327 [(.long (bb + ((((3 : Int32) + jj).toInt64) * sp))), (.long (own_at4 B4 B5 B2 B3 (((3 : Int32) + jj) % (4 : Int32))))])
      refine step (fun t k => XS.lcmp X324.here hx rfl (hb hby at_247) rfl k) ?_
      show G T324 (mkF m 248 ls327 [(.int (lcmpW (own_at4 B4 B5 B2 B3 (((3 : Int32) + jj) % (4 : Int32))) (bb + ((((3 : Int32) + jj).toInt64) * sp))))])
      refine step (fun t k => XS.ifNo X324.here hx rfl (hb hby at_248) rfl ((if0 _ _).trans (teq ((lw_eq _ _).mpr (by rcases hj with h | h | h <;> rw [h] <;> first | exact hq3 | exact hq4 | exact hq5))).2) k) ?_
      show G T324 (mkF m 251 ls327 [])
      refine step (fun t k => XS.iconst X324.here hx rfl (hb hby at_251) k) ?_
      show G T324 (mkF m 252 ls327 [(.int 1)])
      refine step (fun t k => XS.goto X324.here hx rfl (pc0 := 252) (pc' := 256) rfl (hb hby at_252) (by decide) (by decide) k) ?_
      show G T324 (mkF m 256 ls327 [(.int 1)])
      exact ret (v := some (.int 1)) X324 hS hk316 (fun h => by rw [Bd.returns] at h; cases h) (fun fs hr => retN X324 hx (t := .boolean) Bd.returns (by simp) (hb hby at_256) hr) e324 ⟨rfl, N324⟩ (by decide) (by decide)
    · skip
      obtain ⟨ls328, hls328⟩  := own_sl #[.val (.long q0), .second, .val (.int p1), .val (.int p2), .val (.int p3), .val (.int p4), .val (.long bb), .second, .val (.long sp), .second, .val (.int 3), .val (.int 3), .val (.ref b11), .val (.ref b13), .val (.long nw), .second, .val (.int 1), .unset, .unset, .unset, .unset, .unset]
      rw [show ls276 = ls328 from by rw [hls276, hls328, hee]]
      show G T272 (mkF m 118 ls328 [])
      refine step (fun t k => XS.iload X272.here hx rfl (hb hby at_118) (by rw [hls328]; rfl) k) ?_
      show G T272 (mkF m 120 ls328 [(.int 3)])
      refine step (fun t k => XS.iconst X272.here hx rfl (hb hby at_120) k) ?_
      show G T272 (mkF m 121 ls328 [(.int 1), (.int 3)])
      refine step (fun t k => XS.icmpNo X272.here hx rfl (hb hby at_121) rfl (flt (by decide : ¬ ((3 : Int32) < (1 : Int32)))).1 k) ?_
      show G T272 (mkF m 124 ls328 [])
      refine step (fun t k => XS.aload X272.here hx rfl (hb hby at_124) (by rw [hls328]; rfl) rfl k) ?_
      show G T272 (mkF m 126 ls328 [(.ref b13)])
      refine step (fun t k => XS.lload X272.here hx rfl (hb hby at_126) (by rw [hls328]; rfl) k) ?_
      show G T272 (mkF m 128 ls328 [(.long bb), (.ref b13)])
      have q329 := X272.ldc2Long hx hown (mvT hZ (ww107 hw)) (g := (mkF m 128 ls328 [(.long bb), (.ref b13)])) rfl (hb hby at_128)
      refine step q329 ?_
      show G T272 (mkF m 131 ls328 [(.long 4), (.long bb), (.ref b13)])
      refine step (fun t k => XS.lload X272.here hx rfl (hb hby at_131) (by rw [hls328]; rfl) k) ?_
      show G T272 (mkF m 133 ls328 [(.long sp), (.long 4), (.long bb), (.ref b13)])
      refine step (fun t k => XS.lmul X272.here hx rfl (hb hby at_133) rfl k) ?_
      show G T272 (mkF m 134 ls328 [(.long ((4 : Int64) * sp)), (.long bb), (.ref b13)])
      refine step (fun t k => XS.ladd X272.here hx rfl (hb hby at_134) rfl k) ?_
      show G T272 (mkF m 135 ls328 [(.long (bb + ((4 : Int64) * sp))), (.ref b13)])
      obtain ⟨B4, hB4⟩ : ∃ z : Int64, z = (bb + ((4 : Int64) * sp)) := ⟨_, rfl⟩
      rw [← hB4]
      show G T272 (mkF m 135 ls328 [(.long B4), (.ref b13)])
      have tB4 := own_B (4 : Int64) 4 (by decide) (by decide) (by decide) hbb1 hsp1 hB4
      have hq4 := hB4
      have f331 := (Arv.keep Y22_4 K272q (ninS (Nat.ne_of_gt lt_b13_b14) nin0))
      have hK330 := (backOf (R := room_1) (p := p) (e := e) (below := below) (args := #[(.long q0), (.int p1), (.int p2), (.int p3), (.int p4)]) (len := 3) (W := 0) (rm_add_4_0 l Z a0 hw [] w_0 w_1 w_2 b13 B4 b14 kb_14 bb B1 B2 B3 (3 : Int32) (1 : Int32) (2 : Int32) T272.heap n0 (own_old_le O272) ST O272 Y272_0 ge_b13 Y272_1 ge_b14 Y272_2 Y272_3 f331 (by decide : ¬ ((1 : Int32) = (4 : Int32))) (by decide : ((1 : Int32) + (1 : Int32)) = (2 : Int32)) (by decide : (((3 : Int32) + (1 : Int32)) % (4 : Int32)) = (0 : Int32))) hZ (ww63 hw) (ww51 hw) (by decide) (by decide))
      obtain ⟨cq330, kq330, q330a, q330b, q330c⟩ := isOf hZ rfl Y272_0
      obtain ⟨_, _, ⟨T330, L330, k330, n330⟩, -, X330, ⟨Lc330, hQ330, l330, y330, z330⟩, st330⟩ := X272.virtualBack hx (y := y_10) (z := y_10) hown (mvT hZ (ww59 hw)) (mvT hZ (ww60 hw)) (notFace_of_selects (args := #[]) (mvT hZ (ww62 hw))) (mvT hZ (ww62 hw)) (mvT hZ (ww61 hw)) (by decide) hK330 q330a q330c (g := (mkF m 135 ls328 [(.long B4), (.ref b13)])) rfl (by rw [hml, hls328]; rfl) (Steps.refl _) (argsL := [(.long B4)]) (rest := []) (lenOf pd_5 rfl) rfl (by show 2 * 0 + _ ≤ _; exact Nat.le_of_eq rfl) (hb hby at_135) (fun _ _ => ⟨rfl, rfl, (by decide : 5 + 0 ≤ _), (by decide : 30 + 0 ≤ _)⟩)
      dsimp only [Pt.U, Pt.locs, Pt.cells, Pt.slots] at X330 l330 y330 z330 st330 hQ330
      subst l330 y330 z330
      obtain ⟨rfl, N330q, K330q, Y330_0, Y330_1, Y330_2, Y330_3, Y330_4⟩ := hQ330
      have N330 := Fr.app N272 N330q
      obtain ⟨lc330, X330, N330⟩ := own_gen X330 N330
      have O330 := O272.keep K330q (allS ge_b13 (allS ge_b14 all0))
      have hk330 : _ ≤ T330.heap.size := Nat.le_trans hk272 K330q.1
      refine step (fun t k => st330.trans k) ?_
      show G T330 (mkF m 138 ls328 [])
      refine step (fun t k => XS.iload X330.here hx rfl (hb hby at_138) (by rw [hls328]; rfl) k) ?_
      show G T330 (mkF m 140 ls328 [(.int 3)])
      refine step (fun t k => XS.iconst X330.here hx rfl (hb hby at_140) k) ?_
      show G T330 (mkF m 141 ls328 [(.int 2), (.int 3)])
      refine step (fun t k => XS.icmpNo X330.here hx rfl (hb hby at_141) rfl (flt (by decide : ¬ ((3 : Int32) < (2 : Int32)))).1 k) ?_
      show G T330 (mkF m 144 ls328 [])
      refine step (fun t k => XS.aload X330.here hx rfl (hb hby at_144) (by rw [hls328]; rfl) rfl k) ?_
      show G T330 (mkF m 146 ls328 [(.ref b13)])
      refine step (fun t k => XS.lload X330.here hx rfl (hb hby at_146) (by rw [hls328]; rfl) k) ?_
      show G T330 (mkF m 148 ls328 [(.long bb), (.ref b13)])
      have q332 := X330.ldc2Long hx hown (mvT hZ (ww108 hw)) (g := (mkF m 148 ls328 [(.long bb), (.ref b13)])) rfl (hb hby at_148)
      refine step q332 ?_
      show G T330 (mkF m 151 ls328 [(.long 5), (.long bb), (.ref b13)])
      refine step (fun t k => XS.lload X330.here hx rfl (hb hby at_151) (by rw [hls328]; rfl) k) ?_
      show G T330 (mkF m 153 ls328 [(.long sp), (.long 5), (.long bb), (.ref b13)])
      refine step (fun t k => XS.lmul X330.here hx rfl (hb hby at_153) rfl k) ?_
      show G T330 (mkF m 154 ls328 [(.long ((5 : Int64) * sp)), (.long bb), (.ref b13)])
      refine step (fun t k => XS.ladd X330.here hx rfl (hb hby at_154) rfl k) ?_
      show G T330 (mkF m 155 ls328 [(.long (bb + ((5 : Int64) * sp))), (.ref b13)])
      obtain ⟨B5, hB5⟩ : ∃ z : Int64, z = (bb + ((5 : Int64) * sp)) := ⟨_, rfl⟩
      rw [← hB5]
      show G T330 (mkF m 155 ls328 [(.long B5), (.ref b13)])
      have tB5 := own_B (5 : Int64) 5 (by decide) (by decide) (by decide) hbb1 hsp1 hB5
      have hq5 := hB5
      have hK333 := (backOf (R := room_1) (p := p) (e := e) (below := below) (args := #[(.long q0), (.int p1), (.int p2), (.int p3), (.int p4)]) (len := 3) (W := 0) (rm_add_4_1 l Z a0 hw [] w_0 w_1 w_2 b13 B5 b14 kb_14 B4 B1 B2 B3 (3 : Int32) (2 : Int32) (3 : Int32) T330.heap n0 (own_old_le O330) ST O330 Y330_0 ge_b13 Y330_1 ge_b14 Y330_2 Y330_3 Y330_4 (by decide : ¬ ((2 : Int32) = (4 : Int32))) (by decide : ((2 : Int32) + (1 : Int32)) = (3 : Int32)) (by decide : (((3 : Int32) + (2 : Int32)) % (4 : Int32)) = (1 : Int32))) hZ (ww63 hw) (ww51 hw) (by decide) (by decide))
      obtain ⟨cq333, kq333, q333a, q333b, q333c⟩ := isOf hZ rfl Y330_0
      obtain ⟨_, _, ⟨T333, L333, k333, n333⟩, -, X333, ⟨Lc333, hQ333, l333, y333, z333⟩, st333⟩ := X330.virtualBack hx (y := y_10) (z := y_10) hown (mvT hZ (ww59 hw)) (mvT hZ (ww60 hw)) (notFace_of_selects (args := #[]) (mvT hZ (ww62 hw))) (mvT hZ (ww62 hw)) (mvT hZ (ww61 hw)) (by decide) hK333 q333a q333c (g := (mkF m 155 ls328 [(.long B5), (.ref b13)])) rfl (by rw [hml, hls328]; rfl) (Steps.refl _) (argsL := [(.long B5)]) (rest := []) (lenOf pd_5 rfl) rfl (by show 2 * 0 + _ ≤ _; exact Nat.le_of_eq rfl) (hb hby at_155) (fun _ _ => ⟨rfl, rfl, (by decide : 5 + 0 ≤ _), (by decide : 30 + 0 ≤ _)⟩)
      dsimp only [Pt.U, Pt.locs, Pt.cells, Pt.slots] at X333 l333 y333 z333 st333 hQ333
      subst l333 y333 z333
      obtain ⟨rfl, N333q, K333q, Y333_0, Y333_1, Y333_2, Y333_3, Y333_4⟩ := hQ333
      have N333 := Fr.app N330 N333q
      obtain ⟨lc333, X333, N333⟩ := own_gen X333 N333
      have O333 := O330.keep K333q (allS ge_b13 (allS ge_b14 all0))
      have hk333 : _ ≤ T333.heap.size := Nat.le_trans hk330 K333q.1
      refine step (fun t k => st333.trans k) ?_
      show G T333 (mkF m 158 ls328 [])
      refine step (fun t k => XS.iload X333.here hx rfl (hb hby at_158) (by rw [hls328]; rfl) k) ?_
      show G T333 (mkF m 160 ls328 [(.int 3)])
      refine step (fun t k => XS.iconst X333.here hx rfl (hb hby at_160) k) ?_
      show G T333 (mkF m 161 ls328 [(.int 3), (.int 3)])
      refine step (fun t k => XS.icmpNo X333.here hx rfl (hb hby at_161) rfl (flt (by decide : ¬ ((3 : Int32) < (3 : Int32)))).1 k) ?_
      show G T333 (mkF m 164 ls328 [])
      refine step (fun t k => XS.aload X333.here hx rfl (hb hby at_164) (by rw [hls328]; rfl) rfl k) ?_
      show G T333 (mkF m 166 ls328 [(.ref b13)])
      refine step (fun t k => XS.lload X333.here hx rfl (hb hby at_166) (by rw [hls328]; rfl) k) ?_
      show G T333 (mkF m 168 ls328 [(.long bb), (.ref b13)])
      have q334 := X333.ldc2Long hx hown (mvT hZ (ww109 hw)) (g := (mkF m 168 ls328 [(.long bb), (.ref b13)])) rfl (hb hby at_168)
      refine step q334 ?_
      show G T333 (mkF m 171 ls328 [(.long 6), (.long bb), (.ref b13)])
      refine step (fun t k => XS.lload X333.here hx rfl (hb hby at_171) (by rw [hls328]; rfl) k) ?_
      show G T333 (mkF m 173 ls328 [(.long sp), (.long 6), (.long bb), (.ref b13)])
      refine step (fun t k => XS.lmul X333.here hx rfl (hb hby at_173) rfl k) ?_
      show G T333 (mkF m 174 ls328 [(.long ((6 : Int64) * sp)), (.long bb), (.ref b13)])
      refine step (fun t k => XS.ladd X333.here hx rfl (hb hby at_174) rfl k) ?_
      show G T333 (mkF m 175 ls328 [(.long (bb + ((6 : Int64) * sp))), (.ref b13)])
      obtain ⟨B6, hB6⟩ : ∃ z : Int64, z = (bb + ((6 : Int64) * sp)) := ⟨_, rfl⟩
      rw [← hB6]
      show G T333 (mkF m 175 ls328 [(.long B6), (.ref b13)])
      have tB6 := own_B (6 : Int64) 6 (by decide) (by decide) (by decide) hbb1 hsp1 hB6
      have hq6 := hB6
      have hK335 := (backOf (R := room_1) (p := p) (e := e) (below := below) (args := #[(.long q0), (.int p1), (.int p2), (.int p3), (.int p4)]) (len := 3) (W := 0) (rm_add_4_2 l Z a0 hw [] w_0 w_1 w_2 b13 B6 b14 kb_14 B4 B5 B2 B3 (3 : Int32) (3 : Int32) (4 : Int32) T333.heap n0 (own_old_le O333) ST O333 Y333_0 ge_b13 Y333_1 ge_b14 Y333_2 Y333_3 Y333_4 (by decide : ¬ ((3 : Int32) = (4 : Int32))) (by decide : ((3 : Int32) + (1 : Int32)) = (4 : Int32)) (by decide : (((3 : Int32) + (3 : Int32)) % (4 : Int32)) = (2 : Int32))) hZ (ww63 hw) (ww51 hw) (by decide) (by decide))
      obtain ⟨cq335, kq335, q335a, q335b, q335c⟩ := isOf hZ rfl Y333_0
      obtain ⟨_, _, ⟨T335, L335, k335, n335⟩, -, X335, ⟨Lc335, hQ335, l335, y335, z335⟩, st335⟩ := X333.virtualBack hx (y := y_10) (z := y_10) hown (mvT hZ (ww59 hw)) (mvT hZ (ww60 hw)) (notFace_of_selects (args := #[]) (mvT hZ (ww62 hw))) (mvT hZ (ww62 hw)) (mvT hZ (ww61 hw)) (by decide) hK335 q335a q335c (g := (mkF m 175 ls328 [(.long B6), (.ref b13)])) rfl (by rw [hml, hls328]; rfl) (Steps.refl _) (argsL := [(.long B6)]) (rest := []) (lenOf pd_5 rfl) rfl (by show 2 * 0 + _ ≤ _; exact Nat.le_of_eq rfl) (hb hby at_175) (fun _ _ => ⟨rfl, rfl, (by decide : 5 + 0 ≤ _), (by decide : 30 + 0 ≤ _)⟩)
      dsimp only [Pt.U, Pt.locs, Pt.cells, Pt.slots] at X335 l335 y335 z335 st335 hQ335
      subst l335 y335 z335
      obtain ⟨rfl, N335q, K335q, Y335_0, Y335_1, Y335_2, Y335_3, Y335_4⟩ := hQ335
      have N335 := Fr.app N333 N335q
      obtain ⟨lc335, X335, N335⟩ := own_gen X335 N335
      have O335 := O333.keep K335q (allS ge_b13 (allS ge_b14 all0))
      have hk335 : _ ≤ T335.heap.size := Nat.le_trans hk333 K335q.1
      refine step (fun t k => st335.trans k) ?_
      show G T335 (mkF m 178 ls328 [])
      refine step (fun t k => XS.iconst X335.here hx rfl (hb hby at_178) k) ?_
      show G T335 (mkF m 179 ls328 [(.int 4)])
      refine step (fun t k => XS.iload X335.here hx rfl (hb hby at_179) (by rw [hls328]; rfl) k) ?_
      show G T335 (mkF m 181 ls328 [(.int 3), (.int 4)])
      refine step (fun t k => XS.isub X335.here hx rfl (hb hby at_181) rfl k) ?_
      show G T335 (mkF m 182 ls328 [(.int ((4 : Int32) - (3 : Int32)))])
      rw [(by decide : ((4 : Int32) - (3 : Int32)) = (1 : Int32))]
      show G T335 (mkF m 182 ls328 [(.int 1)])
      refine step (fun t k => XS.iload X335.here hx rfl (hb hby at_182) (by rw [hls328]; rfl) k) ?_
      show G T335 (mkF m 184 ls328 [(.int 3), (.int 1)])
      refine step (fun t k => XS.iadd X335.here hx rfl (hb hby at_184) rfl k) ?_
      show G T335 (mkF m 185 ls328 [(.int ((1 : Int32) + (3 : Int32)))])
      rw [(by decide : ((1 : Int32) + (3 : Int32)) = (4 : Int32))]
      show G T335 (mkF m 185 ls328 [(.int 4)])
      obtain ⟨ls336, hls336⟩  := own_sl #[.val (.long q0), .second, .val (.int p1), .val (.int p2), .val (.int p3), .val (.int p4), .val (.long bb), .second, .val (.long sp), .second, .val (.int 3), .val (.int 3), .val (.ref b11), .val (.ref b13), .val (.long nw), .second, .val (.int 1), .val (.int 4), .unset, .unset, .unset, .unset]
      refine step (fun t k => XS.istore X335.here hx rfl (hb hby at_185) rfl (l' := ls336) (by rw [hls328, hls336]; rfl) k) ?_
      show G T335 (mkF m 187 ls336 [])
      refine step (fun t k => XS.aload X335.here hx rfl (hb hby at_187) (by rw [hls336]; rfl) rfl k) ?_
      show G T335 (mkF m 189 ls336 [(.ref b13)])
      refine step (fun t k => XS.aload X335.here hx rfl (hb hby at_189) (by rw [hls336]; rfl) rfl k) ?_
      show G T335 (mkF m 191 ls336 [(.ref b11), (.ref b13)])
      refine step (fun t k => XS.lload X335.here hx rfl (hb hby at_191) (by rw [hls336]; rfl) k) ?_
      show G T335 (mkF m 193 ls336 [(.long nw), (.ref b11), (.ref b13)])
      have f338 := (Exa.keep (Exa.keep (Exa.keep (Exa.keep f273 K272q) K330q) K333q) K335q)
      have f339 := (Fld.keep (Fld.keep (Fld.keep (Fld.keep f274 K272q (ninS (Nat.ne_of_lt lt_b11_b13) nin0)) K330q (ninS (Nat.ne_of_lt lt_b11_b13) (ninS (Nat.ne_of_lt lt_b11_b14) nin0))) K333q (ninS (Nat.ne_of_lt lt_b11_b13) (ninS (Nat.ne_of_lt lt_b11_b14) nin0))) K335q (ninS (Nat.ne_of_lt lt_b11_b13) (ninS (Nat.ne_of_lt lt_b11_b14) nin0)))
      have f340 := (Fld.keep (Fld.keep (Fld.keep (Fld.keep f275 K272q (ninS (Nat.ne_of_lt lt_b11_b13) nin0)) K330q (ninS (Nat.ne_of_lt lt_b11_b13) (ninS (Nat.ne_of_lt lt_b11_b14) nin0))) K333q (ninS (Nat.ne_of_lt lt_b11_b13) (ninS (Nat.ne_of_lt lt_b11_b14) nin0))) K335q (ninS (Nat.ne_of_lt lt_b11_b13) (ninS (Nat.ne_of_lt lt_b11_b14) nin0)))
      have hK337 := (backOf (R := room_1) (p := p) (e := e) (below := below) (args := #[(.long q0), (.int p1), (.int p2), (.int p3), (.int p4)]) (len := 3) (W := 0) (rm_cnt0_4 l Z a0 hw [] w_0 w_1 w_2 b13 b11 nw b14 kb_14 B4 B5 B6 B3 (3 : Int32) (4 : Int32) (1 : Int64) T335.heap n0 (own_old_le O335) ST O335 Y335_0 ge_b13 Y335_1 ge_b14 Y335_2 Y335_3 Y335_4 ((by decide) : (0 : Int32) < (4 : Int32)) (by decide) f338 f339 f340 (show (nw - (1 : Int64)) < B3 from (own_ltB tnw1 tB3 hsp1.1 (by decide)))) hZ (ww74 hw) (ww51 hw) (by decide) (by decide))
      obtain ⟨cq337, kq337, q337a, q337b, q337c⟩ := isOf hZ rfl Y335_0
      obtain ⟨_, _, ⟨T337, L337, k337, n337⟩, -, X337, ⟨Lc337, hQ337, l337, y337, z337⟩, st337⟩ := X335.virtualBack hx (y := y_13) (z := y_13) hown (mvT hZ (ww70 hw)) (mvT hZ (ww71 hw)) (notFace_of_selects (args := #[]) (mvT hZ (ww73 hw))) (mvT hZ (ww73 hw)) (mvT hZ (ww72 hw)) (by decide) hK337 q337a q337c (g := (mkF m 193 ls336 [(.long nw), (.ref b11), (.ref b13)])) rfl (by rw [hml, hls336]; rfl) (Steps.refl _) (argsL := [(.ref b11), (.long nw)]) (rest := []) (lenOf pd_9 rfl) rfl (by show 2 * 0 + _ ≤ _; exact Nat.le_of_eq rfl) (hb hby at_193) (fun _ _ => ⟨rfl, rfl, (by decide : 5 + 0 ≤ _), (by decide : 30 + 0 ≤ _)⟩)
      dsimp only [Pt.U, Pt.locs, Pt.cells, Pt.slots] at X337 l337 y337 z337 st337 hQ337
      subst l337 y337 z337
      obtain ⟨rfl, N337q, K337q, Y337_0, Y337_1, Y337_2, Y337_3⟩ := hQ337
      have N337 := Fr.app N335 N337q
      obtain ⟨lc337, X337, N337⟩ := own_gen X337 N337
      have O337 := O335.keep K337q (allS ge_b13 all0)
      have hk337 : _ ≤ T337.heap.size := Nat.le_trans hk335 K337q.1
      refine step (fun t k => st337.trans k) ?_
      show G T337 (mkF m 196 ls336 [(.int 4)])
      obtain ⟨ls341, hls341⟩  := own_sl #[.val (.long q0), .second, .val (.int p1), .val (.int p2), .val (.int p3), .val (.int p4), .val (.long bb), .second, .val (.long sp), .second, .val (.int 3), .val (.int 3), .val (.ref b11), .val (.ref b13), .val (.long nw), .second, .val (.int 1), .val (.int 4), .val (.int 4), .unset, .unset, .unset]
      refine step (fun t k => XS.istore X337.here hx rfl (hb hby at_196) rfl (l' := ls341) (by rw [hls336, hls341]; rfl) k) ?_
      show G T337 (mkF m 198 ls341 [])
      refine step (fun t k => XS.iload X337.here hx rfl (hb hby at_198) (by rw [hls341]; rfl) k) ?_
      show G T337 (mkF m 200 ls341 [(.int p4)])
      have q342 := X337.ldcInt hx hown (mvT hZ (ww101 hw)) (g := (mkF m 200 ls341 [(.int p4)])) rfl (hb hby at_200)
      refine step q342 ?_
      show G T337 (mkF m 202 ls341 [(.int 2147483647), (.int p4)])
      refine step (fun t k => XS.iand X337.here hx rfl (hb hby at_202) rfl k) ?_
      show G T337 (mkF m 203 ls341 [(.int (p4 &&& (2147483647 : Int32)))])
      refine step (fun t k => XS.iload X337.here hx rfl (hb hby at_203) (by rw [hls341]; rfl) k) ?_
      show G T337 (mkF m 205 ls341 [(.int 4), (.int (p4 &&& (2147483647 : Int32)))])
      refine step (fun t k => iremM X337 hx rfl (hb hby at_205) rfl (by decide) k) ?_
      show G T337 (mkF m 206 ls341 [(.int ((p4 &&& (2147483647 : Int32)) % (4 : Int32)))])
      obtain ⟨ls343, hls343⟩  := own_sl #[.val (.long q0), .second, .val (.int p1), .val (.int p2), .val (.int p3), .val (.int p4), .val (.long bb), .second, .val (.long sp), .second, .val (.int 3), .val (.int 3), .val (.ref b11), .val (.ref b13), .val (.long nw), .second, .val (.int 1), .val (.int 4), .val (.int 4), .val (.int ((p4 &&& (2147483647 : Int32)) % (4 : Int32))), .unset, .unset]
      refine step (fun t k => XS.istore X337.here hx rfl (hb hby at_206) rfl (l' := ls343) (by rw [hls341, hls343]; rfl) k) ?_
      show G T337 (mkF m 208 ls343 [])
      obtain ⟨jj, hjj⟩ : ∃ z : Int32, z = ((p4 &&& (2147483647 : Int32)) % (4 : Int32)) := ⟨_, rfl⟩
      obtain ⟨ls344, hls344⟩  := own_sl #[.val (.long q0), .second, .val (.int p1), .val (.int p2), .val (.int p3), .val (.int p4), .val (.long bb), .second, .val (.long sp), .second, .val (.int 3), .val (.int 3), .val (.ref b11), .val (.ref b13), .val (.long nw), .second, .val (.int 1), .val (.int 4), .val (.int 4), .val (.int jj), .unset, .unset]
      rw [show ls343 = ls344 from by rw [hls343, hls344, hjj]]
      show G T337 (mkF m 208 ls344 [])
      have hj := own_j4 p4
      rw [← hjj] at hj
      refine step (fun t k => XS.aload X337.here hx rfl (hb hby at_208) (by rw [hls344]; rfl) rfl k) ?_
      show G T337 (mkF m 210 ls344 [(.ref b13)])
      refine step (fun t k => XS.iload X337.here hx rfl (hb hby at_210) (by rw [hls344]; rfl) k) ?_
      show G T337 (mkF m 212 ls344 [(.int jj), (.ref b13)])
      have f346 := (Arv.keep Y335_4 K337q (ninS (Nat.ne_of_gt lt_b13_b14) nin0))
      have hK345 := (backOf (R := room_1) (p := p) (e := e) (below := below) (args := #[(.long q0), (.int p1), (.int p2), (.int p3), (.int p4)]) (len := 3) (W := 0) (rm_get4 l Z a0 hw [] w_0 w_1 w_2 b13 jj b14 kb_14 B4 B5 B6 B3 (3 : Int32) T337.heap n0 (own_old_le O337) ST O337 Y337_1 Y337_2 f346 (by rcases hj with h | h | h | h <;> (rw [h]; decide))) hZ (ww106 hw) (ww51 hw) (by decide) (by decide))
      obtain ⟨cq345, kq345, q345a, q345b, q345c⟩ := isOf hZ rfl Y337_0
      obtain ⟨_, _, ⟨T345, L345, k345, n345⟩, -, X345, ⟨Lc345, hQ345, l345, y345, z345⟩, st345⟩ := X337.virtualBack hx (y := y_14) (z := y_14) hown (mvT hZ (ww102 hw)) (mvT hZ (ww103 hw)) (notFace_of_selects (args := #[]) (mvT hZ (ww105 hw))) (mvT hZ (ww105 hw)) (mvT hZ (ww104 hw)) (by decide) hK345 q345a q345c (g := (mkF m 212 ls344 [(.int jj), (.ref b13)])) rfl (by rw [hml, hls344]; rfl) (Steps.refl _) (argsL := [(.int jj)]) (rest := []) (lenOf pd_10 rfl) rfl (by show 2 * 0 + _ ≤ _; exact Nat.le_of_eq rfl) (hb hby at_212) (fun _ _ => ⟨rfl, rfl, (by decide : 5 + 0 ≤ _), (by decide : 30 + 0 ≤ _)⟩)
      dsimp only [Pt.U, Pt.locs, Pt.cells, Pt.slots] at X345 l345 y345 z345 st345 hQ345
      subst l345 y345 z345
      obtain ⟨rfl, N345q, e345⟩ := hQ345
      have N345 := Fr.app N337 N345q
      obtain ⟨lc345, X345, N345⟩ := own_gen X345 N345
      refine step (fun t k => st345.trans k) ?_
      show G T345 (mkF m 215 ls344 [(.long (f_get4 w_0 w_1 w_2 b13 jj b14 kb_14 B4 B5 B6 B3 (3 : Int32)))])
      have r347 : (f_get4 w_0 w_1 w_2 b13 jj b14 kb_14 B4 B5 B6 B3 (3 : Int32)) = (own_at4 B4 B5 B6 B3 (((3 : Int32) + jj) % (4 : Int32))) := rfl
      rw [r347]
      show G T345 (mkF m 215 ls344 [(.long (own_at4 B4 B5 B6 B3 (((3 : Int32) + jj) % (4 : Int32))))])
      obtain ⟨ls348, hls348⟩  := own_sl #[.val (.long q0), .second, .val (.int p1), .val (.int p2), .val (.int p3), .val (.int p4), .val (.long bb), .second, .val (.long sp), .second, .val (.int 3), .val (.int 3), .val (.ref b11), .val (.ref b13), .val (.long nw), .second, .val (.int 1), .val (.int 4), .val (.int 4), .val (.int jj), .val (.long (own_at4 B4 B5 B6 B3 (((3 : Int32) + jj) % (4 : Int32)))), .second]
      refine step (fun t k => XS.lstore X345.here hx rfl (hb hby at_215) rfl (l' := ls348) (by rw [hls344, hls348]; rfl) k) ?_
      show G T345 (mkF m 217 ls348 [])
      refine step (fun t k => XS.iload X345.here hx rfl (hb hby at_217) (by rw [hls348]; rfl) k) ?_
      show G T345 (mkF m 219 ls348 [(.int 1)])
      refine step (fun t k => XS.iconst X345.here hx rfl (hb hby at_219) k) ?_
      show G T345 (mkF m 220 ls348 [(.int 4), (.int 1)])
      refine step (fun t k => XS.iload X345.here hx rfl (hb hby at_220) (by rw [hls348]; rfl) k) ?_
      show G T345 (mkF m 222 ls348 [(.int 3), (.int 4), (.int 1)])
      refine step (fun t k => XS.isub X345.here hx rfl (hb hby at_222) rfl k) ?_
      show G T345 (mkF m 223 ls348 [(.int ((4 : Int32) - (3 : Int32))), (.int 1)])
      rw [(by decide : ((4 : Int32) - (3 : Int32)) = (1 : Int32))]
      show G T345 (mkF m 223 ls348 [(.int 1), (.int 1)])
      refine step (fun t k => XS.icmpNo X345.here hx rfl (hb hby at_223) rfl (teq (by decide : (1 : Int32) = (1 : Int32))).2 k) ?_
      show G T345 (mkF m 226 ls348 [])
      refine step (fun t k => XS.iload X345.here hx rfl (hb hby at_226) (by rw [hls348]; rfl) k) ?_
      show G T345 (mkF m 228 ls348 [(.int 4)])
      refine step (fun t k => XS.iload X345.here hx rfl (hb hby at_228) (by rw [hls348]; rfl) k) ?_
      show G T345 (mkF m 230 ls348 [(.int 4), (.int 4)])
      refine step (fun t k => XS.icmpNo X345.here hx rfl (hb hby at_230) rfl (teq (by decide : (4 : Int32) = (4 : Int32))).2 k) ?_
      show G T345 (mkF m 233 ls348 [])
      refine step (fun t k => XS.lload X345.here hx rfl (hb hby at_233) (by rw [hls348]; rfl) k) ?_
      show G T345 (mkF m 235 ls348 [(.long (own_at4 B4 B5 B6 B3 (((3 : Int32) + jj) % (4 : Int32))))])
      refine step (fun t k => XS.lload X345.here hx rfl (hb hby at_235) (by rw [hls348]; rfl) k) ?_
      show G T345 (mkF m 237 ls348 [(.long bb), (.long (own_at4 B4 B5 B6 B3 (((3 : Int32) + jj) % (4 : Int32))))])
      refine step (fun t k => XS.iload X345.here hx rfl (hb hby at_237) (by rw [hls348]; rfl) k) ?_
      show G T345 (mkF m 239 ls348 [(.int 3), (.long bb), (.long (own_at4 B4 B5 B6 B3 (((3 : Int32) + jj) % (4 : Int32))))])
      refine step (fun t k => XS.iload X345.here hx rfl (hb hby at_239) (by rw [hls348]; rfl) k) ?_
      show G T345 (mkF m 241 ls348 [(.int jj), (.int 3), (.long bb), (.long (own_at4 B4 B5 B6 B3 (((3 : Int32) + jj) % (4 : Int32))))])
      refine step (fun t k => XS.iadd X345.here hx rfl (hb hby at_241) rfl k) ?_
      show G T345 (mkF m 242 ls348 [(.int ((3 : Int32) + jj)), (.long bb), (.long (own_at4 B4 B5 B6 B3 (((3 : Int32) + jj) % (4 : Int32))))])
      refine step (fun t k => XS.i2l X345.here hx rfl (hb hby at_242) rfl k) ?_
      show G T345 (mkF m 243 ls348 [(.long (((3 : Int32) + jj).toInt64)), (.long bb), (.long (own_at4 B4 B5 B6 B3 (((3 : Int32) + jj) % (4 : Int32))))])
      refine step (fun t k => XS.lload X345.here hx rfl (hb hby at_243) (by rw [hls348]; rfl) k) ?_
      show G T345 (mkF m 245 ls348 [(.long sp), (.long (((3 : Int32) + jj).toInt64)), (.long bb), (.long (own_at4 B4 B5 B6 B3 (((3 : Int32) + jj) % (4 : Int32))))])
      refine step (fun t k => XS.lmul X345.here hx rfl (hb hby at_245) rfl k) ?_
      show G T345 (mkF m 246 ls348 [(.long ((((3 : Int32) + jj).toInt64) * sp)), (.long bb), (.long (own_at4 B4 B5 B6 B3 (((3 : Int32) + jj) % (4 : Int32))))])
      refine step (fun t k => XS.ladd X345.here hx rfl (hb hby at_246) rfl k) ?_
      show G T345 (mkF m 247 ls348 [(.long (bb + ((((3 : Int32) + jj).toInt64) * sp))), (.long (own_at4 B4 B5 B6 B3 (((3 : Int32) + jj) % (4 : Int32))))])
      refine step (fun t k => XS.lcmp X345.here hx rfl (hb hby at_247) rfl k) ?_
      show G T345 (mkF m 248 ls348 [(.int (lcmpW (own_at4 B4 B5 B6 B3 (((3 : Int32) + jj) % (4 : Int32))) (bb + ((((3 : Int32) + jj).toInt64) * sp))))])
      refine step (fun t k => XS.ifNo X345.here hx rfl (hb hby at_248) rfl ((if0 _ _).trans (teq ((lw_eq _ _).mpr (by rcases hj with h | h | h | h <;> rw [h] <;> first | exact hq3 | exact hq4 | exact hq5 | exact hq6))).2) k) ?_
      show G T345 (mkF m 251 ls348 [])
      refine step (fun t k => XS.iconst X345.here hx rfl (hb hby at_251) k) ?_
      show G T345 (mkF m 252 ls348 [(.int 1)])
      refine step (fun t k => XS.goto X345.here hx rfl (pc0 := 252) (pc' := 256) rfl (hb hby at_252) (by decide) (by decide) k) ?_
      show G T345 (mkF m 256 ls348 [(.int 1)])
      exact ret (v := some (.int 1)) X345 hS hk337 (fun h => by rw [Bd.returns] at h; cases h) (fun fs hr => retN X345 hx (t := .boolean) Bd.returns (by simp) (hb hby at_256) hr) e345 ⟨rfl, N345⟩ (by decide) (by decide)
set_option maxRecDepth 65536 in
set_option maxHeartbeats 40000000 in
theorem comes_1 {Post : Tables → Env → Array Value → State → Outcome → State → Prop} (hpost : ∀ tb e args s v u, (limb_1_1.after args s (.returned v) u = true ∧ limb_1_2.after args s (.returned v) u = true ∧ True) → ReturnedEndW s (.returned v) u (Jvm.fieldLocs frame_1_writes args s ++ Jvm.arrayLocs frame_1_arrays args s ++ Jvm.staticLocs frame_1_statics s) 24 1152 → Post tb e args s (.returned v) u) :
    ArmFor flags0 classFile x code maxLocals ret World_1 tables_1 room_1 Calls_1 rest_1 Pre_1 Post := by
  intro l hfl _ _ p e ha hc hk s m args below hf hA hF happ hP
  obtain ⟨hcalls, hrest, hpre⟩ := hP
  obtain ⟨-, -, -, hnamed, -, -, -, hat⟩ := (Spec.applies_iff hf).mp happ
  obtain ⟨hg, hn⟩ := and_e (Cond.before_iff.mp (show (Jvm.Cond.and given_1 narrow_1).before args s = true from hpre))
  obtain ⟨g1a, g1b⟩ := and_e hg
  obtain ⟨g2a, g2b⟩ := and_e g1b
  obtain ⟨g3a, g3b⟩ := and_e g2b
  obtain ⟨g4a, g4b⟩ := and_e g3b
  obtain ⟨g5a, g5b⟩ := and_e g4b
  obtain ⟨w0, w1, w2, w3, w4, rfl⟩ : ∃ w0 w1 w2 w3 w4 : Value, args = #[w0, w1, w2, w3, w4] := by
    have hs : args.size = 5 := by simpa [Cond.value, given_1] using g1a
    obtain ⟨L⟩ := args
    match L, hs with
    | [w0, w1, w2, w3, w4], _ => exact ⟨w0, w1, w2, w3, w4, rfl⟩
  have hw := fun d (hd : d ∈ tables_1) => atoms_spec (ws := Jvm.Cond.code x code maxLocals ret :: tables_1) hat d (List.mem_cons_of_mem _ hd)
  have hfit : Fit s := fun {y c} hc i hi => by
    obtain ⟨ha, rfl⟩ := Array.getElem?_eq_some_iff.mp hc
    have q := List.all_eq_true.mp ((Array.all_eq_true_iff_forall_mem.mp hF) _ (Array.getElem_mem ha)) i (List.mem_range.mpr hi)
    simpa [Array.getElem?_eq_getElem hi] using q
  obtain ⟨i0, ei0⟩ := isL_v g2a
  obtain rfl : w0 = (.long i0) := Option.some.inj ei0
  obtain ⟨i1, ei1⟩ := is_v g3a
  obtain rfl : w1 = (.int i1) := Option.some.inj ei1
  obtain ⟨i2, ei2⟩ := is_v g4a
  obtain rfl : w2 = (.int i2) := Option.some.inj ei2
  obtain ⟨i3, ei3⟩ := is_v g5a
  obtain rfl : w3 = (.int i3) := Option.some.inj ei3
  obtain ⟨i4, ei4⟩ := is_v g5b
  obtain rfl : w4 = (.int i4) := Option.some.inj ei4
  obtain ⟨k1a, k1b⟩ := and_e hn
  obtain ⟨k2a, k2b⟩ := and_e k1b
  obtain ⟨k3a, k3b⟩ := and_e k2b
  obtain ⟨k4a, k4b⟩ := and_e k3b
  obtain ⟨k5a, k5b⟩ := and_e k4b
  obtain ⟨k6a, k6b⟩ := and_e k5b
  obtain ⟨k7a, k7b⟩ := and_e k6b
  obtain ⟨k8a, k8b⟩ := and_e k7b
  obtain ⟨w_0, ev_SLIDING⟩ := exa_v k1a
  obtain ⟨w_1, ev_CALENDAR⟩ := exa_v k2a
  obtain ⟨w_2, ev_SwitchMap_co⟩ := arr_v k5a
  obtain ⟨c_SwitchMap_co, V_SwitchMap_co⟩ : ∃ k, Arv s s.heap w_2 k .int (3 : Int32) [(.int 1), (.int 2), (.int 3)] (.int (0 : Int32)) := by
    obtain ⟨cl, hA⟩ := Arr.start ev_SwitchMap_co k5a
    have hcl := hA.1
    obtain ⟨hl1, hl2⟩ := own_lenI ev_SwitchMap_co hA (k6a)
    exact ⟨_, Arv.start hfit hA hl1 hl2 (by decide) (by decide) ⟨own_slotI ev_SwitchMap_co hcl (k7a), ⟨own_slotI ev_SwitchMap_co hcl (k8a), ⟨own_slotI ev_SwitchMap_co hcl (k8b), trivial⟩⟩⟩⟩
  obtain ⟨n, o, h1, h2, h3, _, L, rfl, ⟨rfl, N⟩, hq⟩ := rm_law l s _ hw tables_1 w_0 w_1 w_2 i0 i1 i2 i3 i4 s.heap s.heap.size (Nat.le_refl _) ⟨Sta.start ev_SLIDING (Or.inr ⟨(ww16 hw), (ww17 hw)⟩), Exa.start ev_SLIDING k1a, Sta.start ev_CALENDAR (Or.inr ⟨(ww16 hw), (ww42 hw)⟩), Exa.start ev_CALENDAR k2a, own_fldI ev_SLIDING k3a, own_fldI ev_CALENDAR k4a, Sta.start ev_SwitchMap_co (Or.inr ⟨(ww76 hw), (ww77 hw)⟩), ⟨c_SwitchMap_co, V_SwitchMap_co⟩⟩ (Old.start s)  p e ha hc hk s m _ below hf ((Spec.applies_iff_loose hf).mp happ).1 ⟨rfl, State.Warmed39.refl s, rfl⟩ trivial
  refine ⟨n, _, h1, h2, h3, hpost _ _ _ _ _ _ ⟨Cond.after_iff.mpr rfl, Cond.after_iff.mpr (eq_i res_at (Term.int_eval (1)) rfl), trivial⟩ ⟨hq.1, hq.2.1, hq.2.2.1, (hq.2.2.2.sift fun y hy => Or.inr (N y hy)).mono (by decide) (by decide)⟩⟩
theorem main_1_1 : Claimed_1_1 := comes_1 fun _ _ _ _ _ _ h hF => ⟨h.1, hF⟩
theorem main_1_2 : Claimed_1_2 := comes_1 fun _ _ _ _ _ _ h hF => ⟨h.2.1, hF⟩
end Jvm.Pilot.@@N@@
namespace Jvm.Pilot.@@N@@
open Jvm Jvm.ClassFile Sem Op Lib Jvm.Free Jvm.Stand Jvm.Pilot.@@N@@.Jvm.D
/-! MADE BY PROGRAM (witnessworld.py) out of the Statement's table words and the real class files: 23 classes; the members and pool entries that the words name. The judged class is class 1, her method 1. -/
namespace start1
open Jvm.ClassFile
def u (s : String) : CpInfo := .utf8 (stringToUtf16 s)
/-- a pool by its gaps: so many unusable entries, then the entry; so many at the end -/
def gap : Nat → List CpInfo → List CpInfo
  | 0, r => r
  | n + 1, r => .unusable :: gap n r
def poolList (es : List (Nat × CpInfo)) (last : Nat) : List CpInfo := es.foldr (fun e r => gap e.1 (e.2 :: r)) (gap last [])
def pool (es : List (Nat × CpInfo)) (last : Nat) : Array CpInfo := ⟨poolList es last⟩
def fileOf (pool : Array CpInfo) (this : Nat) (attrs : Array Attribute := #[]) (ms : Array MethodInfo := #[]) (fl : Nat := 33) (sup : Nat := 0) (ifs : Array Nat := #[]) (fds : Array FieldInfo := #[]) : ClassFile where
  minorVersion := 0
  majorVersion := 65
  constantPool := pool
  accessFlags := fl
  thisClass := this
  superClass := sup
  interfaces := ifs
  fields := fds
  methods := ms
  attributes := attrs
def plain (name : String) (sup : Option ClassId) : Class where
  name := name
  kind := .ordinary
  loader := none
  accessFlags := 33
  super := sup
  interfaces := #[]
  cf := none
  fields := #[]
  methods := #[]
  instanceTypes := #[]
  staticTypes := #[]
  resolved := #[]
  callSites := []
  init := .initialized
  statics := none
  mirror := none

def pool0 : Array CpInfo := pool [(5, u "<init>"), (0, u "()V"), (1, .class_ 10), (1, u "java/lang/Object")] 113

def k0c0 : Code := { maxStack := 0, maxLocals := 1, code := object_method_1_code, exceptionTable := #[], attributes := #[] }
def k0m0 : Method := { name := "<init>", desc := "()V", sig := { parameters := [], returnType := none }, accessFlags := 1, code := some k0c0 }
/-- java/lang/Object -/
def k0 : Class := { plain "java/lang/Object" none with
  accessFlags := 33
  interfaces := #[]
  cf := some (fileOf pool0 8 #[] #[{ accessFlags := 1, nameIndex := 5, descriptorIndex := 6, attributes := #[] }] 33 0 #[] #[])
  fields := #[]
  methods := #[k0m0]
  instanceTypes := #[]
  staticTypes := #[]
  resolved := Array.replicate 124 none
  statics := none }

def pool1 : Array CpInfo := pool [(2, .class_ 4), (0, .nameAndType 5 6), (0, u "java/lang/Object"), (0, u "<init>"), (0, u "()V"), (2, .long 9223372036854775809), (1, .methodref 12 13), (0, .class_ 14), (0, .nameAndType 15 16), (0, u "java/lang/Math"), (0, u "max"), (0, u "(JJ)J"), (0, .long 9223372036854773759), (1, .methodref 12 20), (0, .nameAndType 21 16), (0, u "min"), (0, .methodref 23 24), (0, .class_ 25), (0, .nameAndType 26 27), (0, u "com/example/tempogate/tempogate/rules/Window"), (0, u "sliding"), (0, u "(J)Lcom/example/tempogate/tempogate/rules/Window;"), (0, .class_ 29), (0, u "com/example/tempogate/tempogate/gate/AdmissionTimes"), (0, .methodref 28 3), (0, .methodref 28 32), (0, .nameAndType 33 34), (0, u "add"), (0, u "(J)V"), (0, .long 2), (1, .long 3), (1, .methodref 28 40), (0, .nameAndType 41 42), (0, u "countAt"), (0, u "(Lcom/example/tempogate/tempogate/rules/Window;J)I"), (0, .long 4), (1, .long 5), (1, .long 6), (1, .integer 2147483647), (0, .methodref 28 51), (0, .nameAndType 52 53), (0, u "get"), (0, u "(I)J"), (0, .class_ 55), (0, u "com/example/tempogate/tempogate/gate/AdmissionTimesAddPinLaw"), (2, u "law"), (0, u "(JIIII)Z")] 3

def k1m0 : Method := { name := "<init>", desc := "()V", sig := { parameters := [], returnType := none }, accessFlags := 1, code := none }
def k1c1 : Code := { maxStack := 8, maxLocals := 22, code := code, exceptionTable := #[], attributes := #[] }
def k1m1 : Method := { name := "law", desc := "(JIIII)Z", sig := { parameters := [.long, .int, .int, .int, .int], returnType := some .boolean }, accessFlags := 9, code := some k1c1 }
/-- com/example/tempogate/tempogate/gate/AdmissionTimesAddPinLaw -/
def k1 : Class := { plain "com/example/tempogate/tempogate/gate/AdmissionTimesAddPinLaw" (some 0) with
  accessFlags := 49
  interfaces := #[]
  cf := some (fileOf pool1 54 #[] #[{ accessFlags := 1, nameIndex := 5, descriptorIndex := 6, attributes := #[] }, { accessFlags := 9, nameIndex := 58, descriptorIndex := 59, attributes := #[] }] 49 2 #[] #[])
  fields := #[]
  methods := #[k1m0, k1m1]
  instanceTypes := #[]
  staticTypes := #[]
  resolved := Array.replicate 63 none
  statics := none }

def pool2 : Array CpInfo := pool [(1, .class_ 2), (0, u "java/lang/Math"), (1, .class_ 6), (1, u "java/lang/Object"), (0, u "<init>"), (0, u "()V"), (89, .class_ 100), (1, u "java/lang/Math$RandomNumberGeneratorHolder"), (20, u "(JJ)J"), (50, u "negativeZeroFloatBits"), (0, u "J"), (2, u "negativeZeroDoubleBits"), (21, u "max"), (2, u "min"), (43, u "$assertionsDisabled"), (0, u "Z"), (91, u "twoToTheDoubleScaleDown"), (0, u "D"), (4, u "twoToTheDoubleScaleUp"), (9, u "E"), (3, u "PI"), (2, u "TAU"), (2, u "DEGREES_TO_RADIANS"), (0, u "RADIANS_TO_DEGREES")] 94

def k2m0 : Method := { name := "<init>", desc := "()V", sig := { parameters := [], returnType := none }, accessFlags := 2, code := none }
def k2c1 : Code := { maxStack := 4, maxLocals := 4, code := jdk_29_method_66_code, exceptionTable := #[], attributes := #[] }
def k2m1 : Method := { name := "max", desc := "(JJ)J", sig := { parameters := [.long, .long], returnType := some .long }, accessFlags := 9, code := some k2c1 }
def k2c2 : Code := { maxStack := 4, maxLocals := 4, code := jdk_29_method_70_code, exceptionTable := #[], attributes := #[] }
def k2m2 : Method := { name := "min", desc := "(JJ)J", sig := { parameters := [.long, .long], returnType := some .long }, accessFlags := 9, code := some k2c2 }
/-- java/lang/Math -/
def k2 : Class := { plain "java/lang/Math" (some 0) with
  accessFlags := 49
  interfaces := #[]
  cf := some (fileOf pool2 1 #[.nestMembers #[98]] #[{ accessFlags := 2, nameIndex := 7, descriptorIndex := 8, attributes := #[] }, { accessFlags := 9, nameIndex := 198, descriptorIndex := 121, attributes := #[] }, { accessFlags := 9, nameIndex := 201, descriptorIndex := 121, attributes := #[] }] 49 4 #[] #[{ accessFlags := 25, nameIndex := 354, descriptorIndex := 339, attributes := #[] }, { accessFlags := 25, nameIndex := 358, descriptorIndex := 339, attributes := #[] }, { accessFlags := 25, nameIndex := 361, descriptorIndex := 339, attributes := #[] }, { accessFlags := 26, nameIndex := 364, descriptorIndex := 339, attributes := #[] }, { accessFlags := 26, nameIndex := 365, descriptorIndex := 339, attributes := #[] }, { accessFlags := 26, nameIndex := 172, descriptorIndex := 173, attributes := #[] }, { accessFlags := 26, nameIndex := 176, descriptorIndex := 173, attributes := #[] }, { accessFlags := 8, nameIndex := 344, descriptorIndex := 339, attributes := #[] }, { accessFlags := 8, nameIndex := 338, descriptorIndex := 339, attributes := #[] }, { accessFlags := 4120, nameIndex := 245, descriptorIndex := 246, attributes := #[] }])
  fields := #[{ name := "E", type := .double, accessFlags := 25, slot := 0, constantValue := 0 }, { name := "PI", type := .double, accessFlags := 25, slot := 1, constantValue := 0 }, { name := "TAU", type := .double, accessFlags := 25, slot := 2, constantValue := 0 }, { name := "DEGREES_TO_RADIANS", type := .double, accessFlags := 26, slot := 3, constantValue := 0 }, { name := "RADIANS_TO_DEGREES", type := .double, accessFlags := 26, slot := 4, constantValue := 0 }, { name := "negativeZeroFloatBits", type := .long, accessFlags := 26, slot := 5, constantValue := 0 }, { name := "negativeZeroDoubleBits", type := .long, accessFlags := 26, slot := 6, constantValue := 0 }, { name := "twoToTheDoubleScaleUp", type := .double, accessFlags := 8, slot := 7, constantValue := 0 }, { name := "twoToTheDoubleScaleDown", type := .double, accessFlags := 8, slot := 8, constantValue := 0 }, { name := "$assertionsDisabled", type := .boolean, accessFlags := 4120, slot := 9, constantValue := 0 }]
  methods := #[k2m0, k2m1, k2m2]
  instanceTypes := #[]
  staticTypes := #[.double, .double, .double, .double, .double, .long, .long, .double, .double, .boolean]
  resolved := Array.replicate 460 none
  statics := none }

def pool3 : Array CpInfo := pool [(1, .methodref 2 3), (0, .class_ 4), (0, .nameAndType 5 6), (0, u "java/lang/Object"), (0, u "<init>"), (0, u "()V"), (0, .class_ 8), (0, u "java/lang/Record")] 13

def k3c0 : Code := { maxStack := 1, maxLocals := 1, code := jdk_30_method_1_code, exceptionTable := #[], attributes := #[] }
def k3m0 : Method := { name := "<init>", desc := "()V", sig := { parameters := [], returnType := none }, accessFlags := 4, code := some k3c0 }
/-- java/lang/Record -/
def k3 : Class := { plain "java/lang/Record" (some 0) with
  accessFlags := 1057
  interfaces := #[]
  cf := some (fileOf pool3 7 #[] #[{ accessFlags := 4, nameIndex := 5, descriptorIndex := 6, attributes := #[] }] 1057 2 #[] #[])
  fields := #[]
  methods := #[k3m0]
  instanceTypes := #[]
  staticTypes := #[]
  resolved := Array.replicate 22 none
  statics := none }

def pool4 : Array CpInfo := pool [(1, .methodref 2 3), (0, .class_ 4), (0, .nameAndType 5 6), (0, u "java/lang/Record"), (0, u "<init>"), (0, u "()V"), (0, .string 8), (0, u "type"), (0, .methodref 10 11), (0, .class_ 12), (0, .nameAndType 13 14), (0, u "java/util/Objects"), (0, u "requireNonNull"), (0, u "(Ljava/lang/Object;Ljava/lang/String;)Ljava/lang/Object;"), (9, .fieldref 25 26), (0, .class_ 27), (0, .nameAndType 28 29), (0, u "com/example/tempogate/tempogate/rules/Window$Type"), (0, u "CALENDAR"), (0, u "Lcom/example/tempogate/tempogate/rules/Window$Type;"), (0, .class_ 31), (0, u "com/example/tempogate/tempogate/rules/Window"), (0, .long 86400000), (9, .fieldref 30 43), (0, .nameAndType 8 29), (0, .fieldref 30 45), (0, .nameAndType 46 47), (0, u "millis"), (0, u "J"), (0, .fieldref 30 49), (0, .nameAndType 50 47), (0, u "offsetMillis"), (0, .fieldref 25 52), (0, .nameAndType 53 29), (0, u "SLIDING"), (0, .methodref 30 55), (0, .nameAndType 5 56), (0, u "(Lcom/example/tempogate/tempogate/rules/Window$Type;JJ)V"), (18, u "DAY_MILLIS"), (5, u "sliding"), (0, u "(J)Lcom/example/tempogate/tempogate/rules/Window;"), (5, u "()Lcom/example/tempogate/tempogate/rules/Window$Type;"), (0, u "()J")] 36

def k4c0 : Code := { maxStack := 4, maxLocals := 6, code := prog_21_method_1_code, exceptionTable := #[], attributes := #[] }
def k4m0 : Method := { name := "<init>", desc := "(Lcom/example/tempogate/tempogate/rules/Window$Type;JJ)V", sig := { parameters := [(.object "com/example/tempogate/tempogate/rules/Window$Type"), .long, .long], returnType := none }, accessFlags := 1, code := some k4c0 }
def k4c1 : Code := { maxStack := 7, maxLocals := 2, code := prog_21_method_2_code, exceptionTable := #[], attributes := #[] }
def k4m1 : Method := { name := "sliding", desc := "(J)Lcom/example/tempogate/tempogate/rules/Window;", sig := { parameters := [.long], returnType := some (.object "com/example/tempogate/tempogate/rules/Window") }, accessFlags := 9, code := some k4c1 }
def k4c2 : Code := { maxStack := 1, maxLocals := 1, code := prog_21_method_7_code, exceptionTable := #[], attributes := #[] }
def k4m2 : Method := { name := "type", desc := "()Lcom/example/tempogate/tempogate/rules/Window$Type;", sig := { parameters := [], returnType := some (.object "com/example/tempogate/tempogate/rules/Window$Type") }, accessFlags := 1, code := some k4c2 }
def k4c3 : Code := { maxStack := 2, maxLocals := 1, code := prog_21_method_8_code, exceptionTable := #[], attributes := #[] }
def k4m3 : Method := { name := "millis", desc := "()J", sig := { parameters := [], returnType := some .long }, accessFlags := 1, code := some k4c3 }
/-- com/example/tempogate/tempogate/rules/Window -/
def k4 : Class := { plain "com/example/tempogate/tempogate/rules/Window" (some 3) with
  accessFlags := 49
  interfaces := #[]
  cf := some (fileOf pool4 30 #[.nestMembers #[25]] #[{ accessFlags := 1, nameIndex := 5, descriptorIndex := 56, attributes := #[] }, { accessFlags := 9, nameIndex := 81, descriptorIndex := 82, attributes := #[] }, { accessFlags := 1, nameIndex := 8, descriptorIndex := 88, attributes := #[] }, { accessFlags := 1, nameIndex := 46, descriptorIndex := 89, attributes := #[] }] 49 2 #[] #[{ accessFlags := 18, nameIndex := 8, descriptorIndex := 29, attributes := #[] }, { accessFlags := 18, nameIndex := 46, descriptorIndex := 47, attributes := #[] }, { accessFlags := 18, nameIndex := 50, descriptorIndex := 47, attributes := #[] }, { accessFlags := 25, nameIndex := 75, descriptorIndex := 47, attributes := #[] }])
  fields := #[{ name := "type", type := (.object "com/example/tempogate/tempogate/rules/Window$Type"), accessFlags := 18, slot := 0, constantValue := 0 }, { name := "millis", type := .long, accessFlags := 18, slot := 1, constantValue := 0 }, { name := "offsetMillis", type := .long, accessFlags := 18, slot := 2, constantValue := 0 }, { name := "DAY_MILLIS", type := .long, accessFlags := 25, slot := 0, constantValue := 0 }]
  methods := #[k4m0, k4m1, k4m2, k4m3]
  instanceTypes := #[(.object "com/example/tempogate/tempogate/rules/Window$Type"), .long, .long]
  staticTypes := #[.long]
  resolved := Array.replicate 126 none
  statics := none }

def pool5 : Array CpInfo := pool [(1, .class_ 2), (0, u "java/lang/constant/Constable"), (0, .class_ 4), (0, u "java/lang/Object")] 6

/-- java/lang/constant/Constable -/
def k5 : Class := { plain "java/lang/constant/Constable" (some 0) with
  accessFlags := 1537
  interfaces := #[]
  cf := some (fileOf pool5 1 #[] #[] 1537 3 #[] #[])
  fields := #[]
  methods := #[]
  instanceTypes := #[]
  staticTypes := #[]
  resolved := Array.replicate 11 none
  statics := none }

def pool6 : Array CpInfo := pool [(1, .class_ 2), (0, u "java/lang/Comparable"), (0, .class_ 4), (0, u "java/lang/Object")] 7

/-- java/lang/Comparable -/
def k6 : Class := { plain "java/lang/Comparable" (some 0) with
  accessFlags := 1537
  interfaces := #[]
  cf := some (fileOf pool6 1 #[] #[] 1537 3 #[] #[])
  fields := #[]
  methods := #[]
  instanceTypes := #[]
  staticTypes := #[]
  resolved := Array.replicate 12 none
  statics := none }

def pool7 : Array CpInfo := pool [(1, .class_ 2), (0, u "java/io/Serializable"), (0, .class_ 4), (0, u "java/lang/Object")] 2

/-- java/io/Serializable -/
def k7 : Class := { plain "java/io/Serializable" (some 0) with
  accessFlags := 1537
  interfaces := #[]
  cf := some (fileOf pool7 1 #[] #[] 1537 3 #[] #[])
  fields := #[]
  methods := #[]
  instanceTypes := #[]
  staticTypes := #[]
  resolved := Array.replicate 7 none
  statics := none }

def pool8 : Array CpInfo := pool [(2, .class_ 4), (1, u "java/lang/Enum"), (0, u "name"), (0, u "Ljava/lang/String;"), (0, .fieldref 2 8), (0, .nameAndType 9 10), (0, u "ordinal"), (0, u "I"), (1, .class_ 14), (1, u "java/lang/Object"), (4, u "hash"), (86, .class_ 108), (1, u "java/lang/Enum$EnumDesc"), (2, .class_ 112), (0, u "java/lang/constant/Constable"), (0, .class_ 114), (0, u "java/lang/Comparable"), (0, .class_ 116), (0, u "java/io/Serializable"), (9, u "()I")] 77

def k8c0 : Code := { maxStack := 1, maxLocals := 1, code := jdk_37_method_2_code, exceptionTable := #[], attributes := #[] }
def k8m0 : Method := { name := "ordinal", desc := "()I", sig := { parameters := [], returnType := some .int }, accessFlags := 17, code := some k8c0 }
/-- java/lang/Enum -/
def k8 : Class := { plain "java/lang/Enum" (some 0) with
  accessFlags := 1057
  interfaces := #[5, 6, 7]
  cf := some (fileOf pool8 2 #[.nestMembers #[106]] #[{ accessFlags := 17, nameIndex := 9, descriptorIndex := 126, attributes := #[] }] 1057 12 #[111, 113, 115] #[{ accessFlags := 18, nameIndex := 5, descriptorIndex := 6, attributes := #[] }, { accessFlags := 18, nameIndex := 9, descriptorIndex := 10, attributes := #[] }, { accessFlags := 2, nameIndex := 19, descriptorIndex := 10, attributes := #[] }])
  fields := #[{ name := "name", type := (.object "java/lang/String"), accessFlags := 18, slot := 0, constantValue := 0 }, { name := "ordinal", type := .int, accessFlags := 18, slot := 1, constantValue := 0 }, { name := "hash", type := .int, accessFlags := 2, slot := 2, constantValue := 0 }]
  methods := #[k8m0]
  instanceTypes := #[(.object "java/lang/String"), .int, .int]
  staticTypes := #[]
  resolved := Array.replicate 204 none
  statics := none }

def pool9 : Array CpInfo := pool [(1, .class_ 2), (0, u "com/example/tempogate/tempogate/rules/Window$Type"), (2, u "SLIDING"), (0, u "Lcom/example/tempogate/tempogate/rules/Window$Type;"), (2, u "CALENDAR"), (2, u "ANCHORED"), (2, u "$VALUES"), (0, u "[Lcom/example/tempogate/tempogate/rules/Window$Type;"), (6, .class_ 25), (1, u "java/lang/Enum"), (8, u "text"), (0, u "Ljava/lang/String;"), (40, .class_ 77), (0, u "com/example/tempogate/tempogate/rules/Window")] 2

/-- com/example/tempogate/tempogate/rules/Window$Type -/
def k9 : Class := { plain "com/example/tempogate/tempogate/rules/Window$Type" (some 8) with
  accessFlags := 16433
  interfaces := #[]
  cf := some (fileOf pool9 1 #[.nestHost 76] #[] 16433 23 #[] #[{ accessFlags := 16409, nameIndex := 5, descriptorIndex := 6, attributes := #[] }, { accessFlags := 16409, nameIndex := 9, descriptorIndex := 6, attributes := #[] }, { accessFlags := 16409, nameIndex := 12, descriptorIndex := 6, attributes := #[] }, { accessFlags := 18, nameIndex := 34, descriptorIndex := 35, attributes := #[] }, { accessFlags := 4122, nameIndex := 15, descriptorIndex := 16, attributes := #[] }])
  fields := #[{ name := "SLIDING", type := (.object "com/example/tempogate/tempogate/rules/Window$Type"), accessFlags := 16409, slot := 0, constantValue := 0 }, { name := "CALENDAR", type := (.object "com/example/tempogate/tempogate/rules/Window$Type"), accessFlags := 16409, slot := 1, constantValue := 0 }, { name := "ANCHORED", type := (.object "com/example/tempogate/tempogate/rules/Window$Type"), accessFlags := 16409, slot := 2, constantValue := 0 }, { name := "text", type := (.object "java/lang/String"), accessFlags := 18, slot := 3, constantValue := 0 }, { name := "$VALUES", type := (.array (.object "com/example/tempogate/tempogate/rules/Window$Type")), accessFlags := 4122, slot := 3, constantValue := 0 }]
  methods := #[]
  instanceTypes := #[(.object "java/lang/String"), .int, .int, (.object "java/lang/String")]
  staticTypes := #[(.object "com/example/tempogate/tempogate/rules/Window$Type"), (.object "com/example/tempogate/tempogate/rules/Window$Type"), (.object "com/example/tempogate/tempogate/rules/Window$Type"), (.array (.object "com/example/tempogate/tempogate/rules/Window$Type"))]
  resolved := Array.replicate 80 none
  statics := some 0 }

def pool10 : Array CpInfo := pool [(2, .class_ 4), (1, u "java/lang/CharSequence"), (42, .class_ 48), (0, u "java/lang/CharSequence$1CodePointIterator"), (10, .class_ 60), (0, u "java/lang/CharSequence$1CharIterator"), (5, .class_ 67), (0, u "java/lang/Object")] 63

/-- java/lang/CharSequence -/
def k10 : Class := { plain "java/lang/CharSequence" (some 0) with
  accessFlags := 1537
  interfaces := #[]
  cf := some (fileOf pool10 2 #[.nestMembers #[47, 59]] #[] 1537 66 #[] #[])
  fields := #[]
  methods := #[]
  instanceTypes := #[]
  staticTypes := #[]
  resolved := Array.replicate 131 none
  statics := none }

def pool11 : Array CpInfo := pool [(1, .class_ 2), (0, u "java/lang/constant/ConstantDesc"), (0, .class_ 4), (0, u "java/lang/Object")] 32

/-- java/lang/constant/ConstantDesc -/
def k11 : Class := { plain "java/lang/constant/ConstantDesc" (some 0) with
  accessFlags := 1537
  interfaces := #[]
  cf := some (fileOf pool11 1 #[] #[] 1537 3 #[] #[])
  fields := #[]
  methods := #[]
  instanceTypes := #[]
  staticTypes := #[]
  resolved := Array.replicate 37 none
  statics := none }

def pool12 : Array CpInfo := pool [(2, .class_ 4), (1, u "java/lang/Object"), (0, u "<init>"), (0, u "()V"), (3, .class_ 12), (1, u "java/lang/String"), (0, u "value"), (0, u "[B"), (2, u "coder"), (0, u "B"), (2, u "hash"), (0, u "I"), (2, u "hashIsZero"), (0, u "Z"), (13, u "COMPACT_STRINGS"), (534, .class_ 576), (0, u "java/lang/CharSequence"), (22, u "CASE_INSENSITIVE_ORDER"), (0, u "Ljava/util/Comparator;"), (500, u "serialPersistentFields"), (0, u "[Ljava/io/ObjectStreamField;"), (0, .class_ 1104), (0, u "java/lang/String$CaseInsensitiveComparator"), (1, .class_ 1107), (0, u "java/io/Serializable"), (0, .class_ 1109), (0, u "java/lang/Comparable"), (0, .class_ 1111), (0, u "java/lang/constant/Constable"), (0, .class_ 1113), (0, u "java/lang/constant/ConstantDesc"), (2, u "serialVersionUID"), (0, u "J"), (3, u "REPL"), (0, u "C"), (2, u "LATIN1"), (1, u "UTF16")] 323

def k12m0 : Method := { name := "<init>", desc := "()V", sig := { parameters := [], returnType := none }, accessFlags := 1, code := none }
/-- java/lang/String -/
def k12 : Class := { plain "java/lang/String" (some 0) with
  accessFlags := 49
  interfaces := #[7, 6, 10, 5, 11]
  cf := some (fileOf pool12 10 #[.nestMembers #[1103]] #[{ accessFlags := 1, nameIndex := 5, descriptorIndex := 6, attributes := #[] }] 49 2 #[1106, 1108, 575, 1110, 1112] #[{ accessFlags := 18, nameIndex := 13, descriptorIndex := 14, attributes := #[] }, { accessFlags := 18, nameIndex := 17, descriptorIndex := 18, attributes := #[] }, { accessFlags := 2, nameIndex := 21, descriptorIndex := 22, attributes := #[] }, { accessFlags := 2, nameIndex := 25, descriptorIndex := 26, attributes := #[] }, { accessFlags := 26, nameIndex := 1116, descriptorIndex := 1117, attributes := #[] }, { accessFlags := 24, nameIndex := 40, descriptorIndex := 26, attributes := #[] }, { accessFlags := 26, nameIndex := 1101, descriptorIndex := 1102, attributes := #[] }, { accessFlags := 26, nameIndex := 1121, descriptorIndex := 1122, attributes := #[] }, { accessFlags := 25, nameIndex := 599, descriptorIndex := 600, attributes := #[] }, { accessFlags := 24, nameIndex := 1125, descriptorIndex := 18, attributes := #[] }, { accessFlags := 24, nameIndex := 1127, descriptorIndex := 18, attributes := #[] }])
  fields := #[{ name := "value", type := (.array .byte), accessFlags := 18, slot := 0, constantValue := 0 }, { name := "coder", type := .byte, accessFlags := 18, slot := 1, constantValue := 0 }, { name := "hash", type := .int, accessFlags := 2, slot := 2, constantValue := 0 }, { name := "hashIsZero", type := .boolean, accessFlags := 2, slot := 3, constantValue := 0 }, { name := "serialVersionUID", type := .long, accessFlags := 26, slot := 0, constantValue := 0 }, { name := "COMPACT_STRINGS", type := .boolean, accessFlags := 24, slot := 1, constantValue := 0 }, { name := "serialPersistentFields", type := (.array (.object "java/io/ObjectStreamField")), accessFlags := 26, slot := 2, constantValue := 0 }, { name := "REPL", type := .char, accessFlags := 26, slot := 3, constantValue := 0 }, { name := "CASE_INSENSITIVE_ORDER", type := (.object "java/util/Comparator"), accessFlags := 25, slot := 4, constantValue := 0 }, { name := "LATIN1", type := .byte, accessFlags := 24, slot := 5, constantValue := 0 }, { name := "UTF16", type := .byte, accessFlags := 24, slot := 6, constantValue := 0 }]
  methods := #[k12m0]
  instanceTypes := #[(.array .byte), .byte, .int, .boolean]
  staticTypes := #[.long, .boolean, (.array (.object "java/io/ObjectStreamField")), .char, (.object "java/util/Comparator"), .byte, .byte]
  resolved := Array.replicate 1451 none
  statics := none }

def pool13 : Array CpInfo := pool [(2, .class_ 4), (1, u "java/lang/Object"), (0, u "<init>"), (0, u "()V"), (35, .class_ 44), (1, u "java/util/Objects"), (0, u "requireNonNull"), (48, u "(Ljava/lang/Object;Ljava/lang/String;)Ljava/lang/Object;")] 89

def k13m0 : Method := { name := "<init>", desc := "()V", sig := { parameters := [], returnType := none }, accessFlags := 2, code := none }
def k13c1 : Code := { maxStack := 3, maxLocals := 2, code := jdk_31_method_11_code, exceptionTable := #[], attributes := #[] }
def k13m1 : Method := { name := "requireNonNull", desc := "(Ljava/lang/Object;Ljava/lang/String;)Ljava/lang/Object;", sig := { parameters := [(.object "java/lang/Object"), (.object "java/lang/String")], returnType := some (.object "java/lang/Object") }, accessFlags := 9, code := some k13c1 }
/-- java/util/Objects -/
def k13 : Class := { plain "java/util/Objects" (some 0) with
  accessFlags := 49
  interfaces := #[]
  cf := some (fileOf pool13 42 #[] #[{ accessFlags := 2, nameIndex := 5, descriptorIndex := 6, attributes := #[] }, { accessFlags := 9, nameIndex := 45, descriptorIndex := 94, attributes := #[] }] 49 2 #[] #[])
  fields := #[]
  methods := #[k13m0, k13m1]
  instanceTypes := #[]
  staticTypes := #[]
  resolved := Array.replicate 184 none
  statics := none }

def pool14 : Array CpInfo := pool [(1, .methodref 2 3), (0, .class_ 4), (0, .nameAndType 5 6), (0, u "java/lang/Object"), (0, u "<init>"), (0, u "()V"), (0, .fieldref 8 9), (0, .class_ 10), (0, .nameAndType 11 12), (0, u "com/example/tempogate/tempogate/gate/AdmissionTimes"), (0, u "times"), (0, u "[J"), (0, .fieldref 14 15), (0, .class_ 16), (0, .nameAndType 17 18), (0, u "com/example/tempogate/tempogate/gate/AdmissionTimes$1"), (0, u "$SwitchMap$com$example$tempogate$tempogate$rules$Window$Type"), (0, u "[I"), (0, .methodref 20 21), (0, .class_ 22), (0, .nameAndType 23 24), (0, u "com/example/tempogate/tempogate/rules/Window"), (0, u "type"), (0, u "()Lcom/example/tempogate/tempogate/rules/Window$Type;"), (0, .methodref 26 27), (0, .class_ 28), (0, .nameAndType 29 30), (0, u "com/example/tempogate/tempogate/rules/Window$Type"), (0, u "ordinal"), (0, u "()I"), (0, .methodref 20 32), (0, .nameAndType 33 34), (0, u "millis"), (0, u "()J"), (0, .methodref 8 36), (0, .nameAndType 37 38), (0, u "forgetThrough"), (0, u "(J)V"), (4, .fieldref 8 44), (0, .nameAndType 45 46), (0, u "size"), (0, u "I"), (0, .fieldref 8 48), (0, .nameAndType 49 46), (0, u "head"), (17, u "countAt"), (0, u "(Lcom/example/tempogate/tempogate/rules/Window;J)I"), (1, u "get"), (0, u "(I)J"), (0, u "add")] 20

def k14c0 : Code := { maxStack := 2, maxLocals := 1, code := prog_2_method_1_code, exceptionTable := #[], attributes := #[] }
def k14m0 : Method := { name := "<init>", desc := "()V", sig := { parameters := [], returnType := none }, accessFlags := 0, code := some k14c0 }
def k14c1 : Code := { maxStack := 6, maxLocals := 4, code := prog_2_method_2_code, exceptionTable := #[], attributes := #[] }
def k14m1 : Method := { name := "countAt", desc := "(Lcom/example/tempogate/tempogate/rules/Window;J)I", sig := { parameters := [(.object "com/example/tempogate/tempogate/rules/Window"), .long], returnType := some .int }, accessFlags := 0, code := some k14c1 }
def k14c2 : Code := { maxStack := 3, maxLocals := 2, code := prog_2_method_3_code, exceptionTable := #[], attributes := #[] }
def k14m2 : Method := { name := "get", desc := "(I)J", sig := { parameters := [.int], returnType := some .long }, accessFlags := 0, code := some k14c2 }
def k14c3 : Code := { maxStack := 5, maxLocals := 5, code := prog_2_method_4_code, exceptionTable := #[], attributes := #[] }
def k14m3 : Method := { name := "add", desc := "(J)V", sig := { parameters := [.long], returnType := none }, accessFlags := 0, code := some k14c3 }
def k14c4 : Code := { maxStack := 4, maxLocals := 3, code := prog_2_method_5_code, exceptionTable := #[], attributes := #[] }
def k14m4 : Method := { name := "forgetThrough", desc := "(J)V", sig := { parameters := [.long], returnType := none }, accessFlags := 2, code := some k14c4 }
/-- com/example/tempogate/tempogate/gate/AdmissionTimes -/
def k14 : Class := { plain "com/example/tempogate/tempogate/gate/AdmissionTimes" (some 0) with
  accessFlags := 48
  interfaces := #[]
  cf := some (fileOf pool14 8 #[.nestMembers #[14]] #[{ accessFlags := 0, nameIndex := 5, descriptorIndex := 6, attributes := #[] }, { accessFlags := 0, nameIndex := 67, descriptorIndex := 68, attributes := #[] }, { accessFlags := 0, nameIndex := 70, descriptorIndex := 71, attributes := #[] }, { accessFlags := 0, nameIndex := 72, descriptorIndex := 38, attributes := #[] }, { accessFlags := 2, nameIndex := 37, descriptorIndex := 38, attributes := #[] }] 48 2 #[] #[{ accessFlags := 2, nameIndex := 11, descriptorIndex := 12, attributes := #[] }, { accessFlags := 2, nameIndex := 49, descriptorIndex := 46, attributes := #[] }, { accessFlags := 2, nameIndex := 45, descriptorIndex := 46, attributes := #[] }])
  fields := #[{ name := "times", type := (.array .long), accessFlags := 2, slot := 0, constantValue := 0 }, { name := "head", type := .int, accessFlags := 2, slot := 1, constantValue := 0 }, { name := "size", type := .int, accessFlags := 2, slot := 2, constantValue := 0 }]
  methods := #[k14m0, k14m1, k14m2, k14m3, k14m4]
  instanceTypes := #[(.array .long), .int, .int]
  staticTypes := #[]
  resolved := Array.replicate 93 none
  statics := none }

def pool15 : Array CpInfo := pool [(8, .class_ 10), (1, u "com/example/tempogate/tempogate/gate/AdmissionTimes$1"), (0, u "$SwitchMap$com$example$tempogate$tempogate$rules$Window$Type"), (0, u "[I"), (16, .class_ 30), (0, u "java/lang/Object"), (8, .class_ 40), (0, u "com/example/tempogate/tempogate/gate/AdmissionTimes")] 5

/-- com/example/tempogate/tempogate/gate/AdmissionTimes$1 -/
def k15 : Class := { plain "com/example/tempogate/tempogate/gate/AdmissionTimes$1" (some 0) with
  accessFlags := 4128
  interfaces := #[]
  cf := some (fileOf pool15 8 #[.nestHost 39] #[] 4128 29 #[] #[{ accessFlags := 4120, nameIndex := 11, descriptorIndex := 12, attributes := #[] }])
  fields := #[{ name := "$SwitchMap$com$example$tempogate$tempogate$rules$Window$Type", type := (.array .int), accessFlags := 4120, slot := 0, constantValue := 0 }]
  methods := #[]
  instanceTypes := #[]
  staticTypes := #[(.array .int)]
  resolved := Array.replicate 46 none
  statics := some 1 }

def pool16 : Array CpInfo := pool [(1, u "java/lang/Cloneable"), (0, .class_ 1), (0, u "java/lang/Object"), (0, .class_ 3)] 3

/-- java/lang/Cloneable -/
def k16 : Class := { plain "java/lang/Cloneable" (some 0) with
  accessFlags := 1537
  interfaces := #[]
  cf := some (fileOf pool16 2 #[] #[] 1537 4 #[] #[])
  fields := #[]
  methods := #[]
  instanceTypes := #[]
  staticTypes := #[]
  resolved := Array.replicate 8 none
  statics := none }

/-- the primitive byte -/
def k17 : Class := { plain "byte" none with kind := .primitive 'B', accessFlags := 0x411 }
/-- [B -/
def k18 : Class := { plain "[B" (some 0) with kind := .array 17 .byte, interfaces := #[16, 7], accessFlags := 1041 }

/-- the primitive int -/
def k19 : Class := { plain "int" none with kind := .primitive 'I', accessFlags := 0x411 }
/-- [I -/
def k20 : Class := { plain "[I" (some 0) with kind := .array 19 .int, interfaces := #[16, 7], accessFlags := 1041 }

/-- the primitive long -/
def k21 : Class := { plain "long" none with kind := .primitive 'J', accessFlags := 0x411 }
/-- [J -/
def k22 : Class := { plain "[J" (some 0) with kind := .array 21 .long, interfaces := #[16, 7], accessFlags := 1041 }

def heap : Heap := #[{ cls := 9, slots := #[.ref 2, .ref 3, .null, .null], vm := .statics 9 },
  { cls := 15, slots := #[.ref 4], vm := .statics 15 },
  { cls := 9, slots := #[.null, .int (0), .int 0, .null], vm := .none },
  { cls := 9, slots := #[.null, .int (1), .int 0, .null], vm := .none },
  { cls := 20, slots := #[.int 1, .int 2, .int 3], vm := .none }]
def classes : Array Class := #[k0, k1, k2, k3, k4, k5, k6, k7, k8, k9, k10, k11, k12, k13, k14, k15, k16, k17, k18, k19, k20, k21, k22]
def interned : List (Array UInt16 × Addr) := []
def slotsUsed : Nat := 16
def theMethod : MethodId := ⟨1, 1⟩
def args0 : Array Value := #[.long 5, .int 2, .int 3, .int 1, .int 1]
def aboutOver (below : List Frame) : State where
  vm := { classes := classes, interned := interned.toArray }
  heap := heap
  slotsUsed := slotsUsed
  threads := #[{ frames := .invoking theMethod args0 :: below }]
def below0 : List Frame := [.native { method := ⟨0, 0⟩, args := #[] }]
def about1 : State := aboutOver below0
def p0 : Program := .bare "" "" ""
def e0 : Env := launch0.env 0 0 0
theorem w_frames : about1.frames = Frame.invoking theMethod args0 :: below0 := rfl
set_option maxRecDepth 65536 in
theorem w_args : argsFit about1.vm theMethod args0 = true := by decide +kernel
set_option maxRecDepth 65536 in
theorem w_heap : heapFits about1 = true := by decide +kernel
set_option maxRecDepth 65536 in
theorem w_runnable : about1.curStatus? = some .runnable := by decide +kernel
set_option maxRecDepth 65536 in
theorem w_alone : about1.alone = true := by decide +kernel
set_option maxRecDepth 65536 in
theorem w_named : about1.methodNamed? x = some theMethod := by decide +kernel
set_option maxRecDepth 65536 in
theorem w_hears : about1.hears theMethod below0 = true := by decide +kernel
set_option maxRecDepth 65536 in
theorem w_ripe : about1.ripe theMethod args0 below0 = true := by decide +kernel
theorem w_running : about1.status = .running := rfl
set_option maxRecDepth 65536 in
theorem w_room : about1.hasRoom e0.platform room_1 = true :=
  launch0.hasRoom_least _ room_1 (by decide +kernel) (by decide +kernel) (by decide +kernel) (by decide +kernel) (by decide +kernel) (by decide +kernel)
theorem allAtoms_all (ts : List Jvm.Cond) (a : Array Jvm.Value) (st : Jvm.State) : (allAtoms ts).before a st = ts.all (fun c => c.before a st) := by
  induction ts with
  | nil => rfl
  | cons c t ih =>
    show (Jvm.Cond.and c (allAtoms t)).before a st = _
    rw [Jvm.Cond.before_and, ih, List.all_cons]
def words1 : List Jvm.Cond := Jvm.Cond.code x code maxLocals ret :: tables_1
/-- a 'code' word, met by the world's own term for the bytes: nothing is compared byte by byte -/
theorem code_word {y : MethodName} {bytes : ByteArray} {mx : Nat} {rt : Option FieldType} {a : Array Value} {s : State} {m : MethodId} {meth : Method} {c : Code} (h1 : s.methodNamed? y = some m) (h2 : s.vm.method? m = some meth) (h3 : meth.code = some c) (h4 : c.code = bytes)
    (h5 : (c.maxLocals == mx && c.exceptionTable.isEmpty && decide (c.maxStack ≤ mostOperands) && decide (meth.sig.returnType = rt) && !meth.locks && decide (parseMethodDescriptor y.desc = some meth.sig)) = true) : (Jvm.Cond.code y bytes mx rt).before a s = true := by
  simp only [Bool.and_eq_true, beq_iff_eq, Bool.not_eq_true', decide_eq_true_eq] at h5
  obtain ⟨⟨⟨⟨⟨g1, g2⟩, g3⟩, g4⟩, g5⟩, g6⟩ := h5
  simp [Cond.before, Cond.holds, Cond.value, h1, h2, h3, h4, g1, g2, g3, g4, g5, g6]
def isCode : Jvm.Cond → Bool
  | .code _ _ _ _ => true
  | _ => false
theorem all_split {L : List Jvm.Cond} {P : Jvm.Cond → Bool} (h1 : L.all (fun c => isCode c || P c) = true) (h2 : ∀ c ∈ L.filter isCode, P c = true) : L.all P = true := by
  refine List.all_eq_true.mpr fun c hc => ?_
  have h := List.all_eq_true.mp h1 c hc
  rcases Bool.eq_false_or_eq_true (isCode c) with hi | hi
  · exact h2 c (List.mem_filter.mpr ⟨hc, hi⟩)
  · simpa [hi] using h
set_option maxRecDepth 65536 in
theorem w_c0 : (Jvm.Cond.code x code maxLocals ret).before args0 about1 = true := code_word (m := ⟨1, 1⟩) (meth := k1m1) (c := k1c1) (by decide +kernel) rfl rfl rfl (by decide +kernel)
set_option maxRecDepth 65536 in
theorem w_c1 : (Jvm.Cond.code ({ cls := "java/lang/Math", name := "max", desc := "(JJ)J" } : Jvm.MethodName) jdk_29_method_66_code (4 : Nat) (Option.some Jvm.ClassFile.FieldType.long)).before args0 about1 = true := code_word (m := ⟨2, 1⟩) (meth := k2m1) (c := k2c1) (by decide +kernel) rfl rfl rfl (by decide +kernel)
set_option maxRecDepth 65536 in
theorem w_c2 : (Jvm.Cond.code ({ cls := "java/lang/Math", name := "min", desc := "(JJ)J" } : Jvm.MethodName) jdk_29_method_70_code (4 : Nat) (Option.some Jvm.ClassFile.FieldType.long)).before args0 about1 = true := code_word (m := ⟨2, 2⟩) (meth := k2m2) (c := k2c2) (by decide +kernel) rfl rfl rfl (by decide +kernel)
set_option maxRecDepth 65536 in
theorem w_c3 : (Jvm.Cond.code ({ cls := "com/example/tempogate/tempogate/rules/Window", name := "sliding", desc := "(J)Lcom/example/tempogate/tempogate/rules/Window;" } : Jvm.MethodName) prog_21_method_2_code (2 : Nat) (Option.some (Jvm.ClassFile.FieldType.object "com/example/tempogate/tempogate/rules/Window"))).before args0 about1 = true := code_word (m := ⟨4, 1⟩) (meth := k4m1) (c := k4c1) (by decide +kernel) rfl rfl rfl (by decide +kernel)
set_option maxRecDepth 65536 in
theorem w_c4 : (Jvm.Cond.code ({ cls := "com/example/tempogate/tempogate/rules/Window", name := "<init>", desc := "(Lcom/example/tempogate/tempogate/rules/Window$Type;JJ)V" } : Jvm.MethodName) prog_21_method_1_code (6 : Nat) (Option.none : Option Jvm.ClassFile.FieldType)).before args0 about1 = true := code_word (m := ⟨4, 0⟩) (meth := k4m0) (c := k4c0) (by decide +kernel) rfl rfl rfl (by decide +kernel)
set_option maxRecDepth 65536 in
theorem w_c5 : (Jvm.Cond.code ({ cls := "java/lang/Record", name := "<init>", desc := "()V" } : Jvm.MethodName) jdk_30_method_1_code (1 : Nat) (Option.none : Option Jvm.ClassFile.FieldType)).before args0 about1 = true := code_word (m := ⟨3, 0⟩) (meth := k3m0) (c := k3c0) (by decide +kernel) rfl rfl rfl (by decide +kernel)
set_option maxRecDepth 65536 in
theorem w_c6 : (Jvm.Cond.code ({ cls := "java/lang/Object", name := "<init>", desc := "()V" } : Jvm.MethodName) object_method_1_code (1 : Nat) (Option.none : Option Jvm.ClassFile.FieldType)).before args0 about1 = true := code_word (m := ⟨0, 0⟩) (meth := k0m0) (c := k0c0) (by decide +kernel) rfl rfl rfl (by decide +kernel)
set_option maxRecDepth 65536 in
theorem w_c7 : (Jvm.Cond.code ({ cls := "java/util/Objects", name := "requireNonNull", desc := "(Ljava/lang/Object;Ljava/lang/String;)Ljava/lang/Object;" } : Jvm.MethodName) jdk_31_method_11_code (2 : Nat) (Option.some (Jvm.ClassFile.FieldType.object "java/lang/Object"))).before args0 about1 = true := code_word (m := ⟨13, 1⟩) (meth := k13m1) (c := k13c1) (by decide +kernel) rfl rfl rfl (by decide +kernel)
set_option maxRecDepth 65536 in
theorem w_c8 : (Jvm.Cond.code ({ cls := "com/example/tempogate/tempogate/gate/AdmissionTimes", name := "<init>", desc := "()V" } : Jvm.MethodName) prog_2_method_1_code (1 : Nat) (Option.none : Option Jvm.ClassFile.FieldType)).before args0 about1 = true := code_word (m := ⟨14, 0⟩) (meth := k14m0) (c := k14c0) (by decide +kernel) rfl rfl rfl (by decide +kernel)
set_option maxRecDepth 65536 in
theorem w_c9 : (Jvm.Cond.code ({ cls := "com/example/tempogate/tempogate/gate/AdmissionTimes", name := "add", desc := "(J)V" } : Jvm.MethodName) prog_2_method_4_code (5 : Nat) (Option.none : Option Jvm.ClassFile.FieldType)).before args0 about1 = true := code_word (m := ⟨14, 3⟩) (meth := k14m3) (c := k14c3) (by decide +kernel) rfl rfl rfl (by decide +kernel)
set_option maxRecDepth 65536 in
theorem w_c10 : (Jvm.Cond.code ({ cls := "com/example/tempogate/tempogate/gate/AdmissionTimes", name := "countAt", desc := "(Lcom/example/tempogate/tempogate/rules/Window;J)I" } : Jvm.MethodName) prog_2_method_2_code (4 : Nat) (Option.some Jvm.ClassFile.FieldType.int)).before args0 about1 = true := code_word (m := ⟨14, 1⟩) (meth := k14m1) (c := k14c1) (by decide +kernel) rfl rfl rfl (by decide +kernel)
set_option maxRecDepth 65536 in
theorem w_c11 : (Jvm.Cond.code ({ cls := "com/example/tempogate/tempogate/rules/Window", name := "type", desc := "()Lcom/example/tempogate/tempogate/rules/Window$Type;" } : Jvm.MethodName) prog_21_method_7_code (1 : Nat) (Option.some (Jvm.ClassFile.FieldType.object "com/example/tempogate/tempogate/rules/Window$Type"))).before args0 about1 = true := code_word (m := ⟨4, 2⟩) (meth := k4m2) (c := k4c2) (by decide +kernel) rfl rfl rfl (by decide +kernel)
set_option maxRecDepth 65536 in
theorem w_c12 : (Jvm.Cond.code ({ cls := "java/lang/Enum", name := "ordinal", desc := "()I" } : Jvm.MethodName) jdk_37_method_2_code (1 : Nat) (Option.some Jvm.ClassFile.FieldType.int)).before args0 about1 = true := code_word (m := ⟨8, 0⟩) (meth := k8m0) (c := k8c0) (by decide +kernel) rfl rfl rfl (by decide +kernel)
set_option maxRecDepth 65536 in
theorem w_c13 : (Jvm.Cond.code ({ cls := "com/example/tempogate/tempogate/rules/Window", name := "millis", desc := "()J" } : Jvm.MethodName) prog_21_method_8_code (1 : Nat) (Option.some Jvm.ClassFile.FieldType.long)).before args0 about1 = true := code_word (m := ⟨4, 3⟩) (meth := k4m3) (c := k4c3) (by decide +kernel) rfl rfl rfl (by decide +kernel)
set_option maxRecDepth 65536 in
theorem w_c14 : (Jvm.Cond.code ({ cls := "com/example/tempogate/tempogate/gate/AdmissionTimes", name := "forgetThrough", desc := "(J)V" } : Jvm.MethodName) prog_2_method_5_code (3 : Nat) (Option.none : Option Jvm.ClassFile.FieldType)).before args0 about1 = true := code_word (m := ⟨14, 4⟩) (meth := k14m4) (c := k14c4) (by decide +kernel) rfl rfl rfl (by decide +kernel)
set_option maxRecDepth 65536 in
theorem w_c15 : (Jvm.Cond.code ({ cls := "com/example/tempogate/tempogate/gate/AdmissionTimes", name := "get", desc := "(I)J" } : Jvm.MethodName) prog_2_method_3_code (2 : Nat) (Option.some Jvm.ClassFile.FieldType.long)).before args0 about1 = true := code_word (m := ⟨14, 2⟩) (meth := k14m2) (c := k14c2) (by decide +kernel) rfl rfl rfl (by decide +kernel)
def codes1 : List Jvm.Cond := [Jvm.Cond.code x code maxLocals ret, Jvm.Cond.code ({ cls := "java/lang/Math", name := "max", desc := "(JJ)J" } : Jvm.MethodName) jdk_29_method_66_code (4 : Nat) (Option.some Jvm.ClassFile.FieldType.long), Jvm.Cond.code ({ cls := "java/lang/Math", name := "min", desc := "(JJ)J" } : Jvm.MethodName) jdk_29_method_70_code (4 : Nat) (Option.some Jvm.ClassFile.FieldType.long), Jvm.Cond.code ({ cls := "com/example/tempogate/tempogate/rules/Window", name := "sliding", desc := "(J)Lcom/example/tempogate/tempogate/rules/Window;" } : Jvm.MethodName) prog_21_method_2_code (2 : Nat) (Option.some (Jvm.ClassFile.FieldType.object "com/example/tempogate/tempogate/rules/Window")), Jvm.Cond.code ({ cls := "com/example/tempogate/tempogate/rules/Window", name := "<init>", desc := "(Lcom/example/tempogate/tempogate/rules/Window$Type;JJ)V" } : Jvm.MethodName) prog_21_method_1_code (6 : Nat) (Option.none : Option Jvm.ClassFile.FieldType), Jvm.Cond.code ({ cls := "java/lang/Record", name := "<init>", desc := "()V" } : Jvm.MethodName) jdk_30_method_1_code (1 : Nat) (Option.none : Option Jvm.ClassFile.FieldType), Jvm.Cond.code ({ cls := "java/lang/Object", name := "<init>", desc := "()V" } : Jvm.MethodName) object_method_1_code (1 : Nat) (Option.none : Option Jvm.ClassFile.FieldType), Jvm.Cond.code ({ cls := "java/util/Objects", name := "requireNonNull", desc := "(Ljava/lang/Object;Ljava/lang/String;)Ljava/lang/Object;" } : Jvm.MethodName) jdk_31_method_11_code (2 : Nat) (Option.some (Jvm.ClassFile.FieldType.object "java/lang/Object")), Jvm.Cond.code ({ cls := "com/example/tempogate/tempogate/gate/AdmissionTimes", name := "<init>", desc := "()V" } : Jvm.MethodName) prog_2_method_1_code (1 : Nat) (Option.none : Option Jvm.ClassFile.FieldType), Jvm.Cond.code ({ cls := "com/example/tempogate/tempogate/gate/AdmissionTimes", name := "add", desc := "(J)V" } : Jvm.MethodName) prog_2_method_4_code (5 : Nat) (Option.none : Option Jvm.ClassFile.FieldType), Jvm.Cond.code ({ cls := "com/example/tempogate/tempogate/gate/AdmissionTimes", name := "countAt", desc := "(Lcom/example/tempogate/tempogate/rules/Window;J)I" } : Jvm.MethodName) prog_2_method_2_code (4 : Nat) (Option.some Jvm.ClassFile.FieldType.int), Jvm.Cond.code ({ cls := "com/example/tempogate/tempogate/rules/Window", name := "type", desc := "()Lcom/example/tempogate/tempogate/rules/Window$Type;" } : Jvm.MethodName) prog_21_method_7_code (1 : Nat) (Option.some (Jvm.ClassFile.FieldType.object "com/example/tempogate/tempogate/rules/Window$Type")), Jvm.Cond.code ({ cls := "java/lang/Enum", name := "ordinal", desc := "()I" } : Jvm.MethodName) jdk_37_method_2_code (1 : Nat) (Option.some Jvm.ClassFile.FieldType.int), Jvm.Cond.code ({ cls := "com/example/tempogate/tempogate/rules/Window", name := "millis", desc := "()J" } : Jvm.MethodName) prog_21_method_8_code (1 : Nat) (Option.some Jvm.ClassFile.FieldType.long), Jvm.Cond.code ({ cls := "com/example/tempogate/tempogate/gate/AdmissionTimes", name := "forgetThrough", desc := "(J)V" } : Jvm.MethodName) prog_2_method_5_code (3 : Nat) (Option.none : Option Jvm.ClassFile.FieldType), Jvm.Cond.code ({ cls := "com/example/tempogate/tempogate/gate/AdmissionTimes", name := "get", desc := "(I)J" } : Jvm.MethodName) prog_2_method_3_code (2 : Nat) (Option.some Jvm.ClassFile.FieldType.long)]
set_option maxRecDepth 65536 in
theorem codes_eq : words1.filter isCode = codes1 := rfl
theorem w_codes : ∀ c ∈ words1.filter isCode, c.before args0 about1 = true := by
  rw [codes_eq]
  intro c hc
  simp only [codes1, List.mem_cons, List.not_mem_nil, or_false] at hc
  rcases hc with rfl | rfl | rfl | rfl | rfl | rfl | rfl | rfl | rfl | rfl | rfl | rfl | rfl | rfl | rfl | rfl
  · exact w_c0
  · exact w_c1
  · exact w_c2
  · exact w_c3
  · exact w_c4
  · exact w_c5
  · exact w_c6
  · exact w_c7
  · exact w_c8
  · exact w_c9
  · exact w_c10
  · exact w_c11
  · exact w_c12
  · exact w_c13
  · exact w_c14
  · exact w_c15
set_option maxRecDepth 65536 in
theorem w_t1 : (words1.take 24).all (fun c => isCode c || c.before args0 about1) = true := by decide +kernel
set_option maxRecDepth 65536 in
theorem w_t2 : ((words1.drop 24).take 24).all (fun c => isCode c || c.before args0 about1) = true := by decide +kernel
set_option maxRecDepth 65536 in
theorem w_t3 : (((words1.drop 24).drop 24).take 24).all (fun c => isCode c || c.before args0 about1) = true := by decide +kernel
set_option maxRecDepth 65536 in
theorem w_t4 : ((((words1.drop 24).drop 24).drop 24).take 24).all (fun c => isCode c || c.before args0 about1) = true := by decide +kernel
set_option maxRecDepth 65536 in
theorem w_t5 : ((((words1.drop 24).drop 24).drop 24).drop 24).all (fun c => isCode c || c.before args0 about1) = true := by decide +kernel
theorem w_tables : (allAtoms (Jvm.Cond.code x code maxLocals ret :: tables_1)).before args0 about1 = true := by
  rw [allAtoms_all]
  show words1.all (fun c => c.before args0 about1) = true
  refine all_split ?_ w_codes
  rw [← List.take_append_drop 24 words1, List.all_append, w_t1, ← List.take_append_drop 24 (words1.drop 24), List.all_append, w_t2, ← List.take_append_drop 24 ((words1.drop 24).drop 24), List.all_append, w_t3, ← List.take_append_drop 24 (((words1.drop 24).drop 24).drop 24), List.all_append, w_t4, w_t5]
  rfl
set_option maxRecDepth 65536 in
theorem w_case : (Jvm.Cond.and given_1 narrow_1).before args0 about1 = true := by decide +kernel
theorem w_applies : (headSpec (Jvm.Cond.code x code maxLocals ret :: tables_1) room_1).applies x e0.platform about1 = true :=
  (Spec.applies_iff w_frames).mpr ⟨w_running, w_runnable, w_alone, w_named, w_hears, w_ripe, w_room, w_tables⟩
theorem atStart : AtStart classFile x code maxLocals ret World_1 tables_1 room_1 Calls_1 rest_1 Pre_1 launch0 p0 e0 about1 theMethod args0 below0 :=
  ⟨lists_1, trivial, launch0.admits_env _ _ _, launch0.least_env, fairChoices_fair.cas, fairChoices_fair.clock, w_frames, w_args, w_heap, w_applies, trivial, trivial, w_case⟩
end start1
theorem witness_1 : WitnessClaimed_1 := ⟨start1.p0, start1.e0, start1.about1, start1.theMethod, start1.args0, start1.below0, start1.atStart⟩
end Jvm.Pilot.@@N@@
