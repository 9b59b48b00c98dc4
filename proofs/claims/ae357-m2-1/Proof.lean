import JvmDerived
import JvmDerived.Pilot.@@N@@Statement
import JvmDerived.Pilot.@@N@@Code
set_option linter.unusedVariables false
set_option linter.unusedSimpArgs false
namespace Jvm.RoadKit
open Sem ClassFile Op Lib Jvm.Stand Jvm.Free Jvm.LawKit
section New
variable {p : Program} {l : Launch} {e : Env} {R : Room} {s : State} {m : MethodId} {args : Array Value} {below : List Frame} {meth : Method} {c : Code} {T : State} {locs : List Loc} {cells slots : Nat}
theorem retI (X : Stand p l e R s m args below meth c T locs cells slots) (hx : p.tables.exec = Jvm.exec) {pc : Nat} {Ls : Array Slot} {z : Int32} {rest : List Value} (hret : meth.sig.returnType = some .int) (hd : decode c.code pc = .ok (.ireturn, 1)) {fs : List Frame}
    (hl : ∀ (f : JFrame) (acts : List Action), f.method = m → f.locked = none → f.entered = [] → (doReturn e (T.setTop f) acts (some (.int z))).1 = T.setFrames fs) : Steps p.tables e below (T.setTop (mkF m pc Ls (.int z :: rest))) (T.setFrames fs) :=
  retOut X hx hret rfl (Or.inl ⟨rfl, Or.inl rfl, z, rfl⟩) hd hl
theorem retL (X : Stand p l e R s m args below meth c T locs cells slots) (hx : p.tables.exec = Jvm.exec) {pc : Nat} {Ls : Array Slot} {z : Int64} {rest : List Value} (hret : meth.sig.returnType = some .long) (hd : decode c.code pc = .ok (.lreturn, 1)) {fs : List Frame}
    (hl : ∀ (f : JFrame) (acts : List Action), f.method = m → f.locked = none → f.entered = [] → (doReturn e (T.setTop f) acts (some (.long z))).1 = T.setFrames fs) : Steps p.tables e below (T.setTop (mkF m pc Ls (.long z :: rest))) (T.setFrames fs) :=
  retOut X hx hret rfl (Or.inr (Or.inl ⟨rfl, rfl, z, rfl⟩)) hd hl
theorem own_retD (X : Stand p l e R s m args below meth c T locs cells slots) (hx : p.tables.exec = Jvm.exec) {pc : Nat} {Ls : Array Slot} {z : UInt64} {rest : List Value} (hret : meth.sig.returnType = some .double) (hd : decode c.code pc = .ok (.dreturn, 1)) {fs : List Frame}
    (hl : ∀ (f : JFrame) (acts : List Action), f.method = m → f.locked = none → f.entered = [] → (doReturn e (T.setTop f) acts (some (.double z))).1 = T.setFrames fs) : Steps p.tables e below (T.setTop (mkF m pc Ls (.double z :: rest))) (T.setFrames fs) :=
  retOut X hx hret rfl (Or.inr (Or.inr (Or.inl ⟨rfl, rfl, z, rfl⟩))) hd hl
theorem own_nar {t : FieldType} {w : Value} (ht : t.isReference = true) (hw : w.isRef = true) : narrow t w = w := by
  cases t <;> first | (cases ht; done) | (cases w <;> first | rfl | (cases hw; done))
theorem retA (X : Stand p l e R s m args below meth c T locs cells slots) (hx : p.tables.exec = Jvm.exec) {pc : Nat} {Ls : Array Slot} {w : Value} {t : FieldType} {rest : List Value} (hret : meth.sig.returnType = some t) (ht : t.isReference = true) (hw : w.isRef = true) (hd : decode c.code pc = .ok (.areturn, 1)) {fs : List Frame}
    (hl : ∀ (f : JFrame) (acts : List Action), f.method = m → f.locked = none → f.entered = [] → (doReturn e (T.setTop f) acts (some w)).1 = T.setFrames fs) : Steps p.tables e below (T.setTop (mkF m pc Ls (w :: rest))) (T.setFrames fs) :=
  retOut X hx hret (own_nar ht hw) (Or.inr (Or.inr (Or.inr (Or.inr ⟨rfl, ht, hw⟩)))) hd hl
/-- the rest of a walk, as a predicate on where it stands -/
theorem own_open (K N : Nat) (Q : Option Value → Heap → List Loc → Prop) (hlocks : meth.locks = false) :
    ∃ G : State → JFrame → Prop,
      (∀ {T T' : State} {g g' : JFrame}, (∀ t, Steps p.tables e below (T'.setTop g') t → Steps p.tables e below (T.setTop g) t) → G T' g' → G T g) ∧
      (∀ {T : State} {g : JFrame} {locs : List Loc} {cells slots : Nat} {v : Option Value} {h : Heap}, Stand p l e R s m args below meth c T locs cells slots → (meth.sig.returnType = none → v = none) →
        (∀ fs, (∀ (f : JFrame) (acts : List Action), f.method = m → f.locked = none → f.entered = [] → (doReturn e (T.setTop f) acts v).1 = T.setFrames fs) → Steps p.tables e below (T.setTop g) (T.setFrames fs)) → T.heap = h → Q v h locs → cells ≤ K → slots ≤ N → G T g) ∧
      (∀ {T : State} {g : JFrame}, G T g → ∃ t o, Steps p.tables e below (T.setTop g) t ∧ t.status = .running ∧ Ended t below o ∧ ∃ v L, o = .returned v ∧ Q v t.heap L ∧ FrameEnd s o t L K N) := by
  refine ⟨fun T g => ∃ t o, Steps p.tables e below (T.setTop g) t ∧ t.status = .running ∧ Ended t below o ∧ ∃ v L, o = .returned v ∧ Q v t.heap L ∧ FrameEnd s o t L K N, ?_, ?_, fun h => h⟩
  · intro T T' g g' hs hG
    obtain ⟨t, o, h1, h2⟩ := hG
    exact ⟨t, o, hs t h1, h2⟩
  · intro T g locs cells slots v h X hv hst hT hQ hk hn
    obtain ⟨fs, hr, hrun, hended, hW, hsame⟩ := X.leave hv hlocks
    exact ⟨_, _, hst fs hr, hrun, hended, v, locs, rfl, by show Q v T.heap locs; rw [hT]; exact hQ, ⟨_, rfl⟩, hW, hsame.mono hk hn⟩
theorem own_openW (K N : Nat) (Q : Option Value → Heap → List Loc → Prop) (hlocks : meth.locks = false) :
    ∃ G : State → JFrame → Prop,
      (∀ {T T' : State} {g g' : JFrame}, (∀ t, Steps p.tables e below (T'.setTop g') t → Steps p.tables e below (T.setTop g) t) → G T' g' → G T g) ∧
      (∀ {T : State} {g : JFrame} {locs : List Loc} {cells slots : Nat} {v : Option Value} {h : Heap} {vm0 : Vm} {k0 : Nat}, Stand p l e R (s.setVm vm0) m args below meth c T locs cells slots → s.Since vm0 k0 → k0 ≤ h.size → (meth.sig.returnType = none → v = none) →
        (∀ fs, (∀ (f : JFrame) (acts : List Action), f.method = m → f.locked = none → f.entered = [] → (doReturn e (T.setTop f) acts v).1 = T.setFrames fs) → Steps p.tables e below (T.setTop g) (T.setFrames fs)) → T.heap = h → Q v h locs → cells ≤ K → slots ≤ N → G T g) ∧
      (∀ {T : State} {g : JFrame}, G T g → ∃ t o, Steps p.tables e below (T.setTop g) t ∧ t.status = .running ∧ Ended t below o ∧ ∃ v L, o = .returned v ∧ Q v t.heap L ∧ ReturnedEndW s o t L K N) := by
  refine ⟨fun T g => ∃ t o, Steps p.tables e below (T.setTop g) t ∧ t.status = .running ∧ Ended t below o ∧ ∃ v L, o = .returned v ∧ Q v t.heap L ∧ ReturnedEndW s o t L K N, ?_, ?_, fun h => h⟩
  · intro T T' g g' hs hG
    obtain ⟨t, o, h1, h2⟩ := hG
    exact ⟨t, o, hs t h1, h2⟩
  · intro T g locs cells slots v h vm0 k0 X hS hk0 hv hst hT hQ hk hn
    obtain ⟨fs, hr, hrun, hended, hW⟩ := X.leaveW hS (by rw [hT]; exact hk0) hv hlocks
    exact ⟨_, _, hst fs hr, hrun, hended, v, locs, rfl, by show Q v T.heap locs; rw [hT]; exact hQ, hW.1, hW.2.1, hW.2.2.1, hW.2.2.2.mono hk hn⟩
theorem own_at {j : Int32} {i : Nat} {vs : List Value} {d v : Value} (hj : j.toNatClampNeg = i) (h : vs.getD i d = v) : vs.getD j.toNatClampNeg d = v := hj ▸ h
theorem own_gen {n0 : Nat} (X : Stand p l e R s m args below meth c T locs cells slots) (N : Fr n0 locs) : ∃ lc, Stand p l e R s m args below meth c T lc cells slots ∧ Fr n0 lc := ⟨_, X, N⟩
theorem own_sl (a : Array Slot) : ∃ z, z = a := ⟨_, rfl⟩
theorem own_xlt {x y : Int32} : x < y ↔ x.toInt < y.toInt := Int32.lt_iff_toInt_lt
theorem own_xeq {x y : Int32} : x = y ↔ x.toInt = y.toInt := Int32.toInt_inj.symm
theorem own_xltL {x y : Int64} : x < y ↔ x.toInt < y.toInt := Int64.lt_iff_toInt_lt
theorem own_xeqL {x y : Int64} : x = y ↔ x.toInt = y.toInt := Int64.toInt_inj.symm
theorem own_old_le {Z : State} {n0 : Nat} {h : Heap} (O : Old Z n0 h) : n0 ≤ h.size := O.1 ▸ O.2.1
theorem own_oldne {Z : State} {n0 : Nat} {h : Heap} {a b : Addr} (O : Old Z n0 h) (q : a < Z.heap.size) (r : n0 ≤ b) : a ≠ b := O.ne q r
theorem own_fldI {Z : State} {args : Array Value} {t : Term} {C f d : String} {a : Addr} {k : Int32} (ht : t.eval args Z none [] Z = some (.ref a)) (h : (Cond.eq (.field t C f d) (.int k)).value args Z none Z [] = some true) : Fld Z Z.heap a C f d (.int k) := by
  refine Fld.start ?_
  rw [← fld_at (C := C) (n := f) (dd := d) ht]
  obtain ⟨x, y, h1, h2, h3, h4⟩ := cmp_v (Or.inl h)
  have h5 : y = .int k := Option.some.inj (h2.symm.trans (Term.int_eval k))
  subst h5
  obtain ⟨z, rfl⟩ := h4
  have := gotT (P := z = k) (by simp [Cond.value, h1, h2]) h
  rw [h1, this]
theorem own_fldD {Z : State} {args : Array Value} {t : Term} {C f d : String} {a : Addr} {k : Int64} {b : UInt64} (hb : k.toUInt64 = b) (ht : t.eval args Z none [] Z = some (.ref a)) (h : (Cond.eq (.field t C f d) (.op1 .bitsD (.long k))).value args Z none Z [] = some true) : Fld Z Z.heap a C f d (.double b) := by
  refine Fld.start ?_
  rw [← fld_at (C := C) (n := f) (dd := d) ht]
  obtain ⟨x, y, h1, h2, h3, h4⟩ := cmp_v (Or.inl h)
  have h5 : y = .double k.toUInt64 := Option.some.inj (h2.symm.trans rfl)
  subst h5
  obtain ⟨z, rfl⟩ := h4
  have := gotT (P := z = k.toUInt64) (by simp [Cond.value, h1, h2]) h
  rw [h1, this, hb]
theorem own_dnn {a b : UInt64} (ha : Jvm.Free.Fl.NoNaN64 a) (hb : FP.Core.DFin b) (hz : ¬ FP.Core.DZero b) : Jvm.Free.Fl.NoNaN64 (FP.ddiv a b) := by
  refine Jvm.Free.Fl.val64_no.mpr fun q => ?_
  have q2 := (FP.Core.quotient_nan FP.Core.b64 _ _).mp ((FP.Core.val64_ddiv a b).symm.trans q)
  rcases q2 with h | h | ⟨s, t, h1, h2⟩ | ⟨s, t, q, r, h1, h2⟩
  · exact Jvm.Free.Fl.val64_no.mp ha h
  · exact hb.ne_nan h
  · exact hb.ne_inf t h2
  · exact hz ⟨t, r, h2⟩
theorem own_i2dn (x : Int32) : Jvm.Free.Fl.NoNaN64 (FP.i2d x) := Jvm.Free.Fl.noNaN64_no.mpr (FP.Core.i2d_fin x).notNaN
theorem own_i2dz {x : Int32} (h : x ≠ 0) : ¬ FP.Core.DZero (FP.i2d x) := fun q => FP.Core.i2d_ne_zero h ((FP.Core.zero_bits2 _).mp q)
theorem own_and255 (x : Int32) : ¬ (x &&& (255 : Int32)) < 0 ∧ ¬ (255 : Int32) < (x &&& (255 : Int32)) := by
  have c1 := c_mask x (255 : Int32) 8 (by decide) (by decide)
  have q0 : (0 : Int32).toInt = 0 := by decide
  have q1 : (255 : Int32).toInt = 255 := by decide
  rw [own_xlt, own_xlt]
  omega
theorem own_l255 (x : Int64) : ¬ (x &&& (255 : Int64)).toInt32 < 0 ∧ ¬ (255 : Int32) < (x &&& (255 : Int64)).toInt32 := by
  have c1 := c_maskL x (255 : Int64) 8 (by decide) (by decide)
  have c2 := c_l2i (x &&& (255 : Int64))
  have r := rng32 (x &&& (255 : Int64)).toInt32
  have q0 : (0 : Int32).toInt = 0 := by decide
  have q1 : (255 : Int32).toInt = 255 := by decide
  rw [own_xlt, own_xlt]
  omega
theorem own_i2c {x : Int32} (h : ¬ x < 0 ∧ ¬ (255 : Int32) < x) : x.toUInt32.toUInt16.toUInt32.toInt32 = x := by
  have c1 := c_i2c x
  have q0 : (0 : Int32).toInt = 0 := by decide
  have q1 : (255 : Int32).toInt = 255 := by decide
  rw [own_xlt, own_xlt] at h
  rw [own_xeq]
  omega
theorem own_narc {x : Int32} (h : ¬ x < 0 ∧ ¬ (255 : Int32) < x) : nar .char x = x := own_i2c h
theorem own_nz {Z : State} {args : Array Value} {t : Term} {z : Int32} (ht : t.eval args Z none [] Z = some (.int z)) (h : (Cond.not (Cond.eq t (.int 0))).value args Z none Z [] = some true) : ¬ z = (0 : Int32) :=
  gotF (P := z = (0 : Int32)) (by simp [Cond.value, ht, Term.int_eval]) (not_v h)
theorem own_evI {Z : State} {args : Array Value} {u : Term} {k : Int32} (h : (Cond.eq u (.int k)).value args Z none Z [] = some true) : u.eval args Z none [] Z = some (.int k) := by
  obtain ⟨x, y, h1, h2, h3, h4⟩ := cmp_v (Or.inl h)
  have h5 : y = .int k := Option.some.inj (h2.symm.trans (Term.int_eval k))
  subst h5
  obtain ⟨z, rfl⟩ := h4
  have := gotT (P := z = k) (by simp [Cond.value, h1, h2]) h
  rw [h1, this]
theorem own_slotI {Z : State} {args : Array Value} {t : Term} {a : Addr} {i k : Int32} {cl : Cell} (ht : t.eval args Z none [] Z = some (.ref a)) (hc : Z.heap[a]? = some cl) (h : (Cond.eq (.elem t (.int i)) (.int k)).value args Z none Z [] = some true) : cl.slots[i.toNatClampNeg]? = some (.int k) :=
  (elem_in (own_evI h) ht (Term.int_eval i) hc).2
theorem own_lenI {Z : State} {args : Array Value} {t : Term} {a : Addr} {n : Int32} {cl : Cell} {ty : FieldType} (ht : t.eval args Z none [] Z = some (.ref a)) (A : Arr Z Z.heap a cl ty) (h : (Cond.eq (.length t) (.int n)).value args Z none Z [] = some true) : cl.slots.size < 2 ^ 31 ∧ cl.slots.size.toInt32 = n := by
  have hh := A.fin (Vm.Alike.refl _)
  have q := own_evI h
  simp only [Term.eval, ht, hh, Option.bind_eq_bind, Option.bind_some] at q
  split at q
  · rename_i hlt
    exact ⟨hlt, Value.int.inj (Option.some.inj q)⟩
  · cases q
theorem own_fldN {Z : State} {args : Array Value} {t : Term} {C f d : String} {a : Addr} (ht : t.eval args Z none [] Z = some (.ref a)) (h : (Cond.eq (.field t C f d) .null).value args Z none Z [] = some true) : Fld Z Z.heap a C f d .null := by
  refine Fld.start ?_
  rw [← fld_at (C := C) (n := f) (dd := d) ht]
  exact null_v h
theorem own_selpriv {Z s : State} {a0 args : Array Value} {y : MethodName} {n : Nat} (hZ : Z.Warmed39 s.vm) (wp : (Cond.privateMethod y).before a0 Z = true) (wi : (Cond.instanceMethod y).before a0 Z = true) (wk : (Cond.instantiable y.cls n).before a0 Z = true) (hy : y.cls ≠ "java/lang/invoke/MethodHandle" ∧ y.cls ≠ "java/lang/invoke/VarHandle") : (Cond.selects y.cls y y).before args s = true := by
  obtain ⟨c, k, h1, h2, -, h3, -⟩ := Cond.instantiable_spec (mv (s := s) (args := args) hZ wk)
  exact selects_self_of_private h1 h2 (Bool.or_eq_false_iff.mp h3).1 (Cond.privateMethod_at (mvP hZ wp (args := args))) (mv hZ wi) hy
theorem own_ne_arv {Z : State} {h : Heap} {a b : Addr} {C : String} {a0 : Array Value} {i : Nat} {k : ClassId} {ty : FieldType} {n : Int32} {vs : List Value} {dv : Value} (F : Exa Z h a C) (wi : (Cond.instantiable C i).before a0 Z = true) (V : Arv Z h b k ty n vs dv) : a ≠ b := by
  obtain ⟨cl, A, -⟩ := V
  exact ne_arr F wi A
theorem own_arr_keep {Z : State} {h h' : Heap} {a : Addr} {cl : Cell} {ty : FieldType} {ws : List Addr} (F : Arr Z h a cl ty) (K : Keep h h' ws) (q : a ∉ ws) : Arr Z h' a cl ty := ⟨K.2.1 a cl F.1 q, F.2⟩
section Arrays
variable {Z : State} {h : Heap} {a : Addr} {k : ClassId} {n : Int32} {vs : List Value} {dv : Value} {g : JFrame} {rest : List Value} {j : Int32} {v : Value}
theorem own_len {ty : FieldType} (X : Stand p l e R s m args below meth c T locs cells slots) (hx : p.tables.exec = Jvm.exec) (hZ : Z.Warmed39 s.vm) (eT : T.heap = h) (V : Arv Z h a k ty n vs dv) (hg : g.method = m) (hs : g.stack = .ref a :: rest) (hd : decode c.code g.pc = .ok (.arraylength, 1)) (target : State)
    (hr : Steps p.tables e below (T.setTop { g with pc := g.pc + 1, stack := .int n :: rest }) target) : Steps p.tables e below (T.setTop g) target := by
  obtain ⟨cl, A, -, S, N, -, -⟩ := V
  refine X.arraylength hx (by rw [eT]; exact A.1) (State.isArrayOf_alike hZ.alike A.2.1) hg hs hd target ?_
  rw [len_of S N]; exact hr
theorem own_ldI (X : Stand p l e R s m args below meth c T locs cells slots) (hx : p.tables.exec = Jvm.exec) (hZ : Z.Warmed39 s.vm) (eT : T.heap = h) (V : Arv Z h a k .int n vs dv) (hj : ¬ j < 0 ∧ j < n) (hv : vs.getD j.toNatClampNeg dv = v) (hg : g.method = m) (hs : g.stack = .int j :: .ref a :: rest) (hd : decode c.code g.pc = .ok (.iaload, 1)) (target : State)
    (hr : Steps p.tables e below (T.setTop { g with pc := g.pc + 1, stack := v :: rest }) target) : Steps p.tables e below (T.setTop g) target := by
  obtain ⟨cl, A, -, S, N, H, -⟩ := V
  have hin := inb_of S hj
  exact X.iaload hx (by rw [eT]; exact A.1) (State.isArrayOf_alike hZ.alike A.2.1) A.2.2 hin (H.at hin hv) hg hs hd target hr
theorem own_ldJ (X : Stand p l e R s m args below meth c T locs cells slots) (hx : p.tables.exec = Jvm.exec) (hZ : Z.Warmed39 s.vm) (eT : T.heap = h) (V : Arv Z h a k .long n vs dv) (hj : ¬ j < 0 ∧ j < n) (hv : vs.getD j.toNatClampNeg dv = v) (hg : g.method = m) (hs : g.stack = .int j :: .ref a :: rest) (hd : decode c.code g.pc = .ok (.laload, 1)) (target : State)
    (hr : Steps p.tables e below (T.setTop { g with pc := g.pc + 1, stack := v :: rest }) target) : Steps p.tables e below (T.setTop g) target := by
  obtain ⟨cl, A, -, S, N, H, -⟩ := V
  have hin := inb_of S hj
  exact X.laload hx (by rw [eT]; exact A.1) (State.isArrayOf_alike hZ.alike A.2.1) A.2.2 hin (H.at hin hv) hg hs hd target hr
theorem own_ldC (X : Stand p l e R s m args below meth c T locs cells slots) (hx : p.tables.exec = Jvm.exec) (hZ : Z.Warmed39 s.vm) (eT : T.heap = h) (V : Arv Z h a k .char n vs dv) (hj : ¬ j < 0 ∧ j < n) (hv : vs.getD j.toNatClampNeg dv = v) (hg : g.method = m) (hs : g.stack = .int j :: .ref a :: rest) (hd : decode c.code g.pc = .ok (.caload, 1)) (target : State)
    (hr : Steps p.tables e below (T.setTop { g with pc := g.pc + 1, stack := v :: rest }) target) : Steps p.tables e below (T.setTop g) target := by
  obtain ⟨cl, A, -, S, N, H, -⟩ := V
  have hin := inb_of S hj
  exact X.caload hx (by rw [eT]; exact A.1) (State.isArrayOf_alike hZ.alike A.2.1) A.2.2 hin (H.at hin hv) hg hs hd target hr
theorem own_ldB (X : Stand p l e R s m args below meth c T locs cells slots) (hx : p.tables.exec = Jvm.exec) (hZ : Z.Warmed39 s.vm) (eT : T.heap = h) (V : Arv Z h a k .byte n vs dv) (hj : ¬ j < 0 ∧ j < n) (hv : vs.getD j.toNatClampNeg dv = v) (hg : g.method = m) (hs : g.stack = .int j :: .ref a :: rest) (hd : decode c.code g.pc = .ok (.baload, 1)) (target : State)
    (hr : Steps p.tables e below (T.setTop { g with pc := g.pc + 1, stack := v :: rest }) target) : Steps p.tables e below (T.setTop g) target := by
  obtain ⟨cl, A, -, S, N, H, -⟩ := V
  have hin := inb_of S hj
  exact X.baloadBytes hx (by rw [eT]; exact A.1) (State.isArrayOf_alike hZ.alike A.2.1) A.2.2 hin (H.at hin hv) hg hs hd target hr
theorem own_ldR {ty : FieldType} (X : Stand p l e R s m args below meth c T locs cells slots) (hx : p.tables.exec = Jvm.exec) (hZ : Z.Warmed39 s.vm) (eT : T.heap = h) (V : Arv Z h a k ty n vs dv) (hj : ¬ j < 0 ∧ j < n) (hv : vs.getD j.toNatClampNeg dv = v) (hty : ty.isReference = true) (hg : g.method = m) (hs : g.stack = .int j :: .ref a :: rest) (hd : decode c.code g.pc = .ok (.aaload, 1)) (target : State)
    (hr : Steps p.tables e below (T.setTop { g with pc := g.pc + 1, stack := v :: rest }) target) : Steps p.tables e below (T.setTop g) target := by
  obtain ⟨cl, A, -, S, N, H, -⟩ := V
  have hin := inb_of S hj
  exact X.aaload hx (by rw [eT]; exact A.1) (State.isArrayOf_alike hZ.alike A.2.1) hty A.2.2 hin (H.at hin hv) hg hs hd target hr
theorem own_stI {x : Int32} (X : Stand p l e R s m args below meth c T locs cells slots) (hx : p.tables.exec = Jvm.exec) (hZ : Z.Warmed39 s.vm) (eT : T.heap = h) (V : Arv Z h a k .int n vs dv) (hj : ¬ j < 0 ∧ j < n) {i : Nat} (hji : j.toNatClampNeg = i) (hi : i < vs.length) (hg : g.method = m) (hs : g.stack = .int x :: .int j :: .ref a :: rest) (hd : decode c.code g.pc = .ok (.iastore, 1)) :
    ∃ T' h', Stand p l e R s m args below meth c T' (locs ++ [⟨a, j.toNatClampNeg⟩]) cells slots ∧ T'.heap = h' ∧ Wr h h' a j.toNatClampNeg (.int x) ∧ Arv Z h' a k .int n (vs.set i (.int x)) dv ∧ ∀ target, Steps p.tables e below (T'.setTop { g with pc := g.pc + 1, stack := rest }) target → Steps p.tables e below (T.setTop g) target := by
  obtain ⟨cl, A, q, S, N, H, Gf⟩ := V
  obtain ⟨T', h', X', e', W', st⟩ := stI X hx hZ eT A (inb_of S hj) hg hs hd
  exact ⟨T', h', X', e', W', Arv.set A q S N H Gf rfl W' i hji hi, st⟩
theorem own_stJ {x : Int64} (X : Stand p l e R s m args below meth c T locs cells slots) (hx : p.tables.exec = Jvm.exec) (hZ : Z.Warmed39 s.vm) (eT : T.heap = h) (V : Arv Z h a k .long n vs dv) (hj : ¬ j < 0 ∧ j < n) {i : Nat} (hji : j.toNatClampNeg = i) (hi : i < vs.length) (hg : g.method = m) (hs : g.stack = .long x :: .int j :: .ref a :: rest) (hd : decode c.code g.pc = .ok (.lastore, 1)) :
    ∃ T' h', Stand p l e R s m args below meth c T' (locs ++ [⟨a, j.toNatClampNeg⟩]) cells slots ∧ T'.heap = h' ∧ Wr h h' a j.toNatClampNeg (.long x) ∧ Arv Z h' a k .long n (vs.set i (.long x)) dv ∧ ∀ target, Steps p.tables e below (T'.setTop { g with pc := g.pc + 1, stack := rest }) target → Steps p.tables e below (T.setTop g) target := by
  obtain ⟨cl, A, q, S, N, H, Gf⟩ := V
  obtain ⟨T', h', X', e', W', st⟩ := stJ X hx hZ eT A (inb_of S hj) hg hs hd
  exact ⟨T', h', X', e', W', Arv.set A q S N H Gf rfl W' i hji hi, st⟩
theorem own_stC {x : Int32} (X : Stand p l e R s m args below meth c T locs cells slots) (hx : p.tables.exec = Jvm.exec) (hZ : Z.Warmed39 s.vm) (eT : T.heap = h) (V : Arv Z h a k .char n vs dv) (hj : ¬ j < 0 ∧ j < n) {i : Nat} (hji : j.toNatClampNeg = i) (hi : i < vs.length) (hg : g.method = m) (hs : g.stack = .int x :: .int j :: .ref a :: rest) (hd : decode c.code g.pc = .ok (.castore, 1)) :
    ∃ T' h', Stand p l e R s m args below meth c T' (locs ++ [⟨a, j.toNatClampNeg⟩]) cells slots ∧ T'.heap = h' ∧ Wr h h' a j.toNatClampNeg (.int (nar .char x)) ∧ Arv Z h' a k .char n (vs.set i (.int (nar .char x))) dv ∧ ∀ target, Steps p.tables e below (T'.setTop { g with pc := g.pc + 1, stack := rest }) target → Steps p.tables e below (T.setTop g) target := by
  obtain ⟨cl, A, q, S, N, H, Gf⟩ := V
  obtain ⟨T', h', X', e', W', st⟩ := stC X hx hZ eT A (inb_of S hj) hg hs hd
  exact ⟨T', h', X', e', W', Arv.set A q S N H Gf (fits_nar_char _) W' i hji hi, st⟩
theorem own_stB {x : Int32} (X : Stand p l e R s m args below meth c T locs cells slots) (hx : p.tables.exec = Jvm.exec) (hZ : Z.Warmed39 s.vm) (eT : T.heap = h) (V : Arv Z h a k .byte n vs dv) (hj : ¬ j < 0 ∧ j < n) {i : Nat} (hji : j.toNatClampNeg = i) (hi : i < vs.length) (hg : g.method = m) (hs : g.stack = .int x :: .int j :: .ref a :: rest) (hd : decode c.code g.pc = .ok (.bastore, 1)) :
    ∃ T' h', Stand p l e R s m args below meth c T' (locs ++ [⟨a, j.toNatClampNeg⟩]) cells slots ∧ T'.heap = h' ∧ Wr h h' a j.toNatClampNeg (.int (nar .byte x)) ∧ Arv Z h' a k .byte n (vs.set i (.int (nar .byte x))) dv ∧ ∀ target, Steps p.tables e below (T'.setTop { g with pc := g.pc + 1, stack := rest }) target → Steps p.tables e below (T.setTop g) target := by
  obtain ⟨cl, A, q, S, N, H, Gf⟩ := V
  obtain ⟨T', h', X', e', W', st⟩ := stB X hx hZ eT A (inb_of S hj) hg hs hd
  exact ⟨T', h', X', e', W', Arv.set A q S N H Gf (fits_nar_byte _) W' i hji hi, st⟩
theorem own_stR {K : String} (X : Stand p l e R s m args below meth c T locs cells slots) (hx : p.tables.exec = Jvm.exec) (hZ : Z.Warmed39 s.vm) (eT : T.heap = h) (V : Arv Z h a k (.object K) n vs dv) (hj : ¬ j < 0 ∧ j < n) {i : Nat} (hji : j.toNatClampNeg = i) (hi : i < vs.length) (hS : ∀ {cl : Cell}, Arr Z h a cl (.object K) → cl.cls = k → Sto Z h a v) (hg : g.method = m) (hs : g.stack = v :: .int j :: .ref a :: rest) (hd : decode c.code g.pc = .ok (.aastore, 1)) (hf : fits (.object K) v = true := by rfl) :
    ∃ T' h', Stand p l e R s m args below meth c T' (locs ++ [⟨a, j.toNatClampNeg⟩]) cells slots ∧ T'.heap = h' ∧ Wr h h' a j.toNatClampNeg v ∧ Arv Z h' a k (.object K) n (vs.set i v) dv ∧ ∀ target, Steps p.tables e below (T'.setTop { g with pc := g.pc + 1, stack := rest }) target → Steps p.tables e below (T.setTop g) target := by
  obtain ⟨cl, A, q, S, N, H, Gf⟩ := V
  obtain ⟨T', h', X', e', W', st⟩ := stR X hx hZ eT A (inb_of S hj) rfl (hS A q) hg hs hd
  exact ⟨T', h', X', e', W', Arv.set A q S N H Gf hf W' i hji hi, st⟩
end Arrays
end New
end Jvm.RoadKit
namespace Jvm.Pilot.@@N@@
open Jvm Jvm.ClassFile Sem Op Lib Jvm.Free Jvm.Stand Jvm.LawKit Jvm.RoadKit Bundle Jvm.Pilot.@@N@@.Jvm.D
abbrev cn_0 : String := "com/example/tempogate/tempogate/gate/AdmissionTimes"
abbrev cn_1 : String := "com/example/tempogate/tempogate/rules/Window"
abbrev cn_2 : String := "com/example/tempogate/tempogate/rules/Window$Type"
abbrev cn_3 : String := "Lcom/example/tempogate/tempogate/rules/Window$Type;"
abbrev cn_4 : String := "com/example/tempogate/tempogate/gate/AdmissionTimesGetPinLaw"
abbrev cn_5 : String := "()Lcom/example/tempogate/tempogate/rules/Window$Type;"
abbrev cn_6 : String := "(Lcom/example/tempogate/tempogate/rules/Window;J)I"
abbrev cn_7 : String := "java/lang/Enum"
abbrev cn_8 : String := "(Ljava/lang/Object;Ljava/lang/String;)Ljava/lang/Object;"
abbrev cn_9 : String := "(Lcom/example/tempogate/tempogate/rules/Window$Type;JJ)V"
abbrev cn_10 : String := "com/example/tempogate/tempogate/gate/AdmissionTimes$1"
abbrev cn_11 : String := "(J)Lcom/example/tempogate/tempogate/rules/Window;"
abbrev cn_12 : String := "java/lang/Record"
abbrev cn_13 : String := "java/lang/Object"
abbrev cn_14 : String := "java/util/Objects"
def own_St (Z : State) (w_SLIDING : Addr) (w_CALENDAR : Addr) (w_SwitchMap_co : Addr) : Prop := (Sta Z Z.heap cn_2 "SLIDING" cn_3 (.ref w_SLIDING)) ∧ (Exa Z Z.heap w_SLIDING cn_2) ∧ (Sta Z Z.heap cn_2 "CALENDAR" cn_3 (.ref w_CALENDAR)) ∧ (Exa Z Z.heap w_CALENDAR cn_2) ∧ (Fld Z Z.heap w_SLIDING cn_7 "ordinal" "I" (.int 0)) ∧ (Fld Z Z.heap w_CALENDAR cn_7 "ordinal" "I" (.int 1)) ∧ (Sta Z Z.heap cn_10 "$SwitchMap$com$example$tempogate$tempogate$rules$Window$Type" "[I" (.ref w_SwitchMap_co)) ∧ (∃ k, Arv Z Z.heap w_SwitchMap_co k .int (3 : Int32) [(.int 1), (.int 2), (.int 3)] (.int (0 : Int32)))
theorem own_St.k0 {Z : State} {w_SLIDING : Addr} {w_CALENDAR : Addr} {w_SwitchMap_co : Addr} (ST : own_St Z w_SLIDING w_CALENDAR w_SwitchMap_co) : Sta Z Z.heap cn_2 "SLIDING" cn_3 (.ref w_SLIDING) := ST.1
theorem own_St.k1 {Z : State} {w_SLIDING : Addr} {w_CALENDAR : Addr} {w_SwitchMap_co : Addr} (ST : own_St Z w_SLIDING w_CALENDAR w_SwitchMap_co) : Exa Z Z.heap w_SLIDING cn_2 := ST.2.1
theorem own_St.k2 {Z : State} {w_SLIDING : Addr} {w_CALENDAR : Addr} {w_SwitchMap_co : Addr} (ST : own_St Z w_SLIDING w_CALENDAR w_SwitchMap_co) : Sta Z Z.heap cn_2 "CALENDAR" cn_3 (.ref w_CALENDAR) := ST.2.2.1
theorem own_St.k3 {Z : State} {w_SLIDING : Addr} {w_CALENDAR : Addr} {w_SwitchMap_co : Addr} (ST : own_St Z w_SLIDING w_CALENDAR w_SwitchMap_co) : Exa Z Z.heap w_CALENDAR cn_2 := ST.2.2.2.1
theorem own_St.k4 {Z : State} {w_SLIDING : Addr} {w_CALENDAR : Addr} {w_SwitchMap_co : Addr} (ST : own_St Z w_SLIDING w_CALENDAR w_SwitchMap_co) : Fld Z Z.heap w_SLIDING cn_7 "ordinal" "I" (.int 0) := ST.2.2.2.2.1
theorem own_St.k5 {Z : State} {w_SLIDING : Addr} {w_CALENDAR : Addr} {w_SwitchMap_co : Addr} (ST : own_St Z w_SLIDING w_CALENDAR w_SwitchMap_co) : Fld Z Z.heap w_CALENDAR cn_7 "ordinal" "I" (.int 1) := ST.2.2.2.2.2.1
theorem own_St.k6 {Z : State} {w_SLIDING : Addr} {w_CALENDAR : Addr} {w_SwitchMap_co : Addr} (ST : own_St Z w_SLIDING w_CALENDAR w_SwitchMap_co) : Sta Z Z.heap cn_10 "$SwitchMap$com$example$tempogate$tempogate$rules$Window$Type" "[I" (.ref w_SwitchMap_co) := ST.2.2.2.2.2.2.1
theorem own_St.k7 {Z : State} {w_SLIDING : Addr} {w_CALENDAR : Addr} {w_SwitchMap_co : Addr} (ST : own_St Z w_SLIDING w_CALENDAR w_SwitchMap_co) : ∃ k, Arv Z Z.heap w_SwitchMap_co k .int (3 : Int32) [(.int 1), (.int 2), (.int 3)] (.int (0 : Int32)) := ST.2.2.2.2.2.2.2
def own_at4 (x0 : Int64) (x1 : Int64) (x2 : Int64) (x3 : Int64) (i : Int32) : Int64 := (if i = (0 : Int32) then x0 else (if i = (1 : Int32) then x1 else (if i = (2 : Int32) then x2 else x3)))
theorem own_in4 {i : Int32} (h : ¬ i < 0 ∧ i < (4 : Int32)) : i = (0 : Int32) ∨ i = (1 : Int32) ∨ i = (2 : Int32) ∨ i = (3 : Int32) := by
  have q0 : (0 : Int32).toInt = 0 := by decide
  have q1 : (1 : Int32).toInt = 1 := by decide
  have q2 : (2 : Int32).toInt = 2 := by decide
  have q3 : (3 : Int32).toInt = 3 := by decide
  have q4 : (4 : Int32).toInt = 4 := by decide
  rw [own_xlt, own_xlt, q0, q4] at h
  simp only [own_xeq, q0, q1, q2, q3]
  omega
theorem own_get4 {x0 : Int64} {x1 : Int64} {x2 : Int64} {x3 : Int64} {i : Int32} (h : ¬ i < 0 ∧ i < (4 : Int32)) : ([(.long x0), (.long x1), (.long x2), (.long x3)] : List Value).getD i.toNatClampNeg (.long 0) = .long (own_at4 x0 x1 x2 x3 i) := by
  rcases own_in4 h with rfl | rfl | rfl | rfl <;> rfl
def own_at8 (x0 : Int64) (x1 : Int64) (x2 : Int64) (x3 : Int64) (x4 : Int64) (x5 : Int64) (x6 : Int64) (x7 : Int64) (i : Int32) : Int64 := (if i = (0 : Int32) then x0 else (if i = (1 : Int32) then x1 else (if i = (2 : Int32) then x2 else (if i = (3 : Int32) then x3 else (if i = (4 : Int32) then x4 else (if i = (5 : Int32) then x5 else (if i = (6 : Int32) then x6 else x7)))))))
theorem own_in8 {i : Int32} (h : ¬ i < 0 ∧ i < (8 : Int32)) : i = (0 : Int32) ∨ i = (1 : Int32) ∨ i = (2 : Int32) ∨ i = (3 : Int32) ∨ i = (4 : Int32) ∨ i = (5 : Int32) ∨ i = (6 : Int32) ∨ i = (7 : Int32) := by
  have q0 : (0 : Int32).toInt = 0 := by decide
  have q1 : (1 : Int32).toInt = 1 := by decide
  have q2 : (2 : Int32).toInt = 2 := by decide
  have q3 : (3 : Int32).toInt = 3 := by decide
  have q4 : (4 : Int32).toInt = 4 := by decide
  have q5 : (5 : Int32).toInt = 5 := by decide
  have q6 : (6 : Int32).toInt = 6 := by decide
  have q7 : (7 : Int32).toInt = 7 := by decide
  have q8 : (8 : Int32).toInt = 8 := by decide
  rw [own_xlt, own_xlt, q0, q8] at h
  simp only [own_xeq, q0, q1, q2, q3, q4, q5, q6, q7]
  omega
theorem own_get8 {x0 : Int64} {x1 : Int64} {x2 : Int64} {x3 : Int64} {x4 : Int64} {x5 : Int64} {x6 : Int64} {x7 : Int64} {i : Int32} (h : ¬ i < 0 ∧ i < (8 : Int32)) : ([(.long x0), (.long x1), (.long x2), (.long x3), (.long x4), (.long x5), (.long x6), (.long x7)] : List Value).getD i.toNatClampNeg (.long 0) = .long (own_at8 x0 x1 x2 x3 x4 x5 x6 x7 i) := by
  rcases own_in8 h with rfl | rfl | rfl | rfl | rfl | rfl | rfl | rfl <;> rfl
theorem own_wS {Z : State} {a0 : Array Value} (hw : ∀ d ∈ tables_1, d.before a0 Z = true) : ∀ a ∈ Bundle.stringAtoms, a.before a0 Z = true := by
  intro a ha
  simp only [Bundle.stringAtoms, List.mem_cons, List.not_mem_nil, or_false] at ha
  rcases ha with rfl | rfl | rfl | rfl | rfl | rfl | rfl
  all_goals first | exact hw _ (List.mem_of_getElem? (i := 23) rfl) | exact hw _ (List.mem_of_getElem? (i := 24) rfl) | exact hw _ (List.mem_of_getElem? (i := 25) rfl) | exact hw _ (List.mem_of_getElem? (i := 26) rfl) | exact hw _ (List.mem_of_getElem? (i := 27) rfl) | exact hw _ (List.mem_of_getElem? (i := 28) rfl) | exact hw _ (List.mem_of_getElem? (i := 29) rfl)
theorem ww10 {Z : State} {a0 : Array Value} (hw : ∀ d ∈ tables_1, d.before a0 Z = true) : Jvm.Cond.before (Jvm.Cond.laysStatic cn_2 "SLIDING" cn_3) a0 Z = true := hw _ (List.mem_of_getElem? (i := 10) rfl)
theorem ww9 {Z : State} {a0 : Array Value} (hw : ∀ d ∈ tables_1, d.before a0 Z = true) : Jvm.Cond.before (Jvm.Cond.initialized cn_2) a0 Z = true := hw _ (List.mem_of_getElem? (i := 9) rfl)
theorem ww35 {Z : State} {a0 : Array Value} (hw : ∀ d ∈ tables_1, d.before a0 Z = true) : Jvm.Cond.before (Jvm.Cond.laysStatic cn_2 "CALENDAR" cn_3) a0 Z = true := hw _ (List.mem_of_getElem? (i := 35) rfl)
theorem ww67 {Z : State} {a0 : Array Value} (hw : ∀ d ∈ tables_1, d.before a0 Z = true) : Jvm.Cond.before (Jvm.Cond.laysStatic cn_10 "$SwitchMap$com$example$tempogate$tempogate$rules$Window$Type" "[I") a0 Z = true := hw _ (List.mem_of_getElem? (i := 67) rfl)
theorem ww66 {Z : State} {a0 : Array Value} (hw : ∀ d ∈ tables_1, d.before a0 Z = true) : Jvm.Cond.before (Jvm.Cond.initialized cn_10) a0 Z = true := hw _ (List.mem_of_getElem? (i := 66) rfl)
theorem d0_0 : decode jdk_30_method_1_code 0 = .ok (.aload_n 0, 1) := by decide +kernel
theorem d0_1 : decode jdk_30_method_1_code 1 = .ok (.invokespecial 1, 3) := by decide +kernel
theorem ww19 {Z : State} {a0 : Array Value} (hw : ∀ d ∈ tables_1, d.before a0 Z = true) : Jvm.Cond.before (Jvm.Cond.methodLink cn_12 (1 : Nat) ({ cls := cn_13, name := "<init>", desc := "()V" } : Jvm.MethodName)) a0 Z = true := hw _ (List.mem_of_getElem? (i := 19) rfl)
theorem ww20 {Z : State} {a0 : Array Value} (hw : ∀ d ∈ tables_1, d.before a0 Z = true) : Jvm.Cond.before (Jvm.Cond.instanceMethod ({ cls := cn_13, name := "<init>", desc := "()V" } : Jvm.MethodName)) a0 Z = true := hw _ (List.mem_of_getElem? (i := 20) rfl)
theorem ww21 {Z : State} {a0 : Array Value} (hw : ∀ d ∈ tables_1, d.before a0 Z = true) : Jvm.Cond.before (Jvm.Cond.code ({ cls := cn_13, name := "<init>", desc := "()V" } : Jvm.MethodName) object_method_1_code (1 : Nat) (Option.none : Option Jvm.ClassFile.FieldType)) a0 Z = true := hw _ (List.mem_of_getElem? (i := 21) rfl)
theorem d0_4 : decode jdk_30_method_1_code 4 = .ok (.return_, 1) := by decide +kernel
abbrev rr_rec : Room := { frames := 1, cells := 0, slots := 0, locals := 12 }
abbrev y_0 : MethodName := ⟨cn_12, "<init>", "()V"⟩
theorem pn_0 : plainName cn_12 = true := by first | (simp [plainName, overriddenIn]; done) | decide +kernel
theorem ef_rec (m : MethodId) (o0 : Addr) : entryFrame m #[(.ref o0)] 1 = mkF m 0 #[.val (.ref o0)] [] := by first | (simp [entryFrame, mkF, argsToLocals, Value.category]; done) | rfl
def Q_rec (Z : State) (w_SLIDING : Addr) (w_CALENDAR : Addr) (w_SwitchMap_co : Addr) (o0 : Addr) (h0 : Heap) (n0 : Nat) (v : Option Value) (h : Heap) (L : List Loc) : Prop := v = none ∧ Fr n0 L ∧ h = h0
set_option maxRecDepth 65536 in
set_option maxHeartbeats 40000000 in
theorem rm_rec (l : Launch) (Z : State) (a0 : Array Value) (hw : ∀ d ∈ tables_1, d.before a0 Z = true) (ws : List Jvm.Cond) (w_SLIDING : Addr) (w_CALENDAR : Addr) (w_SwitchMap_co : Addr) (o0 : Addr) (h0 : Heap) (n0 : Nat) (Z0 : n0 ≤ h0.size) (ST : own_St Z w_SLIDING w_CALENDAR w_SwitchMap_co) (O0 : Old Z n0 h0) :
    MetFree l y_0 (head1 (Jvm.Cond.code y_0 jdk_30_method_1_code 1 none :: ws) rr_rec) (fun a U => a = #[(.ref o0)] ∧ Z.Warmed39 U.vm ∧ U.heap = h0) (fun _ _ _ _ _ => True) (fun _ U o U' => ∃ v L, o = .returned v ∧ Q_rec Z w_SLIDING w_CALENDAR w_SwitchMap_co o0 h0 n0 v U'.heap L ∧ FrameEnd U o U' L rr_rec.cells rr_rec.slots) := by
  refine MetFree.of_bodySF (plainFor_of_name pn_0) hisR ?_
  intro p e s m args below meth c s₁ Bd hml0 hP hK
  obtain ⟨rfl, hZ, hh⟩ := hP
  have hx := Bd.exec
  have hby := Bd.bytes
  have hml : c.maxLocals = 1 := hml0
  have hown : s.vm.findClass cn_12 = some m.cls := findClass_of_methodNamed Bd.named
  have hnm := (name_of_methodNamed Bd.named Bd.method).1
  have X0 : Stand p l e rr_rec s m #[(.ref o0)] below meth c s₁ [] 0 0 := Stand.of_body Bd
  have e0 : s₁.heap = h0 := by rw [← hh, Bd.state]; rfl
  have N0 := Fr.nil n0
  obtain ⟨G, step, ret, fin⟩ := own_open (p := p) (l := l) (e := e) (R := rr_rec) (s := s) (m := m) (args := #[(.ref o0)]) (below := below) (meth := meth) (c := c) (rr_rec.cells) (rr_rec.slots) (Q_rec Z w_SLIDING w_CALENDAR w_SwitchMap_co o0 h0 n0) Bd.notSynchronized
  refine fin (g := entryFrame m #[(.ref o0)] 1) ?_
  rw [ef_rec m o0]
  show G s₁ (mkF m 0 #[.val (.ref o0)] [])
  refine step (fun t k => XS.aloadN X0.here hx rfl (hb hby d0_0) rfl rfl k) ?_
  show G s₁ (mkF m 1 #[.val (.ref o0)] [(.ref o0)])
  obtain ⟨T1, X1, e1, st1⟩ := initO X0 hx hZ hown (ww19 hw) (ww20 hw) (ww21 hw) e0 (g := (mkF m 1 #[.val (.ref o0)] [(.ref o0)])) rfl (by rw [hml]; rfl) rfl (hb hby d0_1) (by decide) (W := 0) (by show 2 * 0 + _ ≤ _; exact Nat.le_of_eq rfl) (by decide)
  refine step st1 ?_
  show G T1 (mkF m 4 #[.val (.ref o0)] [])
  exact ret (v := none) X1 (fun _ => rfl) (fun fs hr => X1.returnOut hx Bd.returns (hb hby d0_4) hr) e1 ⟨rfl, N0, rfl⟩ (by decide) (by decide)
theorem d1_0 : decode jdk_31_method_11_code 0 = .ok (.aload_n 0, 1) := by decide +kernel
theorem d1_1 : decode jdk_31_method_11_code 1 = .ok (.ifnonnull 12, 3) := by decide +kernel
theorem d1_13 : decode jdk_31_method_11_code 13 = .ok (.aload_n 0, 1) := by decide +kernel
theorem d1_14 : decode jdk_31_method_11_code 14 = .ok (.areturn, 1) := by decide +kernel
abbrev rr_req : Room := { frames := 0, cells := 0, slots := 0, locals := 0 }
abbrev y_1 : MethodName := ⟨cn_14, "requireNonNull", cn_8⟩
theorem pn_1 : plainName cn_14 = true := by first | (simp [plainName, overriddenIn]; done) | decide +kernel
theorem ef_req (m : MethodId) (o0 : Addr) (o1 : Addr) : entryFrame m #[(.ref o0), (.ref o1)] 2 = mkF m 0 #[.val (.ref o0), .val (.ref o1)] [] := by first | (simp [entryFrame, mkF, argsToLocals, Value.category]; done) | rfl
def f_req (w_SLIDING : Addr) (w_CALENDAR : Addr) (w_SwitchMap_co : Addr) (o0 : Addr) (o1 : Addr) : Addr := o0
def Q_req (Z : State) (w_SLIDING : Addr) (w_CALENDAR : Addr) (w_SwitchMap_co : Addr) (o0 : Addr) (o1 : Addr) (h0 : Heap) (n0 : Nat) (v : Option Value) (h : Heap) (L : List Loc) : Prop := v = some (.ref (f_req w_SLIDING w_CALENDAR w_SwitchMap_co o0 o1)) ∧ Fr n0 L ∧ h = h0
set_option maxRecDepth 65536 in
set_option maxHeartbeats 40000000 in
theorem rm_req (l : Launch) (Z : State) (a0 : Array Value) (hw : ∀ d ∈ tables_1, d.before a0 Z = true) (ws : List Jvm.Cond) (w_SLIDING : Addr) (w_CALENDAR : Addr) (w_SwitchMap_co : Addr) (o0 : Addr) (o1 : Addr) (h0 : Heap) (n0 : Nat) (Z0 : n0 ≤ h0.size) (ST : own_St Z w_SLIDING w_CALENDAR w_SwitchMap_co) (O0 : Old Z n0 h0) :
    MetFree l y_1 (head1 (Jvm.Cond.code y_1 jdk_31_method_11_code 2 (some (.object cn_13)) :: ws) rr_req) (fun a U => a = #[(.ref o0), (.ref o1)] ∧ Z.Warmed39 U.vm ∧ U.heap = h0) (fun _ _ _ _ _ => True) (fun _ U o U' => ∃ v L, o = .returned v ∧ Q_req Z w_SLIDING w_CALENDAR w_SwitchMap_co o0 o1 h0 n0 v U'.heap L ∧ FrameEnd U o U' L rr_req.cells rr_req.slots) := by
  refine MetFree.of_bodySF (plainFor_of_name pn_1) hisR ?_
  intro p e s m args below meth c s₁ Bd hml0 hP hK
  obtain ⟨rfl, hZ, hh⟩ := hP
  have hx := Bd.exec
  have hby := Bd.bytes
  have hml : c.maxLocals = 2 := hml0
  have hown : s.vm.findClass cn_14 = some m.cls := findClass_of_methodNamed Bd.named
  have hnm := (name_of_methodNamed Bd.named Bd.method).1
  have X0 : Stand p l e rr_req s m #[(.ref o0), (.ref o1)] below meth c s₁ [] 0 0 := Stand.of_body Bd
  have e0 : s₁.heap = h0 := by rw [← hh, Bd.state]; rfl
  have N0 := Fr.nil n0
  obtain ⟨G, step, ret, fin⟩ := own_open (p := p) (l := l) (e := e) (R := rr_req) (s := s) (m := m) (args := #[(.ref o0), (.ref o1)]) (below := below) (meth := meth) (c := c) (rr_req.cells) (rr_req.slots) (Q_req Z w_SLIDING w_CALENDAR w_SwitchMap_co o0 o1 h0 n0) Bd.notSynchronized
  refine fin (g := entryFrame m #[(.ref o0), (.ref o1)] 2) ?_
  rw [ef_req m o0 o1]
  show G s₁ (mkF m 0 #[.val (.ref o0), .val (.ref o1)] [])
  refine step (fun t k => XS.aloadN X0.here hx rfl (hb hby d1_0) rfl rfl k) ?_
  show G s₁ (mkF m 1 #[.val (.ref o0), .val (.ref o1)] [(.ref o0)])
  refine step (fun t k => XS.ifnonnullYes X0.here hx rfl (pc0 := 1) (pc' := 13) rfl (hb hby d1_1) rfl (by decide) (by decide) k) ?_
  show G s₁ (mkF m 13 #[.val (.ref o0), .val (.ref o1)] [])
  refine step (fun t k => XS.aloadN X0.here hx rfl (hb hby d1_13) rfl rfl k) ?_
  show G s₁ (mkF m 14 #[.val (.ref o0), .val (.ref o1)] [(.ref o0)])
  exact ret (v := some (.ref o0)) X0 (fun h => by rw [Bd.returns] at h; cases h) (fun fs hr => retA X0 hx Bd.returns rfl rfl (hb hby d1_14) hr) e0 ⟨rfl, N0, rfl⟩ (by decide) (by decide)
theorem d2_0 : decode prog_21_method_1_code 0 = .ok (.aload_n 0, 1) := by decide +kernel
theorem d2_1 : decode prog_21_method_1_code 1 = .ok (.invokespecial 1, 3) := by decide +kernel
theorem ww14 {Z : State} {a0 : Array Value} (hw : ∀ d ∈ tables_1, d.before a0 Z = true) : Jvm.Cond.before (Jvm.Cond.methodLink cn_1 (1 : Nat) ({ cls := cn_12, name := "<init>", desc := "()V" } : Jvm.MethodName)) a0 Z = true := hw _ (List.mem_of_getElem? (i := 14) rfl)
theorem ww18 {Z : State} {a0 : Array Value} (hw : ∀ d ∈ tables_1, d.before a0 Z = true) : Jvm.Cond.before (Jvm.Cond.code ({ cls := cn_12, name := "<init>", desc := "()V" } : Jvm.MethodName) jdk_30_method_1_code (1 : Nat) (Option.none : Option Jvm.ClassFile.FieldType)) a0 Z = true := hw _ (List.mem_of_getElem? (i := 18) rfl)
theorem ww17 {Z : State} {a0 : Array Value} (hw : ∀ d ∈ tables_1, d.before a0 Z = true) : Jvm.Cond.before (Jvm.Cond.initialized cn_12) a0 Z = true := hw _ (List.mem_of_getElem? (i := 17) rfl)
theorem pd_0 : parseMethodDescriptor "()V" = some ⟨[], none⟩ := by decide +kernel
theorem ww15 {Z : State} {a0 : Array Value} (hw : ∀ d ∈ tables_1, d.before a0 Z = true) : Jvm.Cond.before (Jvm.Cond.instanceMethod ({ cls := cn_12, name := "<init>", desc := "()V" } : Jvm.MethodName)) a0 Z = true := hw _ (List.mem_of_getElem? (i := 15) rfl)
theorem d2_4 : decode prog_21_method_1_code 4 = .ok (.aload_n 1, 1) := by decide +kernel
theorem d2_5 : decode prog_21_method_1_code 5 = .ok (.ldc 7, 2) := by decide +kernel
theorem ww22 {Z : State} {a0 : Array Value} (hw : ∀ d ∈ tables_1, d.before a0 Z = true) : Jvm.Cond.before (Jvm.Cond.stringLink cn_1 (7 : Nat) "type") a0 Z = true := hw _ (List.mem_of_getElem? (i := 22) rfl)
theorem d2_7 : decode prog_21_method_1_code 7 = .ok (.invokestatic 9, 3) := by decide +kernel
theorem ww30 {Z : State} {a0 : Array Value} (hw : ∀ d ∈ tables_1, d.before a0 Z = true) : Jvm.Cond.before (Jvm.Cond.methodLink cn_1 (9 : Nat) ({ cls := cn_14, name := "requireNonNull", desc := cn_8 } : Jvm.MethodName)) a0 Z = true := hw _ (List.mem_of_getElem? (i := 30) rfl)
theorem ww33 {Z : State} {a0 : Array Value} (hw : ∀ d ∈ tables_1, d.before a0 Z = true) : Jvm.Cond.before (Jvm.Cond.code ({ cls := cn_14, name := "requireNonNull", desc := cn_8 } : Jvm.MethodName) jdk_31_method_11_code (2 : Nat) (Option.some (Jvm.ClassFile.FieldType.object cn_13))) a0 Z = true := hw _ (List.mem_of_getElem? (i := 33) rfl)
theorem ww32 {Z : State} {a0 : Array Value} (hw : ∀ d ∈ tables_1, d.before a0 Z = true) : Jvm.Cond.before (Jvm.Cond.initialized cn_14) a0 Z = true := hw _ (List.mem_of_getElem? (i := 32) rfl)
theorem pd_1 : parseMethodDescriptor cn_8 = some ⟨[(.object cn_13), (.object "java/lang/String")], some (.object cn_13)⟩ := by decide +kernel
theorem ww31 {Z : State} {a0 : Array Value} (hw : ∀ d ∈ tables_1, d.before a0 Z = true) : Jvm.Cond.before (Jvm.Cond.static ({ cls := cn_14, name := "requireNonNull", desc := cn_8 } : Jvm.MethodName)) a0 Z = true := hw _ (List.mem_of_getElem? (i := 31) rfl)
theorem d2_10 : decode prog_21_method_1_code 10 = .ok (.pop, 1) := by decide +kernel
theorem d2_11 : decode prog_21_method_1_code 11 = .ok (.lload_n 2, 1) := by decide +kernel
theorem d2_12 : decode prog_21_method_1_code 12 = .ok (.lconst 0, 1) := by decide +kernel
theorem d2_13 : decode prog_21_method_1_code 13 = .ok (.lcmp, 1) := by decide +kernel
theorem d2_14 : decode prog_21_method_1_code 14 = .ok (.ifCond .gt 17, 3) := by decide +kernel
theorem d2_31 : decode prog_21_method_1_code 31 = .ok (.aload_n 1, 1) := by decide +kernel
theorem d2_32 : decode prog_21_method_1_code 32 = .ok (.getstatic 24, 3) := by decide +kernel
theorem ww34 {Z : State} {a0 : Array Value} (hw : ∀ d ∈ tables_1, d.before a0 Z = true) : Jvm.Cond.before (Jvm.Cond.fieldLink cn_1 (24 : Nat) cn_2 "CALENDAR" cn_3) a0 Z = true := hw _ (List.mem_of_getElem? (i := 34) rfl)
theorem d2_35 : decode prog_21_method_1_code 35 = .ok (.if_acmp .ne 27, 3) := by decide +kernel
theorem d2_62 : decode prog_21_method_1_code 62 = .ok (.aload_n 1, 1) := by decide +kernel
theorem d2_63 : decode prog_21_method_1_code 63 = .ok (.getstatic 24, 3) := by decide +kernel
theorem d2_66 : decode prog_21_method_1_code 66 = .ok (.if_acmp .eq 27, 3) := by decide +kernel
theorem d2_69 : decode prog_21_method_1_code 69 = .ok (.lload 4, 2) := by decide +kernel
theorem d2_71 : decode prog_21_method_1_code 71 = .ok (.lconst 0, 1) := by decide +kernel
theorem d2_72 : decode prog_21_method_1_code 72 = .ok (.lcmp, 1) := by decide +kernel
theorem d2_73 : decode prog_21_method_1_code 73 = .ok (.ifCond .eq 20, 3) := by decide +kernel
theorem d2_93 : decode prog_21_method_1_code 93 = .ok (.aload_n 0, 1) := by decide +kernel
theorem d2_94 : decode prog_21_method_1_code 94 = .ok (.aload_n 1, 1) := by decide +kernel
theorem d2_95 : decode prog_21_method_1_code 95 = .ok (.putfield 42, 3) := by decide +kernel
theorem ww36 {Z : State} {a0 : Array Value} (hw : ∀ d ∈ tables_1, d.before a0 Z = true) : Jvm.Cond.before (Jvm.Cond.fieldLink cn_1 (42 : Nat) cn_1 "type" cn_3) a0 Z = true := hw _ (List.mem_of_getElem? (i := 36) rfl)
theorem ww37 {Z : State} {a0 : Array Value} (hw : ∀ d ∈ tables_1, d.before a0 Z = true) : Jvm.Cond.before (Jvm.Cond.laysFinal cn_1 cn_1 "type" cn_3) a0 Z = true := hw _ (List.mem_of_getElem? (i := 37) rfl)
theorem ww7 {Z : State} {a0 : Array Value} (hw : ∀ d ∈ tables_1, d.before a0 Z = true) : Jvm.Cond.before (Jvm.Cond.instantiable cn_1 (3 : Nat)) a0 Z = true := hw _ (List.mem_of_getElem? (i := 7) rfl)
theorem d2_98 : decode prog_21_method_1_code 98 = .ok (.aload_n 0, 1) := by decide +kernel
theorem d2_99 : decode prog_21_method_1_code 99 = .ok (.lload_n 2, 1) := by decide +kernel
theorem d2_100 : decode prog_21_method_1_code 100 = .ok (.putfield 44, 3) := by decide +kernel
theorem ww38 {Z : State} {a0 : Array Value} (hw : ∀ d ∈ tables_1, d.before a0 Z = true) : Jvm.Cond.before (Jvm.Cond.fieldLink cn_1 (44 : Nat) cn_1 "millis" "J") a0 Z = true := hw _ (List.mem_of_getElem? (i := 38) rfl)
theorem ww39 {Z : State} {a0 : Array Value} (hw : ∀ d ∈ tables_1, d.before a0 Z = true) : Jvm.Cond.before (Jvm.Cond.laysFinal cn_1 cn_1 "millis" "J") a0 Z = true := hw _ (List.mem_of_getElem? (i := 39) rfl)
theorem d2_103 : decode prog_21_method_1_code 103 = .ok (.aload_n 0, 1) := by decide +kernel
theorem d2_104 : decode prog_21_method_1_code 104 = .ok (.lload 4, 2) := by decide +kernel
theorem d2_106 : decode prog_21_method_1_code 106 = .ok (.putfield 48, 3) := by decide +kernel
theorem ww40 {Z : State} {a0 : Array Value} (hw : ∀ d ∈ tables_1, d.before a0 Z = true) : Jvm.Cond.before (Jvm.Cond.fieldLink cn_1 (48 : Nat) cn_1 "offsetMillis" "J") a0 Z = true := hw _ (List.mem_of_getElem? (i := 40) rfl)
theorem ww41 {Z : State} {a0 : Array Value} (hw : ∀ d ∈ tables_1, d.before a0 Z = true) : Jvm.Cond.before (Jvm.Cond.laysFinal cn_1 cn_1 "offsetMillis" "J") a0 Z = true := hw _ (List.mem_of_getElem? (i := 41) rfl)
theorem d2_109 : decode prog_21_method_1_code 109 = .ok (.return_, 1) := by decide +kernel
abbrev rr_wi : Room := { frames := 2, cells := 2, slots := 20, locals := 24 }
abbrev y_2 : MethodName := ⟨cn_1, "<init>", cn_9⟩
theorem pn_2 : plainName cn_1 = true := by first | (simp [plainName, overriddenIn]; done) | decide +kernel
theorem ef_wi (m : MethodId) (o0 : Addr) (w_SLIDING : Addr) (q2 : Int64) : entryFrame m #[(.ref o0), (.ref w_SLIDING), (.long q2), (.long 0)] 6 = mkF m 0 #[.val (.ref o0), .val (.ref w_SLIDING), .val (.long q2), .second, .val (.long 0), .second] [] := by first | (simp [entryFrame, mkF, argsToLocals, Value.category]; done) | rfl
def Q_wi (Z : State) (w_SLIDING : Addr) (w_CALENDAR : Addr) (w_SwitchMap_co : Addr) (o0 : Addr) (q2 : Int64) (h0 : Heap) (n0 : Nat) (v : Option Value) (h : Heap) (L : List Loc) : Prop := v = none ∧ Fr n0 L ∧ Keep h0 h [o0] ∧ Exa Z h o0 cn_1 ∧ Fld Z h o0 cn_1 "type" cn_3 (.ref w_SLIDING) ∧ Fld Z h o0 cn_1 "millis" "J" (.long q2)
set_option maxRecDepth 65536 in
set_option maxHeartbeats 40000000 in
theorem rm_wi (l : Launch) (Z : State) (a0 : Array Value) (hw : ∀ d ∈ tables_1, d.before a0 Z = true) (ws : List Jvm.Cond) (w_SLIDING : Addr) (w_CALENDAR : Addr) (w_SwitchMap_co : Addr) (o0 : Addr) (q2 : Int64) (h0 : Heap) (n0 : Nat) (Z0 : n0 ≤ h0.size) (ST : own_St Z w_SLIDING w_CALENDAR w_SwitchMap_co) (O0 : Old Z n0 h0) (Ex : Exa Z h0 o0 cn_1) (geo : n0 ≤ o0) (Ft : Fld Z h0 o0 cn_1 "type" cn_3 .null) (Fm : Fld Z h0 o0 cn_1 "millis" "J" (.long 0)) (Fo : Fld Z h0 o0 cn_1 "offsetMillis" "J" (.long 0)) (hpos : (0 : Int64) < q2) :
    MetFree l y_2 (head1 (Jvm.Cond.code y_2 prog_21_method_1_code 6 none :: ws) rr_wi) (fun a U => a = #[(.ref o0), (.ref w_SLIDING), (.long q2), (.long 0)] ∧ Z.Warmed39 U.vm ∧ U.heap = h0) (fun _ _ _ _ _ => True) (fun _ U o U' => ∃ v L, o = .returned v ∧ Q_wi Z w_SLIDING w_CALENDAR w_SwitchMap_co o0 q2 h0 n0 v U'.heap L ∧ ReturnedEndW U o U' L rr_wi.cells rr_wi.slots) := by
  refine MetFree.of_bodySF (plainFor_of_name pn_2) hisR ?_
  intro p e s m args below meth c s₁ Bd hml0 hP hK
  obtain ⟨rfl, hZ, hh⟩ := hP
  have hx := Bd.exec
  have hby := Bd.bytes
  have hml : c.maxLocals = 6 := hml0
  have hown : s.vm.findClass cn_1 = some m.cls := findClass_of_methodNamed Bd.named
  have hnm := (name_of_methodNamed Bd.named Bd.method).1
  have X0 : Stand p l e rr_wi (s.setVm s.vm) m #[(.ref o0), (.ref w_SLIDING), (.long q2), (.long 0)] below meth c s₁ [] 0 0 := Stand.of_body Bd
  have e0 : s₁.heap = h0 := by rw [← hh, Bd.state]; rfl
  have N0 := Fr.nil n0
  replace hZ : Z.Warmed39 (s.setVm s.vm).vm := hZ
  replace hown : (s.setVm s.vm).vm.findClass cn_1 = some m.cls := hown
  have hS : s.Since s.vm h0.size := (State.WarmedH.refl s).since _
  have hk0 : h0.size ≤ h0.size := Nat.le_refl _
  have K0 : Keep h0 h0 [o0] := Keep.refl _ _
  obtain ⟨G, step, ret, fin⟩ := own_openW (p := p) (l := l) (e := e) (R := rr_wi) (s := s) (m := m) (args := #[(.ref o0), (.ref w_SLIDING), (.long q2), (.long 0)]) (below := below) (meth := meth) (c := c) (rr_wi.cells) (rr_wi.slots) (Q_wi Z w_SLIDING w_CALENDAR w_SwitchMap_co o0 q2 h0 n0) Bd.notSynchronized
  refine fin (g := entryFrame m #[(.ref o0), (.ref w_SLIDING), (.long q2), (.long 0)] 6) ?_
  rw [ef_wi m o0 w_SLIDING q2]
  show G s₁ (mkF m 0 #[.val (.ref o0), .val (.ref w_SLIDING), .val (.long q2), .second, .val (.long 0), .second] [])
  refine step (fun t k => XS.aloadN X0.here hx rfl (hb hby d2_0) rfl rfl k) ?_
  show G s₁ (mkF m 1 #[.val (.ref o0), .val (.ref w_SLIDING), .val (.long q2), .second, .val (.long 0), .second] [(.ref o0)])
  have hK1 := (backOf (R := rr_wi) (p := p) (e := e) (below := below) (args := #[(.ref o0), (.ref w_SLIDING), (.long q2), (.long 0)]) (len := 3) (W := 0) (rm_rec l Z a0 hw [] w_SLIDING w_CALENDAR w_SwitchMap_co o0 h0 n0 (own_old_le O0) ST O0) hZ (ww18 hw) (ww17 hw) (by decide) (by decide))
  obtain ⟨_, _, ⟨T1, L1, k1, n1⟩, -, X1, ⟨Lc1, hQ1, l1, y1, z1⟩, st1⟩ := X0.specialBack hx (y := y_0) rfl hown (mvT hZ (ww14 hw)) (mvT hZ (ww15 hw)) (mvT hZ (ww18 hw)) (by decide) hK1 (g := (mkF m 1 #[.val (.ref o0), .val (.ref w_SLIDING), .val (.long q2), .second, .val (.long 0), .second] [(.ref o0)])) rfl (by rw [hml]; rfl) (Steps.refl _) (a := o0) (argsL := []) (rest := []) (lenOf pd_0 rfl) rfl (by show 2 * 0 + _ ≤ _; exact Nat.le_of_eq rfl) (hb hby d2_1) (fun _ _ => ⟨rfl, e0, (by decide : 0 + 0 ≤ _), (by decide : 0 + 0 ≤ _)⟩)
  dsimp only [Pt.U, Pt.locs, Pt.cells, Pt.slots] at X1 l1 y1 z1 st1 hQ1
  subst l1 y1 z1
  obtain ⟨rfl, N1q, e1⟩ := hQ1
  have N1 := Fr.app N0 N1q
  obtain ⟨lc1, X1, N1⟩ := own_gen X1 N1
  refine step (fun t k => st1.trans k) ?_
  show G T1 (mkF m 4 #[.val (.ref o0), .val (.ref w_SLIDING), .val (.long q2), .second, .val (.long 0), .second] [])
  refine step (fun t k => XS.aloadN X1.here hx rfl (hb hby d2_4) rfl rfl k) ?_
  show G T1 (mkF m 5 #[.val (.ref o0), .val (.ref w_SLIDING), .val (.long q2), .second, .val (.long 0), .second] [(.ref w_SLIDING)])
  obtain ⟨b2, T2, h2, k2, X2, e2, E2, hS, hk2, hZ, hown, st2⟩ := ldcS (s := s) X1 hx hZ hown (ww22 hw) (own_wS hw) e1 hS hk0 (g := (mkF m 5 #[.val (.ref o0), .val (.ref w_SLIDING), .val (.long q2), .second, .val (.long 0), .second] [(.ref w_SLIDING)])) rfl (hb hby d2_5) (n := 16) (by decide +kernel) (by decide) (by decide) (by decide)
  have O2 := O0.ext E2
  have K2 : Keep h0 h2 [o0] := K0.ext E2
  refine step st2 ?_
  show G T2 (mkF m 7 #[.val (.ref o0), .val (.ref w_SLIDING), .val (.long q2), .second, .val (.long 0), .second] [(.ref b2), (.ref w_SLIDING)])
  have hK3 := (backOf (R := rr_wi) (p := p) (e := e) (below := below) (args := #[(.ref o0), (.ref w_SLIDING), (.long q2), (.long 0)]) (len := 3) (W := 0) (rm_req l Z a0 hw [] w_SLIDING w_CALENDAR w_SwitchMap_co w_SLIDING b2 h2 n0 (own_old_le O2) ST O2) hZ (ww33 hw) (ww32 hw) (by decide) (by decide))
  obtain ⟨_, _, ⟨T3, L3, k3, n3⟩, -, X3, ⟨Lc3, hQ3, l3, y3, z3⟩, st3⟩ := Jvm.LawKit.callS X2 hx (y := y_1) hown (mvT hZ (ww30 hw)) (mvT hZ (ww31 hw)) (mvT hZ (ww32 hw)) (mvT hZ (ww33 hw)) (by decide) hK3 (g := (mkF m 7 #[.val (.ref o0), .val (.ref w_SLIDING), .val (.long q2), .second, .val (.long 0), .second] [(.ref b2), (.ref w_SLIDING)])) rfl (by rw [hml]; rfl) (argsL := [(.ref w_SLIDING), (.ref b2)]) (rest := []) (lenOf pd_1 rfl) rfl (by show 2 * 0 + _ ≤ _; exact Nat.le_of_eq rfl) (hb hby d2_7) (fun _ _ => ⟨rfl, e2, (by decide : 2 + 0 ≤ _), (by decide : 20 + 0 ≤ _)⟩)
  dsimp only [Pt.U, Pt.locs, Pt.cells, Pt.slots] at X3 l3 y3 z3 st3 hQ3
  subst l3 y3 z3
  obtain ⟨rfl, N3q, e3⟩ := hQ3
  have N3 := Fr.app N1 N3q
  obtain ⟨lc3, X3, N3⟩ := own_gen X3 N3
  refine step (fun t k => st3 t k) ?_
  show G T3 (mkF m 10 #[.val (.ref o0), .val (.ref w_SLIDING), .val (.long q2), .second, .val (.long 0), .second] [(.ref (f_req w_SLIDING w_CALENDAR w_SwitchMap_co w_SLIDING b2))])
  have r4 : (f_req w_SLIDING w_CALENDAR w_SwitchMap_co w_SLIDING b2) = w_SLIDING := rfl
  rw [r4]
  show G T3 (mkF m 10 #[.val (.ref o0), .val (.ref w_SLIDING), .val (.long q2), .second, .val (.long 0), .second] [(.ref w_SLIDING)])
  refine step (fun t k => XS.pop X3.here hx rfl (hb hby d2_10) rfl rfl k) ?_
  show G T3 (mkF m 11 #[.val (.ref o0), .val (.ref w_SLIDING), .val (.long q2), .second, .val (.long 0), .second] [])
  refine step (fun t k => XS.lloadN X3.here hx rfl (hb hby d2_11) rfl k) ?_
  show G T3 (mkF m 12 #[.val (.ref o0), .val (.ref w_SLIDING), .val (.long q2), .second, .val (.long 0), .second] [(.long q2)])
  refine step (fun t k => XS.lconst X3.here hx rfl (hb hby d2_12) k) ?_
  show G T3 (mkF m 13 #[.val (.ref o0), .val (.ref w_SLIDING), .val (.long q2), .second, .val (.long 0), .second] [(.long 0), (.long q2)])
  refine step (fun t k => XS.lcmp X3.here hx rfl (hb hby d2_13) rfl k) ?_
  show G T3 (mkF m 14 #[.val (.ref o0), .val (.ref w_SLIDING), .val (.long q2), .second, .val (.long 0), .second] [(.int (lcmpW q2 (0 : Int64)))])
  refine step (fun t k => XS.ifYes X3.here hx rfl (pc0 := 14) (pc' := 31) rfl (hb hby d2_14) rfl ((if0 _ _).trans (tlt ((lw_gt _ _).mpr hpos)).2.2.1) (by decide) (by decide) k) ?_
  show G T3 (mkF m 31 #[.val (.ref o0), .val (.ref w_SLIDING), .val (.long q2), .second, .val (.long 0), .second] [])
  refine step (fun t k => XS.aloadN X3.here hx rfl (hb hby d2_31) rfl rfl k) ?_
  show G T3 (mkF m 32 #[.val (.ref o0), .val (.ref w_SLIDING), .val (.long q2), .second, .val (.long 0), .second] [(.ref w_SLIDING)])
  obtain ⟨T5, X5, e5, st5⟩ := getS2 X3 hx hZ hown (host := "") (Or.inl (ww34 hw)) Via.refl e3 (Sta.ext O2.2 ST.k2) (g := (mkF m 32 #[.val (.ref o0), .val (.ref w_SLIDING), .val (.long q2), .second, .val (.long 0), .second] [(.ref w_SLIDING)])) rfl (hb hby d2_32)
  refine step st5 ?_
  show G T5 (mkF m 35 #[.val (.ref o0), .val (.ref w_SLIDING), .val (.long q2), .second, .val (.long 0), .second] [(.ref w_CALENDAR), (.ref w_SLIDING)])
  refine step (fun t k => Jvm.RoadKit.acmp X5 hx rfl rfl rfl (pc0 := 35) (pc' := 62) (same := false) rfl (hb hby d2_35) rfl (decide_eq_false fun q => (Fld.ne ST.k4 ST.k5 (fun q => absurd (Value.int.inj q) (by decide))) (Value.ref.inj q)) (by decide) (by decide) k) ?_
  show G T5 (mkF m 62 #[.val (.ref o0), .val (.ref w_SLIDING), .val (.long q2), .second, .val (.long 0), .second] [])
  refine step (fun t k => XS.aloadN X5.here hx rfl (hb hby d2_62) rfl rfl k) ?_
  show G T5 (mkF m 63 #[.val (.ref o0), .val (.ref w_SLIDING), .val (.long q2), .second, .val (.long 0), .second] [(.ref w_SLIDING)])
  obtain ⟨T6, X6, e6, st6⟩ := getS2 X5 hx hZ hown (host := "") (Or.inl (ww34 hw)) Via.refl e5 (Sta.ext O2.2 ST.k2) (g := (mkF m 63 #[.val (.ref o0), .val (.ref w_SLIDING), .val (.long q2), .second, .val (.long 0), .second] [(.ref w_SLIDING)])) rfl (hb hby d2_63)
  refine step st6 ?_
  show G T6 (mkF m 66 #[.val (.ref o0), .val (.ref w_SLIDING), .val (.long q2), .second, .val (.long 0), .second] [(.ref w_CALENDAR), (.ref w_SLIDING)])
  refine step (fun t k => Jvm.RoadKit.acmp X6 hx rfl rfl rfl (pc0 := 66) (pc' := 69) (same := false) rfl (hb hby d2_66) rfl (decide_eq_false fun q => (Fld.ne ST.k4 ST.k5 (fun q => absurd (Value.int.inj q) (by decide))) (Value.ref.inj q)) (by decide) (by decide) k) ?_
  show G T6 (mkF m 69 #[.val (.ref o0), .val (.ref w_SLIDING), .val (.long q2), .second, .val (.long 0), .second] [])
  refine step (fun t k => XS.lload X6.here hx rfl (hb hby d2_69) rfl k) ?_
  show G T6 (mkF m 71 #[.val (.ref o0), .val (.ref w_SLIDING), .val (.long q2), .second, .val (.long 0), .second] [(.long 0)])
  refine step (fun t k => XS.lconst X6.here hx rfl (hb hby d2_71) k) ?_
  show G T6 (mkF m 72 #[.val (.ref o0), .val (.ref w_SLIDING), .val (.long q2), .second, .val (.long 0), .second] [(.long 0), (.long 0)])
  refine step (fun t k => XS.lcmp X6.here hx rfl (hb hby d2_72) rfl k) ?_
  show G T6 (mkF m 73 #[.val (.ref o0), .val (.ref w_SLIDING), .val (.long q2), .second, .val (.long 0), .second] [(.int (lcmpW (0 : Int64) (0 : Int64)))])
  refine step (fun t k => XS.ifYes X6.here hx rfl (pc0 := 73) (pc' := 93) rfl (hb hby d2_73) rfl ((if0 _ _).trans (teq ((lw_eq _ _).mpr (by decide : (0 : Int64) = (0 : Int64)))).1) (by decide) (by decide) k) ?_
  show G T6 (mkF m 93 #[.val (.ref o0), .val (.ref w_SLIDING), .val (.long q2), .second, .val (.long 0), .second] [])
  refine step (fun t k => XS.aloadN X6.here hx rfl (hb hby d2_93) rfl rfl k) ?_
  show G T6 (mkF m 94 #[.val (.ref o0), .val (.ref w_SLIDING), .val (.long q2), .second, .val (.long 0), .second] [(.ref o0)])
  refine step (fun t k => XS.aloadN X6.here hx rfl (hb hby d2_94) rfl rfl k) ?_
  show G T6 (mkF m 95 #[.val (.ref o0), .val (.ref w_SLIDING), .val (.long q2), .second, .val (.long 0), .second] [(.ref w_SLIDING), (.ref o0)])
  have f8 := (Fld.ext E2 Ft)
  have f9 := (Exa.ext E2 Ex)
  obtain ⟨T7, h7, X7, e7, W7, st7⟩ := putF X6 hx hZ hown (host := "") (Or.inl (ww36 hw)) Via.refl e6 f8 f9 (Or.inr ⟨(ww37 hw), rfl, hnm⟩) (ww7 hw) (ty := (.object cn_2)) (by decide) rfl rfl (g := (mkF m 95 #[.val (.ref o0), .val (.ref w_SLIDING), .val (.long q2), .second, .val (.long 0), .second] [(.ref w_SLIDING), (.ref o0)])) rfl rfl (hb hby d2_95)
  have F7 : Fld Z h7 o0 cn_1 "type" cn_3 (.ref w_SLIDING) := Fld.same W7 f8
  have N7 := Fr.snoc X7 N3 geo
  obtain ⟨lc7, X7, N7⟩ := own_gen X7 N7
  have O7 := O2.wr W7 geo
  have hk7 := Nat.le_trans hk2 (Nat.le_of_eq W7.size.symm)
  have K7 : Keep h0 h7 [o0] := K2.wr W7 (Or.inl (List.mem_of_getElem? (i := 0) rfl))
  refine step st7 ?_
  show G T7 (mkF m 98 #[.val (.ref o0), .val (.ref w_SLIDING), .val (.long q2), .second, .val (.long 0), .second] [])
  refine step (fun t k => XS.aloadN X7.here hx rfl (hb hby d2_98) rfl rfl k) ?_
  show G T7 (mkF m 99 #[.val (.ref o0), .val (.ref w_SLIDING), .val (.long q2), .second, .val (.long 0), .second] [(.ref o0)])
  refine step (fun t k => XS.lloadN X7.here hx rfl (hb hby d2_99) rfl k) ?_
  show G T7 (mkF m 100 #[.val (.ref o0), .val (.ref w_SLIDING), .val (.long q2), .second, .val (.long 0), .second] [(.long q2), (.ref o0)])
  have f11 := (Fld.other W7 (Fld.ext E2 Fm) (Or.inr (slot_ne (Or.inr (ww39 hw)) (Or.inr (ww37 hw)) (by decide) (t := .long) (t' := (.object cn_2)) (by decide) (by decide))))
  have f12 := (Exa.wr W7 f9)
  obtain ⟨T10, h10, X10, e10, W10, st10⟩ := putF X7 hx hZ hown (host := "") (Or.inl (ww38 hw)) Via.refl e7 f11 f12 (Or.inr ⟨(ww39 hw), rfl, hnm⟩) (ww7 hw) (ty := .long) (by decide) rfl rfl (g := (mkF m 100 #[.val (.ref o0), .val (.ref w_SLIDING), .val (.long q2), .second, .val (.long 0), .second] [(.long q2), (.ref o0)])) rfl rfl (hb hby d2_100)
  have F10 : Fld Z h10 o0 cn_1 "millis" "J" (.long q2) := Fld.same W10 f11
  have N10 := Fr.snoc X10 N7 geo
  obtain ⟨lc10, X10, N10⟩ := own_gen X10 N10
  have O10 := O7.wr W10 geo
  have hk10 := Nat.le_trans hk7 (Nat.le_of_eq W10.size.symm)
  have K10 : Keep h0 h10 [o0] := K7.wr W10 (Or.inl (List.mem_of_getElem? (i := 0) rfl))
  refine step st10 ?_
  show G T10 (mkF m 103 #[.val (.ref o0), .val (.ref w_SLIDING), .val (.long q2), .second, .val (.long 0), .second] [])
  refine step (fun t k => XS.aloadN X10.here hx rfl (hb hby d2_103) rfl rfl k) ?_
  show G T10 (mkF m 104 #[.val (.ref o0), .val (.ref w_SLIDING), .val (.long q2), .second, .val (.long 0), .second] [(.ref o0)])
  refine step (fun t k => XS.lload X10.here hx rfl (hb hby d2_104) rfl k) ?_
  show G T10 (mkF m 106 #[.val (.ref o0), .val (.ref w_SLIDING), .val (.long q2), .second, .val (.long 0), .second] [(.long 0), (.ref o0)])
  have f14 := (Fld.other W10 (Fld.other W7 (Fld.ext E2 Fo) (Or.inr (slot_ne (Or.inr (ww41 hw)) (Or.inr (ww37 hw)) (by decide) (t := .long) (t' := (.object cn_2)) (by decide) (by decide)))) (Or.inr (slot_ne (Or.inr (ww41 hw)) (Or.inr (ww39 hw)) (by decide) (t := .long) (t' := .long) (by decide) (by decide))))
  have f15 := (Exa.wr W10 f12)
  obtain ⟨T13, h13, X13, e13, W13, st13⟩ := putF X10 hx hZ hown (host := "") (Or.inl (ww40 hw)) Via.refl e10 f14 f15 (Or.inr ⟨(ww41 hw), rfl, hnm⟩) (ww7 hw) (ty := .long) (by decide) rfl rfl (g := (mkF m 106 #[.val (.ref o0), .val (.ref w_SLIDING), .val (.long q2), .second, .val (.long 0), .second] [(.long 0), (.ref o0)])) rfl rfl (hb hby d2_106)
  have F13 : Fld Z h13 o0 cn_1 "offsetMillis" "J" (.long 0) := Fld.same W13 f14
  have N13 := Fr.snoc X13 N10 geo
  obtain ⟨lc13, X13, N13⟩ := own_gen X13 N13
  have O13 := O10.wr W13 geo
  have hk13 := Nat.le_trans hk10 (Nat.le_of_eq W13.size.symm)
  have K13 : Keep h0 h13 [o0] := K10.wr W13 (Or.inl (List.mem_of_getElem? (i := 0) rfl))
  refine step st13 ?_
  show G T13 (mkF m 109 #[.val (.ref o0), .val (.ref w_SLIDING), .val (.long q2), .second, .val (.long 0), .second] [])
  have f16 := (Exa.wr W13 f15)
  have f17 := (Fld.other W13 (Fld.other W10 F7 (Or.inr (slot_ne (Or.inr (ww37 hw)) (Or.inr (ww39 hw)) (by decide) (t := (.object cn_2)) (t' := .long) (by decide) (by decide)))) (Or.inr (slot_ne (Or.inr (ww37 hw)) (Or.inr (ww41 hw)) (by decide) (t := (.object cn_2)) (t' := .long) (by decide) (by decide))))
  have f18 := (Fld.other W13 F10 (Or.inr (slot_ne (Or.inr (ww39 hw)) (Or.inr (ww41 hw)) (by decide) (t := .long) (t' := .long) (by decide) (by decide))))
  exact ret (v := none) X13 hS hk13 (fun _ => rfl) (fun fs hr => X13.returnOut hx Bd.returns (hb hby d2_109) hr) e13 ⟨rfl, N13, K13, f16, f17, f18⟩ (by decide) (by decide)
theorem d3_0 : decode prog_21_method_2_code 0 = .ok (.new 30, 3) := by decide +kernel
theorem ww6 {Z : State} {a0 : Array Value} (hw : ∀ d ∈ tables_1, d.before a0 Z = true) : Jvm.Cond.before (Jvm.Cond.classLink cn_1 (30 : Nat) cn_1) a0 Z = true := hw _ (List.mem_of_getElem? (i := 6) rfl)
theorem ww4 {Z : State} {a0 : Array Value} (hw : ∀ d ∈ tables_1, d.before a0 Z = true) : Jvm.Cond.before (Jvm.Cond.initialized cn_1) a0 Z = true := hw _ (List.mem_of_getElem? (i := 4) rfl)
theorem d3_3 : decode prog_21_method_2_code 3 = .ok (.dup, 1) := by decide +kernel
theorem d3_4 : decode prog_21_method_2_code 4 = .ok (.getstatic 51, 3) := by decide +kernel
theorem ww8 {Z : State} {a0 : Array Value} (hw : ∀ d ∈ tables_1, d.before a0 Z = true) : Jvm.Cond.before (Jvm.Cond.fieldLink cn_1 (51 : Nat) cn_2 "SLIDING" cn_3) a0 Z = true := hw _ (List.mem_of_getElem? (i := 8) rfl)
theorem d3_7 : decode prog_21_method_2_code 7 = .ok (.lload_n 0, 1) := by decide +kernel
theorem d3_8 : decode prog_21_method_2_code 8 = .ok (.lconst 0, 1) := by decide +kernel
theorem d3_9 : decode prog_21_method_2_code 9 = .ok (.invokespecial 54, 3) := by decide +kernel
theorem ww11 {Z : State} {a0 : Array Value} (hw : ∀ d ∈ tables_1, d.before a0 Z = true) : Jvm.Cond.before (Jvm.Cond.methodLink cn_1 (54 : Nat) ({ cls := cn_1, name := "<init>", desc := cn_9 } : Jvm.MethodName)) a0 Z = true := hw _ (List.mem_of_getElem? (i := 11) rfl)
theorem ww13 {Z : State} {a0 : Array Value} (hw : ∀ d ∈ tables_1, d.before a0 Z = true) : Jvm.Cond.before (Jvm.Cond.code ({ cls := cn_1, name := "<init>", desc := cn_9 } : Jvm.MethodName) prog_21_method_1_code (6 : Nat) (Option.none : Option Jvm.ClassFile.FieldType)) a0 Z = true := hw _ (List.mem_of_getElem? (i := 13) rfl)
theorem pd_2 : parseMethodDescriptor cn_9 = some ⟨[(.object cn_2), .long, .long], none⟩ := by decide +kernel
theorem ww12 {Z : State} {a0 : Array Value} (hw : ∀ d ∈ tables_1, d.before a0 Z = true) : Jvm.Cond.before (Jvm.Cond.instanceMethod ({ cls := cn_1, name := "<init>", desc := cn_9 } : Jvm.MethodName)) a0 Z = true := hw _ (List.mem_of_getElem? (i := 12) rfl)
theorem d3_12 : decode prog_21_method_2_code 12 = .ok (.areturn, 1) := by decide +kernel
abbrev rr_sl : Room := { frames := 3, cells := 3, slots := 23, locals := 42 }
abbrev y_3 : MethodName := ⟨cn_1, "sliding", cn_11⟩
theorem ef_sl (m : MethodId) (q0 : Int64) : entryFrame m #[(.long q0)] 2 = mkF m 0 #[.val (.long q0), .second] [] := by first | (simp [entryFrame, mkF, argsToLocals, Value.category]; done) | rfl
def Q_sl (Z : State) (w_SLIDING : Addr) (w_CALENDAR : Addr) (w_SwitchMap_co : Addr) (q0 : Int64) (h0 : Heap) (n0 : Nat) (v : Option Value) (h : Heap) (L : List Loc) : Prop := ∃ b : Addr, v = some (.ref b) ∧ Fr n0 L ∧ Keep h0 h [] ∧ h0.size ≤ b ∧ Exa Z h b cn_1 ∧ Fld Z h b cn_1 "type" cn_3 (.ref w_SLIDING) ∧ Fld Z h b cn_1 "millis" "J" (.long q0)
set_option maxRecDepth 65536 in
set_option maxHeartbeats 40000000 in
theorem rm_sl (l : Launch) (Z : State) (a0 : Array Value) (hw : ∀ d ∈ tables_1, d.before a0 Z = true) (ws : List Jvm.Cond) (w_SLIDING : Addr) (w_CALENDAR : Addr) (w_SwitchMap_co : Addr) (q0 : Int64) (h0 : Heap) (n0 : Nat) (Z0 : n0 ≤ h0.size) (ST : own_St Z w_SLIDING w_CALENDAR w_SwitchMap_co) (O0 : Old Z n0 h0) (hpos : (0 : Int64) < q0) :
    MetFree l y_3 (head1 (Jvm.Cond.code y_3 prog_21_method_2_code 2 (some (.object cn_1)) :: ws) rr_sl) (fun a U => a = #[(.long q0)] ∧ Z.Warmed39 U.vm ∧ U.heap = h0) (fun _ _ _ _ _ => True) (fun _ U o U' => ∃ v L, o = .returned v ∧ Q_sl Z w_SLIDING w_CALENDAR w_SwitchMap_co q0 h0 n0 v U'.heap L ∧ ReturnedEndW U o U' L rr_sl.cells rr_sl.slots) := by
  refine MetFree.of_bodySF (plainFor_of_name pn_2) hisR ?_
  intro p e s m args below meth c s₁ Bd hml0 hP hK
  obtain ⟨rfl, hZ, hh⟩ := hP
  have hx := Bd.exec
  have hby := Bd.bytes
  have hml : c.maxLocals = 2 := hml0
  have hown : s.vm.findClass cn_1 = some m.cls := findClass_of_methodNamed Bd.named
  have hnm := (name_of_methodNamed Bd.named Bd.method).1
  have X0 : Stand p l e rr_sl (s.setVm s.vm) m #[(.long q0)] below meth c s₁ [] 0 0 := Stand.of_body Bd
  have e0 : s₁.heap = h0 := by rw [← hh, Bd.state]; rfl
  have N0 := Fr.nil n0
  replace hZ : Z.Warmed39 (s.setVm s.vm).vm := hZ
  replace hown : (s.setVm s.vm).vm.findClass cn_1 = some m.cls := hown
  have hS : s.Since s.vm h0.size := (State.WarmedH.refl s).since _
  have hk0 : h0.size ≤ h0.size := Nat.le_refl _
  have K0 : Keep h0 h0 [] := Keep.refl _ _
  obtain ⟨G, step, ret, fin⟩ := own_openW (p := p) (l := l) (e := e) (R := rr_sl) (s := s) (m := m) (args := #[(.long q0)]) (below := below) (meth := meth) (c := c) (rr_sl.cells) (rr_sl.slots) (Q_sl Z w_SLIDING w_CALENDAR w_SwitchMap_co q0 h0 n0) Bd.notSynchronized
  refine fin (g := entryFrame m #[(.long q0)] 2) ?_
  rw [ef_sl m q0]
  show G s₁ (mkF m 0 #[.val (.long q0), .second] [])
  obtain ⟨T1, h1, X1, e1, E1, A1, D1, -, st1⟩ := newO X0 hx hZ hown (ww6 hw) (ww7 hw) (ww4 hw) e0 (g := (mkF m 0 #[.val (.long q0), .second] [])) rfl (hb hby d3_0) (by decide) (by decide)
  obtain ⟨b1, g1⟩ : ∃ z, z = h0.size := ⟨_, rfl⟩
  rw [← g1] at A1 D1 st1
  have ge_b1 : n0 ≤ b1 := Nat.le_trans (own_old_le O0) (Nat.le_of_eq g1.symm)
  have sz_b1 : h0.size ≤ b1 := Nat.le_trans K0.1 (Nat.le_of_eq g1.symm)
  have O1 := O0.ext E1
  have hk1 := Nat.le_trans hk0 E1.1
  have K1 : Keep h0 h1 [] := K0.ext E1
  have F1_type : Fld Z h1 b1 cn_1 "type" cn_3 .null := D1 (Or.inr (ww37 hw)) (ty := (.object cn_2)) (by decide)
  have F1_millis : Fld Z h1 b1 cn_1 "millis" "J" (.long 0) := D1 (Or.inr (ww39 hw)) (ty := .long) (by decide)
  have F1_offsetMillis : Fld Z h1 b1 cn_1 "offsetMillis" "J" (.long 0) := D1 (Or.inr (ww41 hw)) (ty := .long) (by decide)
  refine step st1 ?_
  show G T1 (mkF m 3 #[.val (.long q0), .second] [(.ref b1)])
  refine step (fun t k => XS.dup X1.here hx rfl (hb hby d3_3) rfl rfl k) ?_
  show G T1 (mkF m 4 #[.val (.long q0), .second] [(.ref b1), (.ref b1)])
  obtain ⟨T2, X2, e2, st2⟩ := getS2 X1 hx hZ hown (host := "") (Or.inl (ww8 hw)) Via.refl e1 (Sta.ext O1.2 ST.k0) (g := (mkF m 4 #[.val (.long q0), .second] [(.ref b1), (.ref b1)])) rfl (hb hby d3_4)
  refine step st2 ?_
  show G T2 (mkF m 7 #[.val (.long q0), .second] [(.ref w_SLIDING), (.ref b1), (.ref b1)])
  refine step (fun t k => XS.lloadN X2.here hx rfl (hb hby d3_7) rfl k) ?_
  show G T2 (mkF m 8 #[.val (.long q0), .second] [(.long q0), (.ref w_SLIDING), (.ref b1), (.ref b1)])
  refine step (fun t k => XS.lconst X2.here hx rfl (hb hby d3_8) k) ?_
  show G T2 (mkF m 9 #[.val (.long q0), .second] [(.long 0), (.long q0), (.ref w_SLIDING), (.ref b1), (.ref b1)])
  have hK3 := (backOfS (R := rr_sl) (p := p) (e := e) (below := below) (args := #[(.long q0)]) (len := 3) (W := 1) (rm_wi l Z a0 hw [] w_SLIDING w_CALENDAR w_SwitchMap_co b1 q0 h1 n0 (own_old_le O1) ST O1 A1 ge_b1 F1_type F1_millis F1_offsetMillis (hpos : (0 : Int64) < q0)) hZ (ww13 hw) (ww4 hw) (by decide) (by decide))
  obtain ⟨_, _, ⟨T3, L3, k3, n3⟩, -, X3, hS3, hg3, ⟨Lc3, hQ3, l3, y3, z3⟩, st3⟩ := X2.specialBackS hx (y := y_2) rfl hown (mvT hZ (ww11 hw)) (mvT hZ (ww12 hw)) (mvT hZ (ww13 hw)) (by decide) hK3 (g := (mkF m 9 #[.val (.long q0), .second] [(.long 0), (.long q0), (.ref w_SLIDING), (.ref b1), (.ref b1)])) rfl (by rw [hml]; rfl) (Steps.refl _) (a := b1) (argsL := [(.ref w_SLIDING), (.long q0), (.long 0)]) (rest := [(.ref b1)]) (lenOf pd_2 rfl) rfl (by show 2 * 0 + _ ≤ _; exact Nat.le_of_eq rfl) (hb hby d3_9) (fun _ _ => ⟨rfl, e2, (by decide : 1 + 2 ≤ _), (by decide : 3 + 20 ≤ _)⟩)
  dsimp only [Pt.U, Pt.locs, Pt.cells, Pt.slots] at X3 l3 y3 z3 st3 hQ3 hS3 hg3
  subst l3 y3 z3
  obtain ⟨X3, hS, hZ, hown⟩ := rebS (s := s) hS (by rw [e2]; exact hk1) X3 hS3 hg3 hZ hown
  obtain ⟨rfl, N3q, K3q, Y3_0, Y3_1, Y3_2⟩ := hQ3
  have N3 := Fr.app N0 N3q
  obtain ⟨lc3, X3, N3⟩ := own_gen X3 N3
  have O3 := O1.keep K3q (allS ge_b1 all0)
  have K3 : Keep h0 T3.heap [] := K1.trans K3q (allS (Or.inr sz_b1) all0)
  have hk3 : _ ≤ T3.heap.size := Nat.le_refl _
  refine step (fun t k => st3.trans k) ?_
  show G T3 (mkF m 12 #[.val (.long q0), .second] [(.ref b1)])
  exact ret (v := some (.ref b1)) X3 hS hk3 (fun h => by rw [Bd.returns] at h; cases h) (fun fs hr => retA X3 hx Bd.returns rfl rfl (hb hby d3_12) hr) rfl ⟨b1, rfl, N3, K3, sz_b1, Y3_0, Y3_1, Y3_2⟩ (by decide) (by decide)
theorem d4_0 : decode prog_2_method_1_code 0 = .ok (.aload_n 0, 1) := by decide +kernel
theorem d4_1 : decode prog_2_method_1_code 1 = .ok (.invokespecial 1, 3) := by decide +kernel
theorem ww48 {Z : State} {a0 : Array Value} (hw : ∀ d ∈ tables_1, d.before a0 Z = true) : Jvm.Cond.before (Jvm.Cond.methodLink cn_0 (1 : Nat) ({ cls := cn_13, name := "<init>", desc := "()V" } : Jvm.MethodName)) a0 Z = true := hw _ (List.mem_of_getElem? (i := 48) rfl)
theorem d4_4 : decode prog_2_method_1_code 4 = .ok (.aload_n 0, 1) := by decide +kernel
theorem d4_5 : decode prog_2_method_1_code 5 = .ok (.iconst 4, 1) := by decide +kernel
theorem d4_6 : decode prog_2_method_1_code 6 = .ok (.newarray .long, 2) := by decide +kernel
theorem ww1 {Z : State} {a0 : Array Value} (hw : ∀ d ∈ tables_1, d.before a0 Z = true) : Jvm.Cond.before (Jvm.Cond.arrayClass Jvm.ClassFile.FieldType.long) a0 Z = true := hw _ (List.mem_of_getElem? (i := 1) rfl)
theorem d4_8 : decode prog_2_method_1_code 8 = .ok (.putfield 7, 3) := by decide +kernel
theorem ww49 {Z : State} {a0 : Array Value} (hw : ∀ d ∈ tables_1, d.before a0 Z = true) : Jvm.Cond.before (Jvm.Cond.fieldLink cn_0 (7 : Nat) cn_0 "times" "[J") a0 Z = true := hw _ (List.mem_of_getElem? (i := 49) rfl)
theorem ww50 {Z : State} {a0 : Array Value} (hw : ∀ d ∈ tables_1, d.before a0 Z = true) : Jvm.Cond.before (Jvm.Cond.lays cn_0 cn_0 "times" "[J") a0 Z = true := hw _ (List.mem_of_getElem? (i := 50) rfl)
theorem ww43 {Z : State} {a0 : Array Value} (hw : ∀ d ∈ tables_1, d.before a0 Z = true) : Jvm.Cond.before (Jvm.Cond.instantiable cn_0 (3 : Nat)) a0 Z = true := hw _ (List.mem_of_getElem? (i := 43) rfl)
theorem d4_11 : decode prog_2_method_1_code 11 = .ok (.return_, 1) := by decide +kernel
theorem ww59 {Z : State} {a0 : Array Value} (hw : ∀ d ∈ tables_1, d.before a0 Z = true) : Jvm.Cond.before (Jvm.Cond.lays cn_0 cn_0 "head" "I") a0 Z = true := hw _ (List.mem_of_getElem? (i := 59) rfl)
theorem ww57 {Z : State} {a0 : Array Value} (hw : ∀ d ∈ tables_1, d.before a0 Z = true) : Jvm.Cond.before (Jvm.Cond.lays cn_0 cn_0 "size" "I") a0 Z = true := hw _ (List.mem_of_getElem? (i := 57) rfl)
abbrev rr_at : Room := { frames := 1, cells := 1, slots := 4, locals := 12 }
abbrev y_4 : MethodName := ⟨cn_0, "<init>", "()V"⟩
theorem pn_3 : plainName cn_0 = true := by first | (simp [plainName, overriddenIn]; done) | decide +kernel
theorem ef_at (m : MethodId) (o0 : Addr) : entryFrame m #[(.ref o0)] 1 = mkF m 0 #[.val (.ref o0)] [] := by first | (simp [entryFrame, mkF, argsToLocals, Value.category]; done) | rfl
def Q_at (Z : State) (w_SLIDING : Addr) (w_CALENDAR : Addr) (w_SwitchMap_co : Addr) (o0 : Addr) (h0 : Heap) (n0 : Nat) (v : Option Value) (h : Heap) (L : List Loc) : Prop := ∃ b : Addr, ∃ kb : ClassId, v = none ∧ Fr n0 L ∧ Keep h0 h [o0] ∧ h0.size ≤ b ∧ Exa Z h o0 cn_0 ∧ Fld Z h o0 cn_0 "times" "[J" (.ref b) ∧ Fld Z h o0 cn_0 "head" "I" (.int 0) ∧ Fld Z h o0 cn_0 "size" "I" (.int 0) ∧ Arv Z h b kb .long (4 : Int32) [(.long 0), (.long 0), (.long 0), (.long 0)] (.long 0)
set_option maxRecDepth 65536 in
set_option maxHeartbeats 40000000 in
theorem rm_at (l : Launch) (Z : State) (a0 : Array Value) (hw : ∀ d ∈ tables_1, d.before a0 Z = true) (ws : List Jvm.Cond) (w_SLIDING : Addr) (w_CALENDAR : Addr) (w_SwitchMap_co : Addr) (o0 : Addr) (h0 : Heap) (n0 : Nat) (Z0 : n0 ≤ h0.size) (ST : own_St Z w_SLIDING w_CALENDAR w_SwitchMap_co) (O0 : Old Z n0 h0) (Ex : Exa Z h0 o0 cn_0) (geo : n0 ≤ o0) (Ft : Fld Z h0 o0 cn_0 "times" "[J" .null) (Fh : Fld Z h0 o0 cn_0 "head" "I" (.int 0)) (Fs : Fld Z h0 o0 cn_0 "size" "I" (.int 0)) :
    MetFree l y_4 (head1 (Jvm.Cond.code y_4 prog_2_method_1_code 1 none :: ws) rr_at) (fun a U => a = #[(.ref o0)] ∧ Z.Warmed39 U.vm ∧ U.heap = h0) (fun _ _ _ _ _ => True) (fun _ U o U' => ∃ v L, o = .returned v ∧ Q_at Z w_SLIDING w_CALENDAR w_SwitchMap_co o0 h0 n0 v U'.heap L ∧ FrameEnd U o U' L rr_at.cells rr_at.slots) := by
  refine MetFree.of_bodySF (plainFor_of_name pn_3) hisR ?_
  intro p e s m args below meth c s₁ Bd hml0 hP hK
  obtain ⟨rfl, hZ, hh⟩ := hP
  have hx := Bd.exec
  have hby := Bd.bytes
  have hml : c.maxLocals = 1 := hml0
  have hown : s.vm.findClass cn_0 = some m.cls := findClass_of_methodNamed Bd.named
  have hnm := (name_of_methodNamed Bd.named Bd.method).1
  have X0 : Stand p l e rr_at s m #[(.ref o0)] below meth c s₁ [] 0 0 := Stand.of_body Bd
  have e0 : s₁.heap = h0 := by rw [← hh, Bd.state]; rfl
  have N0 := Fr.nil n0
  have K0 : Keep h0 h0 [o0] := Keep.refl _ _
  obtain ⟨G, step, ret, fin⟩ := own_open (p := p) (l := l) (e := e) (R := rr_at) (s := s) (m := m) (args := #[(.ref o0)]) (below := below) (meth := meth) (c := c) (rr_at.cells) (rr_at.slots) (Q_at Z w_SLIDING w_CALENDAR w_SwitchMap_co o0 h0 n0) Bd.notSynchronized
  refine fin (g := entryFrame m #[(.ref o0)] 1) ?_
  rw [ef_at m o0]
  show G s₁ (mkF m 0 #[.val (.ref o0)] [])
  refine step (fun t k => XS.aloadN X0.here hx rfl (hb hby d4_0) rfl rfl k) ?_
  show G s₁ (mkF m 1 #[.val (.ref o0)] [(.ref o0)])
  obtain ⟨T1, X1, e1, st1⟩ := initO X0 hx hZ hown (ww48 hw) (ww20 hw) (ww21 hw) e0 (g := (mkF m 1 #[.val (.ref o0)] [(.ref o0)])) rfl (by rw [hml]; rfl) rfl (hb hby d4_1) (by decide) (W := 0) (by show 2 * 0 + _ ≤ _; exact Nat.le_of_eq rfl) (by decide)
  refine step st1 ?_
  show G T1 (mkF m 4 #[.val (.ref o0)] [])
  refine step (fun t k => XS.aloadN X1.here hx rfl (hb hby d4_4) rfl rfl k) ?_
  show G T1 (mkF m 5 #[.val (.ref o0)] [(.ref o0)])
  refine step (fun t k => XS.iconst X1.here hx rfl (hb hby d4_5) k) ?_
  show G T1 (mkF m 6 #[.val (.ref o0)] [(.int 4), (.ref o0)])
  obtain ⟨T2, h2, k2, X2, e2, E2, A2, B2, st2⟩ := newPE (aty := .long) X1 hx hZ (ww1 hw) e1 (g := (mkF m 6 #[.val (.ref o0)] [(.int 4), (.ref o0)])) rfl (hb hby d4_6) rfl (by decide) (cap := 4) (by decide) (by decide) (by decide) (by decide) (ad := "[J") (by decide)
  obtain ⟨b2, g2⟩ : ∃ z, z = h0.size := ⟨_, rfl⟩
  rw [← g2] at A2 B2 st2
  have V2 : Arv Z h2 b2 k2 .long (4 : Int32) [(.long 0), (.long 0), (.long 0), (.long 0)] (.long 0) := (Arv.new A2 (by decide)).pad (pad_rep [] (.long 0) 4)
  have ge_b2 : n0 ≤ b2 := Nat.le_trans (own_old_le O0) (Nat.le_of_eq g2.symm)
  have sz_b2 : h0.size ≤ b2 := Nat.le_trans K0.1 (Nat.le_of_eq g2.symm)
  have lt_o0_b2 : o0 < b2 := Nat.lt_of_lt_of_le Ex.lt (Nat.le_of_eq g2.symm)
  have O2 := O0.ext E2
  have K2 : Keep h0 h2 [o0] := K0.ext E2
  refine step st2 ?_
  show G T2 (mkF m 8 #[.val (.ref o0)] [(.ref b2), (.ref o0)])
  have f4 := (Fld.ext E2 Ft)
  have f5 := (Exa.ext E2 Ex)
  obtain ⟨T3, h3, X3, e3, W3, st3⟩ := putF X2 hx hZ hown (host := "") (Or.inl (ww49 hw)) Via.refl e2 f4 f5 (Or.inl (ww50 hw)) (ww43 hw) (ty := (.array .long)) (by decide) rfl rfl (g := (mkF m 8 #[.val (.ref o0)] [(.ref b2), (.ref o0)])) rfl rfl (hb hby d4_8)
  have F3 : Fld Z h3 o0 cn_0 "times" "[J" (.ref b2) := Fld.same W3 f4
  have N3 := Fr.snoc X3 N0 geo
  obtain ⟨lc3, X3, N3⟩ := own_gen X3 N3
  have O3 := O2.wr W3 geo
  have K3 : Keep h0 h3 [o0] := K2.wr W3 (Or.inl (List.mem_of_getElem? (i := 0) rfl))
  refine step st3 ?_
  show G T3 (mkF m 11 #[.val (.ref o0)] [])
  have f6 := (Exa.wr W3 f5)
  have f7 := (Fld.other W3 (Fld.ext E2 Fh) (Or.inr (slot_ne (Or.inl (ww59 hw)) (Or.inl (ww50 hw)) (by decide) (t := .int) (t' := (.array .long)) (by decide) (by decide))))
  have f8 := (Fld.other W3 (Fld.ext E2 Fs) (Or.inr (slot_ne (Or.inl (ww57 hw)) (Or.inl (ww50 hw)) (by decide) (t := .int) (t' := (.array .long)) (by decide) (by decide))))
  have f9 := (Arv.other V2 W3 (Nat.ne_of_gt lt_o0_b2))
  exact ret (v := none) X3 (fun _ => rfl) (fun fs hr => X3.returnOut hx Bd.returns (hb hby d4_11) hr) e3 ⟨b2, k2, rfl, N3, K3, sz_b2, f6, F3, f7, f8, f9⟩ (by decide) (by decide)
theorem d5_0 : decode prog_21_method_7_code 0 = .ok (.aload_n 0, 1) := by decide +kernel
theorem d5_1 : decode prog_21_method_7_code 1 = .ok (.getfield 42, 3) := by decide +kernel
theorem d5_4 : decode prog_21_method_7_code 4 = .ok (.areturn, 1) := by decide +kernel
abbrev rr_ty : Room := { frames := 0, cells := 0, slots := 0, locals := 0 }
abbrev y_5 : MethodName := ⟨cn_1, "type", cn_5⟩
theorem ef_ty (m : MethodId) (o0 : Addr) : entryFrame m #[(.ref o0)] 1 = mkF m 0 #[.val (.ref o0)] [] := by first | (simp [entryFrame, mkF, argsToLocals, Value.category]; done) | rfl
def f_ty (w_SLIDING : Addr) (w_CALENDAR : Addr) (w_SwitchMap_co : Addr) (o0 : Addr) (t : Addr) : Addr := t
def Q_ty (Z : State) (w_SLIDING : Addr) (w_CALENDAR : Addr) (w_SwitchMap_co : Addr) (o0 : Addr) (t : Addr) (h0 : Heap) (n0 : Nat) (v : Option Value) (h : Heap) (L : List Loc) : Prop := v = some (.ref (f_ty w_SLIDING w_CALENDAR w_SwitchMap_co o0 t)) ∧ Fr n0 L ∧ h = h0
set_option maxRecDepth 65536 in
set_option maxHeartbeats 40000000 in
theorem rm_ty (l : Launch) (Z : State) (a0 : Array Value) (hw : ∀ d ∈ tables_1, d.before a0 Z = true) (ws : List Jvm.Cond) (w_SLIDING : Addr) (w_CALENDAR : Addr) (w_SwitchMap_co : Addr) (o0 : Addr) (t : Addr) (h0 : Heap) (n0 : Nat) (Z0 : n0 ≤ h0.size) (ST : own_St Z w_SLIDING w_CALENDAR w_SwitchMap_co) (O0 : Old Z n0 h0) (Ft : Fld Z h0 o0 cn_1 "type" cn_3 (.ref t)) :
    MetFree l y_5 (head1 (Jvm.Cond.code y_5 prog_21_method_7_code 1 (some (.object cn_2)) :: ws) rr_ty) (fun a U => a = #[(.ref o0)] ∧ Z.Warmed39 U.vm ∧ U.heap = h0) (fun _ _ _ _ _ => True) (fun _ U o U' => ∃ v L, o = .returned v ∧ Q_ty Z w_SLIDING w_CALENDAR w_SwitchMap_co o0 t h0 n0 v U'.heap L ∧ FrameEnd U o U' L rr_ty.cells rr_ty.slots) := by
  refine MetFree.of_bodySF (plainFor_of_name pn_2) hisR ?_
  intro p e s m args below meth c s₁ Bd hml0 hP hK
  obtain ⟨rfl, hZ, hh⟩ := hP
  have hx := Bd.exec
  have hby := Bd.bytes
  have hml : c.maxLocals = 1 := hml0
  have hown : s.vm.findClass cn_1 = some m.cls := findClass_of_methodNamed Bd.named
  have hnm := (name_of_methodNamed Bd.named Bd.method).1
  have X0 : Stand p l e rr_ty s m #[(.ref o0)] below meth c s₁ [] 0 0 := Stand.of_body Bd
  have e0 : s₁.heap = h0 := by rw [← hh, Bd.state]; rfl
  have N0 := Fr.nil n0
  obtain ⟨G, step, ret, fin⟩ := own_open (p := p) (l := l) (e := e) (R := rr_ty) (s := s) (m := m) (args := #[(.ref o0)]) (below := below) (meth := meth) (c := c) (rr_ty.cells) (rr_ty.slots) (Q_ty Z w_SLIDING w_CALENDAR w_SwitchMap_co o0 t h0 n0) Bd.notSynchronized
  refine fin (g := entryFrame m #[(.ref o0)] 1) ?_
  rw [ef_ty m o0]
  show G s₁ (mkF m 0 #[.val (.ref o0)] [])
  refine step (fun t k => XS.aloadN X0.here hx rfl (hb hby d5_0) rfl rfl k) ?_
  show G s₁ (mkF m 1 #[.val (.ref o0)] [(.ref o0)])
  obtain ⟨T1, X1, e1, st1⟩ := getF X0 hx hZ hown (host := "") (Or.inl (ww36 hw)) Via.refl e0 Ft (g := (mkF m 1 #[.val (.ref o0)] [(.ref o0)])) rfl rfl (hb hby d5_1)
  refine step st1 ?_
  show G T1 (mkF m 4 #[.val (.ref o0)] [(.ref t)])
  exact ret (v := some (.ref t)) X1 (fun h => by rw [Bd.returns] at h; cases h) (fun fs hr => retA X1 hx Bd.returns rfl rfl (hb hby d5_4) hr) e1 ⟨rfl, N0, rfl⟩ (by decide) (by decide)
theorem d6_0 : decode prog_21_method_8_code 0 = .ok (.aload_n 0, 1) := by decide +kernel
theorem d6_1 : decode prog_21_method_8_code 1 = .ok (.getfield 44, 3) := by decide +kernel
theorem d6_4 : decode prog_21_method_8_code 4 = .ok (.lreturn, 1) := by decide +kernel
abbrev rr_mi : Room := { frames := 0, cells := 0, slots := 0, locals := 0 }
abbrev y_6 : MethodName := ⟨cn_1, "millis", "()J"⟩
theorem ef_mi (m : MethodId) (o0 : Addr) : entryFrame m #[(.ref o0)] 1 = mkF m 0 #[.val (.ref o0)] [] := by first | (simp [entryFrame, mkF, argsToLocals, Value.category]; done) | rfl
def f_mi (w_SLIDING : Addr) (w_CALENDAR : Addr) (w_SwitchMap_co : Addr) (o0 : Addr) (mm : Int64) : Int64 := mm
def Q_mi (Z : State) (w_SLIDING : Addr) (w_CALENDAR : Addr) (w_SwitchMap_co : Addr) (o0 : Addr) (mm : Int64) (h0 : Heap) (n0 : Nat) (v : Option Value) (h : Heap) (L : List Loc) : Prop := v = some (.long (f_mi w_SLIDING w_CALENDAR w_SwitchMap_co o0 mm)) ∧ Fr n0 L ∧ h = h0
set_option maxRecDepth 65536 in
set_option maxHeartbeats 40000000 in
theorem rm_mi (l : Launch) (Z : State) (a0 : Array Value) (hw : ∀ d ∈ tables_1, d.before a0 Z = true) (ws : List Jvm.Cond) (w_SLIDING : Addr) (w_CALENDAR : Addr) (w_SwitchMap_co : Addr) (o0 : Addr) (mm : Int64) (h0 : Heap) (n0 : Nat) (Z0 : n0 ≤ h0.size) (ST : own_St Z w_SLIDING w_CALENDAR w_SwitchMap_co) (O0 : Old Z n0 h0) (Fm : Fld Z h0 o0 cn_1 "millis" "J" (.long mm)) :
    MetFree l y_6 (head1 (Jvm.Cond.code y_6 prog_21_method_8_code 1 (some .long) :: ws) rr_mi) (fun a U => a = #[(.ref o0)] ∧ Z.Warmed39 U.vm ∧ U.heap = h0) (fun _ _ _ _ _ => True) (fun _ U o U' => ∃ v L, o = .returned v ∧ Q_mi Z w_SLIDING w_CALENDAR w_SwitchMap_co o0 mm h0 n0 v U'.heap L ∧ FrameEnd U o U' L rr_mi.cells rr_mi.slots) := by
  refine MetFree.of_bodySF (plainFor_of_name pn_2) hisR ?_
  intro p e s m args below meth c s₁ Bd hml0 hP hK
  obtain ⟨rfl, hZ, hh⟩ := hP
  have hx := Bd.exec
  have hby := Bd.bytes
  have hml : c.maxLocals = 1 := hml0
  have hown : s.vm.findClass cn_1 = some m.cls := findClass_of_methodNamed Bd.named
  have hnm := (name_of_methodNamed Bd.named Bd.method).1
  have X0 : Stand p l e rr_mi s m #[(.ref o0)] below meth c s₁ [] 0 0 := Stand.of_body Bd
  have e0 : s₁.heap = h0 := by rw [← hh, Bd.state]; rfl
  have N0 := Fr.nil n0
  obtain ⟨G, step, ret, fin⟩ := own_open (p := p) (l := l) (e := e) (R := rr_mi) (s := s) (m := m) (args := #[(.ref o0)]) (below := below) (meth := meth) (c := c) (rr_mi.cells) (rr_mi.slots) (Q_mi Z w_SLIDING w_CALENDAR w_SwitchMap_co o0 mm h0 n0) Bd.notSynchronized
  refine fin (g := entryFrame m #[(.ref o0)] 1) ?_
  rw [ef_mi m o0]
  show G s₁ (mkF m 0 #[.val (.ref o0)] [])
  refine step (fun t k => XS.aloadN X0.here hx rfl (hb hby d6_0) rfl rfl k) ?_
  show G s₁ (mkF m 1 #[.val (.ref o0)] [(.ref o0)])
  obtain ⟨T1, X1, e1, st1⟩ := getF X0 hx hZ hown (host := "") (Or.inl (ww38 hw)) Via.refl e0 Fm (g := (mkF m 1 #[.val (.ref o0)] [(.ref o0)])) rfl rfl (hb hby d6_1)
  refine step st1 ?_
  show G T1 (mkF m 4 #[.val (.ref o0)] [(.long mm)])
  exact ret (v := some (.long mm)) X1 (fun h => by rw [Bd.returns] at h; cases h) (fun fs hr => retL X1 hx Bd.returns (hb hby d6_4) hr) e1 ⟨rfl, N0, rfl⟩ (by decide) (by decide)
theorem d7_0 : decode jdk_37_method_2_code 0 = .ok (.aload_n 0, 1) := by decide +kernel
theorem d7_1 : decode jdk_37_method_2_code 1 = .ok (.getfield 7, 3) := by decide +kernel
theorem ww80 {Z : State} {a0 : Array Value} (hw : ∀ d ∈ tables_1, d.before a0 Z = true) : Jvm.Cond.before (Jvm.Cond.fieldLink cn_7 (7 : Nat) cn_7 "ordinal" "I") a0 Z = true := hw _ (List.mem_of_getElem? (i := 80) rfl)
theorem d7_4 : decode jdk_37_method_2_code 4 = .ok (.ireturn, 1) := by decide +kernel
abbrev rr_od : Room := { frames := 0, cells := 0, slots := 0, locals := 0 }
abbrev y_7 : MethodName := ⟨cn_7, "ordinal", "()I"⟩
theorem pn_4 : plainName cn_7 = true := by first | (simp [plainName, overriddenIn]; done) | decide +kernel
theorem ef_od (m : MethodId) (o0 : Addr) : entryFrame m #[(.ref o0)] 1 = mkF m 0 #[.val (.ref o0)] [] := by first | (simp [entryFrame, mkF, argsToLocals, Value.category]; done) | rfl
def f_od (w_SLIDING : Addr) (w_CALENDAR : Addr) (w_SwitchMap_co : Addr) (o0 : Addr) (od : Int32) : Int32 := od
def Q_od (Z : State) (w_SLIDING : Addr) (w_CALENDAR : Addr) (w_SwitchMap_co : Addr) (o0 : Addr) (od : Int32) (h0 : Heap) (n0 : Nat) (v : Option Value) (h : Heap) (L : List Loc) : Prop := v = some (.int (f_od w_SLIDING w_CALENDAR w_SwitchMap_co o0 od)) ∧ Fr n0 L ∧ h = h0
set_option maxRecDepth 65536 in
set_option maxHeartbeats 40000000 in
theorem rm_od (l : Launch) (Z : State) (a0 : Array Value) (hw : ∀ d ∈ tables_1, d.before a0 Z = true) (ws : List Jvm.Cond) (w_SLIDING : Addr) (w_CALENDAR : Addr) (w_SwitchMap_co : Addr) (o0 : Addr) (od : Int32) (h0 : Heap) (n0 : Nat) (Z0 : n0 ≤ h0.size) (ST : own_St Z w_SLIDING w_CALENDAR w_SwitchMap_co) (O0 : Old Z n0 h0) (Fo : Fld Z h0 o0 cn_7 "ordinal" "I" (.int od)) :
    MetFree l y_7 (head1 (Jvm.Cond.code y_7 jdk_37_method_2_code 1 (some .int) :: ws) rr_od) (fun a U => a = #[(.ref o0)] ∧ Z.Warmed39 U.vm ∧ U.heap = h0) (fun _ _ _ _ _ => True) (fun _ U o U' => ∃ v L, o = .returned v ∧ Q_od Z w_SLIDING w_CALENDAR w_SwitchMap_co o0 od h0 n0 v U'.heap L ∧ FrameEnd U o U' L rr_od.cells rr_od.slots) := by
  refine MetFree.of_bodySF (plainFor_of_name pn_4) hisR ?_
  intro p e s m args below meth c s₁ Bd hml0 hP hK
  obtain ⟨rfl, hZ, hh⟩ := hP
  have hx := Bd.exec
  have hby := Bd.bytes
  have hml : c.maxLocals = 1 := hml0
  have hown : s.vm.findClass cn_7 = some m.cls := findClass_of_methodNamed Bd.named
  have hnm := (name_of_methodNamed Bd.named Bd.method).1
  have X0 : Stand p l e rr_od s m #[(.ref o0)] below meth c s₁ [] 0 0 := Stand.of_body Bd
  have e0 : s₁.heap = h0 := by rw [← hh, Bd.state]; rfl
  have N0 := Fr.nil n0
  obtain ⟨G, step, ret, fin⟩ := own_open (p := p) (l := l) (e := e) (R := rr_od) (s := s) (m := m) (args := #[(.ref o0)]) (below := below) (meth := meth) (c := c) (rr_od.cells) (rr_od.slots) (Q_od Z w_SLIDING w_CALENDAR w_SwitchMap_co o0 od h0 n0) Bd.notSynchronized
  refine fin (g := entryFrame m #[(.ref o0)] 1) ?_
  rw [ef_od m o0]
  show G s₁ (mkF m 0 #[.val (.ref o0)] [])
  refine step (fun t k => XS.aloadN X0.here hx rfl (hb hby d7_0) rfl rfl k) ?_
  show G s₁ (mkF m 1 #[.val (.ref o0)] [(.ref o0)])
  obtain ⟨T1, X1, e1, st1⟩ := getF X0 hx hZ hown (host := "") (Or.inl (ww80 hw)) Via.refl e0 Fo (g := (mkF m 1 #[.val (.ref o0)] [(.ref o0)])) rfl rfl (hb hby d7_1)
  refine step st1 ?_
  show G T1 (mkF m 4 #[.val (.ref o0)] [(.int od)])
  exact ret (v := some (.int od)) X1 (fun h => by rw [Bd.returns] at h; cases h) (fun fs hr => retI X1 hx Bd.returns (hb hby d7_4) hr) e1 ⟨rfl, N0, rfl⟩ (by decide) (by decide)
def own_at6 (x0 : Int64) (x1 : Int64) (x2 : Int64) (x3 : Int64) (x4 : Int64) (x5 : Int64) (i : Int32) : Int64 := (if i = (0 : Int32) then x0 else (if i = (1 : Int32) then x1 else (if i = (2 : Int32) then x2 else (if i = (3 : Int32) then x3 else (if i = (4 : Int32) then x4 else x5)))))
theorem own_in6 {i : Int32} (h : ¬ i < 0 ∧ i < (6 : Int32)) : i = (0 : Int32) ∨ i = (1 : Int32) ∨ i = (2 : Int32) ∨ i = (3 : Int32) ∨ i = (4 : Int32) ∨ i = (5 : Int32) := by
  have q0 : (0 : Int32).toInt = 0 := by decide
  have q1 : (1 : Int32).toInt = 1 := by decide
  have q2 : (2 : Int32).toInt = 2 := by decide
  have q3 : (3 : Int32).toInt = 3 := by decide
  have q4 : (4 : Int32).toInt = 4 := by decide
  have q5 : (5 : Int32).toInt = 5 := by decide
  have q6 : (6 : Int32).toInt = 6 := by decide
  rw [own_xlt, own_xlt, q0, q6] at h
  simp only [own_xeq, q0, q1, q2, q3, q4, q5]
  omega
theorem own_get6 {x0 : Int64} {x1 : Int64} {x2 : Int64} {x3 : Int64} {x4 : Int64} {x5 : Int64} {i : Int32} (h : ¬ i < 0 ∧ i < (6 : Int32)) : ([(.long x0), (.long x1), (.long x2), (.long x3), (.long x4), (.long x5)] : List Value).getD i.toNatClampNeg (.long 0) = .long (own_at6 x0 x1 x2 x3 x4 x5 i) := by
  rcases own_in6 h with rfl | rfl | rfl | rfl | rfl | rfl <;> rfl
theorem own_ltle {x y z : Int64} (h : x < y) (q : y.toInt ≤ z.toInt) : x < z := own_xltL.mpr (Int.lt_of_lt_of_le (own_xltL.mp h) q)
theorem own_ord {q0 A0 A1 A2 A3 : Int64} {p1 : Int32} (h0 : A0 = (q0 >>> ((1 : Int32) &&& 0x3f).toInt64)) (h1 : A1 = (A0 + ((p1 &&& (7 : Int32)).toInt64))) (h2 : A2 = (A1 + ((((p1.toUInt32 >>> ((3 : Int32) &&& 31).toUInt32).toInt32) &&& (7 : Int32)).toInt64))) (h3 : A3 = (A2 + ((((p1.toUInt32 >>> ((6 : Int32) &&& 31).toUInt32).toInt32) &&& (7 : Int32)).toInt64))) : A0.toInt ≤ A1.toInt ∧ A1.toInt ≤ A2.toInt ∧ A2.toInt ≤ A3.toInt := by
  have c0 := c_lshr q0 (1 : Int32) 1 (by decide)
  rw [← h0] at c0
  have r0 := rng64 q0
  have m1 := c_mask p1 (7 : Int32) 3 (by decide) (by decide)
  have m2 := c_mask ((p1.toUInt32 >>> ((3 : Int32) &&& 31).toUInt32).toInt32) (7 : Int32) 3 (by decide) (by decide)
  have m3 := c_mask ((p1.toUInt32 >>> ((6 : Int32) &&& 31).toUInt32).toInt32) (7 : Int32) 3 (by decide) (by decide)
  have a1 := c_ladd A0 ((p1 &&& (7 : Int32)).toInt64)
  have a2 := c_ladd A1 ((((p1.toUInt32 >>> ((3 : Int32) &&& 31).toUInt32).toInt32) &&& (7 : Int32)).toInt64)
  have a3 := c_ladd A2 ((((p1.toUInt32 >>> ((6 : Int32) &&& 31).toUInt32).toInt32) &&& (7 : Int32)).toInt64)
  rw [c_i2l, ← h1] at a1
  rw [c_i2l, ← h2] at a2
  rw [c_i2l, ← h3] at a3
  have r1 := rng64 A1
  have r2 := rng64 A2
  have r3 := rng64 A3
  clear h0 h1 h2 h3
  omega
theorem own_mpos {mm : Int64} {p2 : Int32} (h : mm = ((1 : Int64) + ((p2 &&& (31 : Int32)).toInt64))) : (0 : Int64) < mm := by
  have m1 := c_mask p2 (31 : Int32) 5 (by decide) (by decide)
  have a1 := c_ladd (1 : Int64) ((p2 &&& (31 : Int32)).toInt64)
  rw [c_i2l, ← h] at a1
  have q1 : (1 : Int64).toInt = 1 := by decide
  have q0 : (0 : Int64).toInt = 0 := by decide
  have r1 := rng64 mm
  rw [own_xltL]
  clear h
  omega
theorem own_e (p3 e : Int32) (h : e = ((p3 &&& (3 : Int32)) % (3 : Int32))) : 0 ≤ e.toInt ∧ e.toInt < 3 := by
  have m1 := c_mask p3 (3 : Int32) 2 (by decide) (by decide)
  have m2 := c_irem (p3 &&& (3 : Int32)) (3 : Int32) 3 (by decide)
  rw [← h] at m2
  clear h
  omega
theorem own_j1 (p4 j sz : Int32) (hz : sz.toInt = 1) (h : j = ((p4 &&& (2147483647 : Int32)) % sz)) : j = (0 : Int32) := by
  have m1 := c_mask p4 (2147483647 : Int32) 31 (by decide) (by decide)
  have m2 := c_irem (p4 &&& (2147483647 : Int32)) sz 1 hz
  rw [← h] at m2
  have q0 : (0 : Int32).toInt = 0 := by decide
  simp only [own_xeq, q0]
  clear h
  omega
theorem own_j2 (p4 j sz : Int32) (hz : sz.toInt = 2) (h : j = ((p4 &&& (2147483647 : Int32)) % sz)) : j = (0 : Int32) ∨ j = (1 : Int32) := by
  have m1 := c_mask p4 (2147483647 : Int32) 31 (by decide) (by decide)
  have m2 := c_irem (p4 &&& (2147483647 : Int32)) sz 2 hz
  rw [← h] at m2
  have q0 : (0 : Int32).toInt = 0 := by decide
  have q1 : (1 : Int32).toInt = 1 := by decide
  simp only [own_xeq, q0, q1]
  clear h
  omega
theorem own_j3 (p4 j sz : Int32) (hz : sz.toInt = 3) (h : j = ((p4 &&& (2147483647 : Int32)) % sz)) : j = (0 : Int32) ∨ j = (1 : Int32) ∨ j = (2 : Int32) := by
  have m1 := c_mask p4 (2147483647 : Int32) 31 (by decide) (by decide)
  have m2 := c_irem (p4 &&& (2147483647 : Int32)) sz 3 hz
  rw [← h] at m2
  have q0 : (0 : Int32).toInt = 0 := by decide
  have q1 : (1 : Int32).toInt = 1 := by decide
  have q2 : (2 : Int32).toInt = 2 := by decide
  simp only [own_xeq, q0, q1, q2]
  clear h
  omega
theorem own_j4 (p4 j sz : Int32) (hz : sz.toInt = 4) (h : j = ((p4 &&& (2147483647 : Int32)) % sz)) : j = (0 : Int32) ∨ j = (1 : Int32) ∨ j = (2 : Int32) ∨ j = (3 : Int32) := by
  have m1 := c_mask p4 (2147483647 : Int32) 31 (by decide) (by decide)
  have m2 := c_irem (p4 &&& (2147483647 : Int32)) sz 4 hz
  rw [← h] at m2
  have q0 : (0 : Int32).toInt = 0 := by decide
  have q1 : (1 : Int32).toInt = 1 := by decide
  have q2 : (2 : Int32).toInt = 2 := by decide
  have q3 : (3 : Int32).toInt = 3 := by decide
  simp only [own_xeq, q0, q1, q2, q3]
  clear h
  omega
theorem own_j5 (p4 j sz : Int32) (hz : sz.toInt = 5) (h : j = ((p4 &&& (2147483647 : Int32)) % sz)) : j = (0 : Int32) ∨ j = (1 : Int32) ∨ j = (2 : Int32) ∨ j = (3 : Int32) ∨ j = (4 : Int32) := by
  have m1 := c_mask p4 (2147483647 : Int32) 31 (by decide) (by decide)
  have m2 := c_irem (p4 &&& (2147483647 : Int32)) sz 5 hz
  rw [← h] at m2
  have q0 : (0 : Int32).toInt = 0 := by decide
  have q1 : (1 : Int32).toInt = 1 := by decide
  have q2 : (2 : Int32).toInt = 2 := by decide
  have q3 : (3 : Int32).toInt = 3 := by decide
  have q4 : (4 : Int32).toInt = 4 := by decide
  simp only [own_xeq, q0, q1, q2, q3, q4]
  clear h
  omega
theorem own_j6 (p4 j sz : Int32) (hz : sz.toInt = 6) (h : j = ((p4 &&& (2147483647 : Int32)) % sz)) : j = (0 : Int32) ∨ j = (1 : Int32) ∨ j = (2 : Int32) ∨ j = (3 : Int32) ∨ j = (4 : Int32) ∨ j = (5 : Int32) := by
  have m1 := c_mask p4 (2147483647 : Int32) 31 (by decide) (by decide)
  have m2 := c_irem (p4 &&& (2147483647 : Int32)) sz 6 hz
  rw [← h] at m2
  have q0 : (0 : Int32).toInt = 0 := by decide
  have q1 : (1 : Int32).toInt = 1 := by decide
  have q2 : (2 : Int32).toInt = 2 := by decide
  have q3 : (3 : Int32).toInt = 3 := by decide
  have q4 : (4 : Int32).toInt = 4 := by decide
  have q5 : (5 : Int32).toInt = 5 := by decide
  simp only [own_xeq, q0, q1, q2, q3, q4, q5]
  clear h
  omega
theorem ww0 {Z : State} {a0 : Array Value} (hw : ∀ d ∈ tables_1, d.before a0 Z = true) : Jvm.Cond.before (Jvm.Cond.constant cn_4 (7 : Nat) (2147483647 : Int32)) a0 Z = true := hw _ (List.mem_of_getElem? (i := 0) rfl)
theorem ww2 {Z : State} {a0 : Array Value} (hw : ∀ d ∈ tables_1, d.before a0 Z = true) : Jvm.Cond.before (Jvm.Cond.methodLink cn_4 (8 : Nat) ({ cls := cn_1, name := "sliding", desc := cn_11 } : Jvm.MethodName)) a0 Z = true := hw _ (List.mem_of_getElem? (i := 2) rfl)
theorem ww5 {Z : State} {a0 : Array Value} (hw : ∀ d ∈ tables_1, d.before a0 Z = true) : Jvm.Cond.before (Jvm.Cond.code ({ cls := cn_1, name := "sliding", desc := cn_11 } : Jvm.MethodName) prog_21_method_2_code (2 : Nat) (Option.some (Jvm.ClassFile.FieldType.object cn_1))) a0 Z = true := hw _ (List.mem_of_getElem? (i := 5) rfl)
theorem pd_3 : parseMethodDescriptor cn_11 = some ⟨[.long], some (.object cn_1)⟩ := by decide +kernel
theorem ww3 {Z : State} {a0 : Array Value} (hw : ∀ d ∈ tables_1, d.before a0 Z = true) : Jvm.Cond.before (Jvm.Cond.static ({ cls := cn_1, name := "sliding", desc := cn_11 } : Jvm.MethodName)) a0 Z = true := hw _ (List.mem_of_getElem? (i := 3) rfl)
theorem ww42 {Z : State} {a0 : Array Value} (hw : ∀ d ∈ tables_1, d.before a0 Z = true) : Jvm.Cond.before (Jvm.Cond.classLink cn_4 (14 : Nat) cn_0) a0 Z = true := hw _ (List.mem_of_getElem? (i := 42) rfl)
theorem ww44 {Z : State} {a0 : Array Value} (hw : ∀ d ∈ tables_1, d.before a0 Z = true) : Jvm.Cond.before (Jvm.Cond.initialized cn_0) a0 Z = true := hw _ (List.mem_of_getElem? (i := 44) rfl)
theorem ww45 {Z : State} {a0 : Array Value} (hw : ∀ d ∈ tables_1, d.before a0 Z = true) : Jvm.Cond.before (Jvm.Cond.methodLink cn_4 (16 : Nat) ({ cls := cn_0, name := "<init>", desc := "()V" } : Jvm.MethodName)) a0 Z = true := hw _ (List.mem_of_getElem? (i := 45) rfl)
theorem ww47 {Z : State} {a0 : Array Value} (hw : ∀ d ∈ tables_1, d.before a0 Z = true) : Jvm.Cond.before (Jvm.Cond.code ({ cls := cn_0, name := "<init>", desc := "()V" } : Jvm.MethodName) prog_2_method_1_code (1 : Nat) (Option.none : Option Jvm.ClassFile.FieldType)) a0 Z = true := hw _ (List.mem_of_getElem? (i := 47) rfl)
theorem ww46 {Z : State} {a0 : Array Value} (hw : ∀ d ∈ tables_1, d.before a0 Z = true) : Jvm.Cond.before (Jvm.Cond.instanceMethod ({ cls := cn_0, name := "<init>", desc := "()V" } : Jvm.MethodName)) a0 Z = true := hw _ (List.mem_of_getElem? (i := 46) rfl)
theorem ww51 {Z : State} {a0 : Array Value} (hw : ∀ d ∈ tables_1, d.before a0 Z = true) : Jvm.Cond.before (Jvm.Cond.methodLink cn_4 (17 : Nat) ({ cls := cn_0, name := "add", desc := "(J)V" } : Jvm.MethodName)) a0 Z = true := hw _ (List.mem_of_getElem? (i := 51) rfl)
theorem ww54 {Z : State} {a0 : Array Value} (hw : ∀ d ∈ tables_1, d.before a0 Z = true) : Jvm.Cond.before (Jvm.Cond.selects cn_0 ({ cls := cn_0, name := "add", desc := "(J)V" } : Jvm.MethodName) ({ cls := cn_0, name := "add", desc := "(J)V" } : Jvm.MethodName)) a0 Z = true := hw _ (List.mem_of_getElem? (i := 54) rfl)
theorem d8_0 : decode prog_2_method_4_code 0 = .ok (.aload_n 0, 1) := by decide +kernel
theorem d8_1 : decode prog_2_method_4_code 1 = .ok (.getfield 43, 3) := by decide +kernel
theorem ww56 {Z : State} {a0 : Array Value} (hw : ∀ d ∈ tables_1, d.before a0 Z = true) : Jvm.Cond.before (Jvm.Cond.fieldLink cn_0 (43 : Nat) cn_0 "size" "I") a0 Z = true := hw _ (List.mem_of_getElem? (i := 56) rfl)
theorem d8_4 : decode prog_2_method_4_code 4 = .ok (.aload_n 0, 1) := by decide +kernel
theorem d8_5 : decode prog_2_method_4_code 5 = .ok (.getfield 7, 3) := by decide +kernel
theorem d8_8 : decode prog_2_method_4_code 8 = .ok (.arraylength, 1) := by decide +kernel
theorem d8_9 : decode prog_2_method_4_code 9 = .ok (.if_icmp .ne 63, 3) := by decide +kernel
theorem d8_72 : decode prog_2_method_4_code 72 = .ok (.aload_n 0, 1) := by decide +kernel
theorem d8_73 : decode prog_2_method_4_code 73 = .ok (.getfield 7, 3) := by decide +kernel
theorem d8_76 : decode prog_2_method_4_code 76 = .ok (.aload_n 0, 1) := by decide +kernel
theorem d8_77 : decode prog_2_method_4_code 77 = .ok (.getfield 47, 3) := by decide +kernel
theorem ww58 {Z : State} {a0 : Array Value} (hw : ∀ d ∈ tables_1, d.before a0 Z = true) : Jvm.Cond.before (Jvm.Cond.fieldLink cn_0 (47 : Nat) cn_0 "head" "I") a0 Z = true := hw _ (List.mem_of_getElem? (i := 58) rfl)
theorem d8_80 : decode prog_2_method_4_code 80 = .ok (.aload_n 0, 1) := by decide +kernel
theorem d8_81 : decode prog_2_method_4_code 81 = .ok (.getfield 43, 3) := by decide +kernel
theorem d8_84 : decode prog_2_method_4_code 84 = .ok (.iadd, 1) := by decide +kernel
theorem d8_85 : decode prog_2_method_4_code 85 = .ok (.aload_n 0, 1) := by decide +kernel
theorem d8_86 : decode prog_2_method_4_code 86 = .ok (.getfield 7, 3) := by decide +kernel
theorem d8_89 : decode prog_2_method_4_code 89 = .ok (.arraylength, 1) := by decide +kernel
theorem d8_90 : decode prog_2_method_4_code 90 = .ok (.irem, 1) := by decide +kernel
theorem d8_91 : decode prog_2_method_4_code 91 = .ok (.lload_n 1, 1) := by decide +kernel
theorem d8_92 : decode prog_2_method_4_code 92 = .ok (.lastore, 1) := by decide +kernel
theorem d8_93 : decode prog_2_method_4_code 93 = .ok (.aload_n 0, 1) := by decide +kernel
theorem d8_94 : decode prog_2_method_4_code 94 = .ok (.dup, 1) := by decide +kernel
theorem d8_95 : decode prog_2_method_4_code 95 = .ok (.getfield 43, 3) := by decide +kernel
theorem d8_98 : decode prog_2_method_4_code 98 = .ok (.iconst 1, 1) := by decide +kernel
theorem d8_99 : decode prog_2_method_4_code 99 = .ok (.iadd, 1) := by decide +kernel
theorem d8_100 : decode prog_2_method_4_code 100 = .ok (.putfield 43, 3) := by decide +kernel
theorem d8_103 : decode prog_2_method_4_code 103 = .ok (.return_, 1) := by decide +kernel
abbrev rr_add_4_0 : Room := { frames := 0, cells := 0, slots := 0, locals := 0 }
abbrev y_8 : MethodName := ⟨cn_0, "add", "(J)V"⟩
theorem ef_add_4_0 (m : MethodId) (o0 : Addr) (q1 : Int64) : entryFrame m #[(.ref o0), (.long q1)] 5 = mkF m 0 #[.val (.ref o0), .val (.long q1), .second, .unset, .unset] [] := by first | (simp [entryFrame, mkF, argsToLocals, Value.category]; done) | rfl
def Q_add_4_0 (Z : State) (w_SLIDING : Addr) (w_CALENDAR : Addr) (w_SwitchMap_co : Addr) (o0 : Addr) (q1 : Int64) (ar : Addr) (ka : ClassId) (x0 : Int64) (x1 : Int64) (x2 : Int64) (x3 : Int64) (hd : Int32) (sz : Int32) (sz1 : Int32) (h0 : Heap) (n0 : Nat) (v : Option Value) (h : Heap) (L : List Loc) : Prop := v = none ∧ Fr n0 L ∧ Keep h0 h [o0, ar] ∧ Exa Z h o0 cn_0 ∧ Fld Z h o0 cn_0 "times" "[J" (.ref ar) ∧ Fld Z h o0 cn_0 "head" "I" (.int hd) ∧ Fld Z h o0 cn_0 "size" "I" (.int sz1) ∧ Arv Z h ar ka .long (4 : Int32) [(.long q1), (.long x1), (.long x2), (.long x3)] (.long 0)
set_option maxRecDepth 65536 in
set_option maxHeartbeats 40000000 in
theorem rm_add_4_0 (l : Launch) (Z : State) (a0 : Array Value) (hw : ∀ d ∈ tables_1, d.before a0 Z = true) (ws : List Jvm.Cond) (w_SLIDING : Addr) (w_CALENDAR : Addr) (w_SwitchMap_co : Addr) (o0 : Addr) (q1 : Int64) (ar : Addr) (ka : ClassId) (x0 : Int64) (x1 : Int64) (x2 : Int64) (x3 : Int64) (hd : Int32) (sz : Int32) (sz1 : Int32) (h0 : Heap) (n0 : Nat) (Z0 : n0 ≤ h0.size) (ST : own_St Z w_SLIDING w_CALENDAR w_SwitchMap_co) (O0 : Old Z n0 h0) (Ex : Exa Z h0 o0 cn_0) (geo : n0 ≤ o0) (Ft : Fld Z h0 o0 cn_0 "times" "[J" (.ref ar)) (gea : n0 ≤ ar) (Fh : Fld Z h0 o0 cn_0 "head" "I" (.int hd)) (Fs : Fld Z h0 o0 cn_0 "size" "I" (.int sz)) (Va : Arv Z h0 ar ka .long (4 : Int32) [(.long x0), (.long x1), (.long x2), (.long x3)] (.long 0)) (hne : ¬ (sz = (4 : Int32))) (hs1 : (sz + (1 : Int32)) = sz1) (hix : ((hd + sz) % (4 : Int32)) = (0 : Int32)) :
    MetFree l y_8 (head1 (Jvm.Cond.code y_8 prog_2_method_4_code 5 none :: ws) rr_add_4_0) (fun a U => a = #[(.ref o0), (.long q1)] ∧ Z.Warmed39 U.vm ∧ U.heap = h0) (fun _ _ _ _ _ => True) (fun _ U o U' => ∃ v L, o = .returned v ∧ Q_add_4_0 Z w_SLIDING w_CALENDAR w_SwitchMap_co o0 q1 ar ka x0 x1 x2 x3 hd sz sz1 h0 n0 v U'.heap L ∧ FrameEnd U o U' L rr_add_4_0.cells rr_add_4_0.slots) := by
  refine MetFree.of_bodySF (plainFor_of_name pn_3) hisR ?_
  intro p e s m args below meth c s₁ Bd hml0 hP hK
  obtain ⟨rfl, hZ, hh⟩ := hP
  have hx := Bd.exec
  have hby := Bd.bytes
  have hml : c.maxLocals = 5 := hml0
  have hown : s.vm.findClass cn_0 = some m.cls := findClass_of_methodNamed Bd.named
  have hnm := (name_of_methodNamed Bd.named Bd.method).1
  have X0 : Stand p l e rr_add_4_0 s m #[(.ref o0), (.long q1)] below meth c s₁ [] 0 0 := Stand.of_body Bd
  have e0 : s₁.heap = h0 := by rw [← hh, Bd.state]; rfl
  have N0 := Fr.nil n0
  have K0 : Keep h0 h0 [o0, ar] := Keep.refl _ _
  obtain ⟨G, step, ret, fin⟩ := own_open (p := p) (l := l) (e := e) (R := rr_add_4_0) (s := s) (m := m) (args := #[(.ref o0), (.long q1)]) (below := below) (meth := meth) (c := c) (rr_add_4_0.cells) (rr_add_4_0.slots) (Q_add_4_0 Z w_SLIDING w_CALENDAR w_SwitchMap_co o0 q1 ar ka x0 x1 x2 x3 hd sz sz1 h0 n0) Bd.notSynchronized
  refine fin (g := entryFrame m #[(.ref o0), (.long q1)] 5) ?_
  rw [ef_add_4_0 m o0 q1]
  have ne_o0_ar : o0 ≠ ar := own_ne_arv Ex (ww43 hw) Va
  show G s₁ (mkF m 0 #[.val (.ref o0), .val (.long q1), .second, .unset, .unset] [])
  refine step (fun t k => XS.aloadN X0.here hx rfl (hb hby d8_0) rfl rfl k) ?_
  show G s₁ (mkF m 1 #[.val (.ref o0), .val (.long q1), .second, .unset, .unset] [(.ref o0)])
  obtain ⟨T1, X1, e1, st1⟩ := getF X0 hx hZ hown (host := "") (Or.inl (ww56 hw)) Via.refl e0 Fs (g := (mkF m 1 #[.val (.ref o0), .val (.long q1), .second, .unset, .unset] [(.ref o0)])) rfl rfl (hb hby d8_1)
  refine step st1 ?_
  show G T1 (mkF m 4 #[.val (.ref o0), .val (.long q1), .second, .unset, .unset] [(.int sz)])
  refine step (fun t k => XS.aloadN X1.here hx rfl (hb hby d8_4) rfl rfl k) ?_
  show G T1 (mkF m 5 #[.val (.ref o0), .val (.long q1), .second, .unset, .unset] [(.ref o0), (.int sz)])
  obtain ⟨T2, X2, e2, st2⟩ := getF X1 hx hZ hown (host := "") (Or.inl (ww49 hw)) Via.refl e1 Ft (g := (mkF m 5 #[.val (.ref o0), .val (.long q1), .second, .unset, .unset] [(.ref o0), (.int sz)])) rfl rfl (hb hby d8_5)
  refine step st2 ?_
  show G T2 (mkF m 8 #[.val (.ref o0), .val (.long q1), .second, .unset, .unset] [(.ref ar), (.int sz)])
  have q3 := own_len X2 hx hZ e2 Va (g := (mkF m 8 #[.val (.ref o0), .val (.long q1), .second, .unset, .unset] [(.ref ar), (.int sz)])) rfl rfl (hb hby d8_8)
  refine step q3 ?_
  show G T2 (mkF m 9 #[.val (.ref o0), .val (.long q1), .second, .unset, .unset] [(.int 4), (.int sz)])
  refine step (fun t k => XS.icmpYes X2.here hx rfl (pc0 := 9) (pc' := 72) rfl (hb hby d8_9) rfl (feq hne).2 (by decide) (by decide) k) ?_
  show G T2 (mkF m 72 #[.val (.ref o0), .val (.long q1), .second, .unset, .unset] [])
  refine step (fun t k => XS.aloadN X2.here hx rfl (hb hby d8_72) rfl rfl k) ?_
  show G T2 (mkF m 73 #[.val (.ref o0), .val (.long q1), .second, .unset, .unset] [(.ref o0)])
  obtain ⟨T4, X4, e4, st4⟩ := getF X2 hx hZ hown (host := "") (Or.inl (ww49 hw)) Via.refl e2 Ft (g := (mkF m 73 #[.val (.ref o0), .val (.long q1), .second, .unset, .unset] [(.ref o0)])) rfl rfl (hb hby d8_73)
  refine step st4 ?_
  show G T4 (mkF m 76 #[.val (.ref o0), .val (.long q1), .second, .unset, .unset] [(.ref ar)])
  refine step (fun t k => XS.aloadN X4.here hx rfl (hb hby d8_76) rfl rfl k) ?_
  show G T4 (mkF m 77 #[.val (.ref o0), .val (.long q1), .second, .unset, .unset] [(.ref o0), (.ref ar)])
  obtain ⟨T5, X5, e5, st5⟩ := getF X4 hx hZ hown (host := "") (Or.inl (ww58 hw)) Via.refl e4 Fh (g := (mkF m 77 #[.val (.ref o0), .val (.long q1), .second, .unset, .unset] [(.ref o0), (.ref ar)])) rfl rfl (hb hby d8_77)
  refine step st5 ?_
  show G T5 (mkF m 80 #[.val (.ref o0), .val (.long q1), .second, .unset, .unset] [(.int hd), (.ref ar)])
  refine step (fun t k => XS.aloadN X5.here hx rfl (hb hby d8_80) rfl rfl k) ?_
  show G T5 (mkF m 81 #[.val (.ref o0), .val (.long q1), .second, .unset, .unset] [(.ref o0), (.int hd), (.ref ar)])
  obtain ⟨T6, X6, e6, st6⟩ := getF X5 hx hZ hown (host := "") (Or.inl (ww56 hw)) Via.refl e5 Fs (g := (mkF m 81 #[.val (.ref o0), .val (.long q1), .second, .unset, .unset] [(.ref o0), (.int hd), (.ref ar)])) rfl rfl (hb hby d8_81)
  refine step st6 ?_
  show G T6 (mkF m 84 #[.val (.ref o0), .val (.long q1), .second, .unset, .unset] [(.int sz), (.int hd), (.ref ar)])
  refine step (fun t k => XS.iadd X6.here hx rfl (hb hby d8_84) rfl k) ?_
  show G T6 (mkF m 85 #[.val (.ref o0), .val (.long q1), .second, .unset, .unset] [(.int (hd + sz)), (.ref ar)])
  refine step (fun t k => XS.aloadN X6.here hx rfl (hb hby d8_85) rfl rfl k) ?_
  show G T6 (mkF m 86 #[.val (.ref o0), .val (.long q1), .second, .unset, .unset] [(.ref o0), (.int (hd + sz)), (.ref ar)])
  obtain ⟨T7, X7, e7, st7⟩ := getF X6 hx hZ hown (host := "") (Or.inl (ww49 hw)) Via.refl e6 Ft (g := (mkF m 86 #[.val (.ref o0), .val (.long q1), .second, .unset, .unset] [(.ref o0), (.int (hd + sz)), (.ref ar)])) rfl rfl (hb hby d8_86)
  refine step st7 ?_
  show G T7 (mkF m 89 #[.val (.ref o0), .val (.long q1), .second, .unset, .unset] [(.ref ar), (.int (hd + sz)), (.ref ar)])
  have q8 := own_len X7 hx hZ e7 Va (g := (mkF m 89 #[.val (.ref o0), .val (.long q1), .second, .unset, .unset] [(.ref ar), (.int (hd + sz)), (.ref ar)])) rfl rfl (hb hby d8_89)
  refine step q8 ?_
  show G T7 (mkF m 90 #[.val (.ref o0), .val (.long q1), .second, .unset, .unset] [(.int 4), (.int (hd + sz)), (.ref ar)])
  refine step (fun t k => iremM X7 hx rfl (hb hby d8_90) rfl (by decide) k) ?_
  show G T7 (mkF m 91 #[.val (.ref o0), .val (.long q1), .second, .unset, .unset] [(.int ((hd + sz) % (4 : Int32))), (.ref ar)])
  rw [hix]
  show G T7 (mkF m 91 #[.val (.ref o0), .val (.long q1), .second, .unset, .unset] [(.int 0), (.ref ar)])
  refine step (fun t k => XS.lloadN X7.here hx rfl (hb hby d8_91) rfl k) ?_
  show G T7 (mkF m 92 #[.val (.ref o0), .val (.long q1), .second, .unset, .unset] [(.long q1), (.int 0), (.ref ar)])
  obtain ⟨T9, h9, X9, e9, W9, V9, st9⟩ := own_stJ X7 hx hZ e7 Va (j := (0 : Int32)) (by decide) (i := 0) rfl (by show 0 < 4; decide) (g := (mkF m 92 #[.val (.ref o0), .val (.long q1), .second, .unset, .unset] [(.long q1), (.int 0), (.ref ar)])) rfl rfl (hb hby d8_92)
  replace V9 : Arv Z h9 ar ka .long (4 : Int32) [(.long q1), (.long x1), (.long x2), (.long x3)] (.long 0) := V9
  have N9 := Fr.snoc X9 N0 gea
  obtain ⟨lc9, X9, N9⟩ := own_gen X9 N9
  have O9 := O0.wr W9 gea
  have K9 : Keep h0 h9 [o0, ar] := K0.wr W9 (Or.inl (List.mem_of_getElem? (i := 1) rfl))
  refine step st9 ?_
  show G T9 (mkF m 93 #[.val (.ref o0), .val (.long q1), .second, .unset, .unset] [])
  refine step (fun t k => XS.aloadN X9.here hx rfl (hb hby d8_93) rfl rfl k) ?_
  show G T9 (mkF m 94 #[.val (.ref o0), .val (.long q1), .second, .unset, .unset] [(.ref o0)])
  refine step (fun t k => XS.dup X9.here hx rfl (hb hby d8_94) rfl rfl k) ?_
  show G T9 (mkF m 95 #[.val (.ref o0), .val (.long q1), .second, .unset, .unset] [(.ref o0), (.ref o0)])
  have f11 := (Fld.other W9 Fs (Or.inl ne_o0_ar))
  obtain ⟨T10, X10, e10, st10⟩ := getF X9 hx hZ hown (host := "") (Or.inl (ww56 hw)) Via.refl e9 f11 (g := (mkF m 95 #[.val (.ref o0), .val (.long q1), .second, .unset, .unset] [(.ref o0), (.ref o0)])) rfl rfl (hb hby d8_95)
  refine step st10 ?_
  show G T10 (mkF m 98 #[.val (.ref o0), .val (.long q1), .second, .unset, .unset] [(.int sz), (.ref o0)])
  refine step (fun t k => XS.iconst X10.here hx rfl (hb hby d8_98) k) ?_
  show G T10 (mkF m 99 #[.val (.ref o0), .val (.long q1), .second, .unset, .unset] [(.int 1), (.int sz), (.ref o0)])
  refine step (fun t k => XS.iadd X10.here hx rfl (hb hby d8_99) rfl k) ?_
  show G T10 (mkF m 100 #[.val (.ref o0), .val (.long q1), .second, .unset, .unset] [(.int (sz + (1 : Int32))), (.ref o0)])
  rw [hs1]
  show G T10 (mkF m 100 #[.val (.ref o0), .val (.long q1), .second, .unset, .unset] [(.int sz1), (.ref o0)])
  have f13 := (Exa.wr W9 Ex)
  obtain ⟨T12, h12, X12, e12, W12, st12⟩ := putF X10 hx hZ hown (host := "") (Or.inl (ww56 hw)) Via.refl e10 f11 f13 (Or.inl (ww57 hw)) (ww43 hw) (ty := .int) (by decide) rfl rfl (g := (mkF m 100 #[.val (.ref o0), .val (.long q1), .second, .unset, .unset] [(.int sz1), (.ref o0)])) rfl rfl (hb hby d8_100)
  have F12 : Fld Z h12 o0 cn_0 "size" "I" (.int sz1) := Fld.same W12 f11
  have N12 := Fr.snoc X12 N9 geo
  obtain ⟨lc12, X12, N12⟩ := own_gen X12 N12
  have O12 := O9.wr W12 geo
  have K12 : Keep h0 h12 [o0, ar] := K9.wr W12 (Or.inl (List.mem_of_getElem? (i := 0) rfl))
  refine step st12 ?_
  show G T12 (mkF m 103 #[.val (.ref o0), .val (.long q1), .second, .unset, .unset] [])
  have f14 := (Exa.wr W12 f13)
  have f15 := (Fld.other W12 (Fld.other W9 Ft (Or.inl ne_o0_ar)) (Or.inr (slot_ne (Or.inl (ww50 hw)) (Or.inl (ww57 hw)) (by decide) (t := (.array .long)) (t' := .int) (by decide) (by decide))))
  have f16 := (Fld.other W12 (Fld.other W9 Fh (Or.inl ne_o0_ar)) (Or.inr (slot_ne (Or.inl (ww59 hw)) (Or.inl (ww57 hw)) (by decide) (t := .int) (t' := .int) (by decide) (by decide))))
  have f17 := (Arv.other V9 W12 (Ne.symm ne_o0_ar))
  exact ret (v := none) X12 (fun _ => rfl) (fun fs hr => X12.returnOut hx Bd.returns (hb hby d8_103) hr) e12 ⟨rfl, N12, K12, f14, f15, f16, F12, f17⟩ (by decide) (by decide)
theorem ww55 {Z : State} {a0 : Array Value} (hw : ∀ d ∈ tables_1, d.before a0 Z = true) : Jvm.Cond.before (Jvm.Cond.code ({ cls := cn_0, name := "add", desc := "(J)V" } : Jvm.MethodName) prog_2_method_4_code (5 : Nat) (Option.none : Option Jvm.ClassFile.FieldType)) a0 Z = true := hw _ (List.mem_of_getElem? (i := 55) rfl)
theorem pd_4 : parseMethodDescriptor "(J)V" = some ⟨[.long], none⟩ := by decide +kernel
theorem ww52 {Z : State} {a0 : Array Value} (hw : ∀ d ∈ tables_1, d.before a0 Z = true) : Jvm.Cond.before (Jvm.Cond.declares ({ cls := cn_0, name := "add", desc := "(J)V" } : Jvm.MethodName)) a0 Z = true := hw _ (List.mem_of_getElem? (i := 52) rfl)
theorem ww53 {Z : State} {a0 : Array Value} (hw : ∀ d ∈ tables_1, d.before a0 Z = true) : Jvm.Cond.before (Jvm.Cond.instanceMethod ({ cls := cn_0, name := "add", desc := "(J)V" } : Jvm.MethodName)) a0 Z = true := hw _ (List.mem_of_getElem? (i := 53) rfl)
abbrev rr_add_4_1 : Room := { frames := 0, cells := 0, slots := 0, locals := 0 }
theorem ef_add_4_1 (m : MethodId) (o0 : Addr) (q1 : Int64) : entryFrame m #[(.ref o0), (.long q1)] 5 = mkF m 0 #[.val (.ref o0), .val (.long q1), .second, .unset, .unset] [] := by first | (simp [entryFrame, mkF, argsToLocals, Value.category]; done) | rfl
def Q_add_4_1 (Z : State) (w_SLIDING : Addr) (w_CALENDAR : Addr) (w_SwitchMap_co : Addr) (o0 : Addr) (q1 : Int64) (ar : Addr) (ka : ClassId) (x0 : Int64) (x1 : Int64) (x2 : Int64) (x3 : Int64) (hd : Int32) (sz : Int32) (sz1 : Int32) (h0 : Heap) (n0 : Nat) (v : Option Value) (h : Heap) (L : List Loc) : Prop := v = none ∧ Fr n0 L ∧ Keep h0 h [o0, ar] ∧ Exa Z h o0 cn_0 ∧ Fld Z h o0 cn_0 "times" "[J" (.ref ar) ∧ Fld Z h o0 cn_0 "head" "I" (.int hd) ∧ Fld Z h o0 cn_0 "size" "I" (.int sz1) ∧ Arv Z h ar ka .long (4 : Int32) [(.long x0), (.long q1), (.long x2), (.long x3)] (.long 0)
set_option maxRecDepth 65536 in
set_option maxHeartbeats 40000000 in
theorem rm_add_4_1 (l : Launch) (Z : State) (a0 : Array Value) (hw : ∀ d ∈ tables_1, d.before a0 Z = true) (ws : List Jvm.Cond) (w_SLIDING : Addr) (w_CALENDAR : Addr) (w_SwitchMap_co : Addr) (o0 : Addr) (q1 : Int64) (ar : Addr) (ka : ClassId) (x0 : Int64) (x1 : Int64) (x2 : Int64) (x3 : Int64) (hd : Int32) (sz : Int32) (sz1 : Int32) (h0 : Heap) (n0 : Nat) (Z0 : n0 ≤ h0.size) (ST : own_St Z w_SLIDING w_CALENDAR w_SwitchMap_co) (O0 : Old Z n0 h0) (Ex : Exa Z h0 o0 cn_0) (geo : n0 ≤ o0) (Ft : Fld Z h0 o0 cn_0 "times" "[J" (.ref ar)) (gea : n0 ≤ ar) (Fh : Fld Z h0 o0 cn_0 "head" "I" (.int hd)) (Fs : Fld Z h0 o0 cn_0 "size" "I" (.int sz)) (Va : Arv Z h0 ar ka .long (4 : Int32) [(.long x0), (.long x1), (.long x2), (.long x3)] (.long 0)) (hne : ¬ (sz = (4 : Int32))) (hs1 : (sz + (1 : Int32)) = sz1) (hix : ((hd + sz) % (4 : Int32)) = (1 : Int32)) :
    MetFree l y_8 (head1 (Jvm.Cond.code y_8 prog_2_method_4_code 5 none :: ws) rr_add_4_1) (fun a U => a = #[(.ref o0), (.long q1)] ∧ Z.Warmed39 U.vm ∧ U.heap = h0) (fun _ _ _ _ _ => True) (fun _ U o U' => ∃ v L, o = .returned v ∧ Q_add_4_1 Z w_SLIDING w_CALENDAR w_SwitchMap_co o0 q1 ar ka x0 x1 x2 x3 hd sz sz1 h0 n0 v U'.heap L ∧ FrameEnd U o U' L rr_add_4_1.cells rr_add_4_1.slots) := by
  refine MetFree.of_bodySF (plainFor_of_name pn_3) hisR ?_
  intro p e s m args below meth c s₁ Bd hml0 hP hK
  obtain ⟨rfl, hZ, hh⟩ := hP
  have hx := Bd.exec
  have hby := Bd.bytes
  have hml : c.maxLocals = 5 := hml0
  have hown : s.vm.findClass cn_0 = some m.cls := findClass_of_methodNamed Bd.named
  have hnm := (name_of_methodNamed Bd.named Bd.method).1
  have X0 : Stand p l e rr_add_4_1 s m #[(.ref o0), (.long q1)] below meth c s₁ [] 0 0 := Stand.of_body Bd
  have e0 : s₁.heap = h0 := by rw [← hh, Bd.state]; rfl
  have N0 := Fr.nil n0
  have K0 : Keep h0 h0 [o0, ar] := Keep.refl _ _
  obtain ⟨G, step, ret, fin⟩ := own_open (p := p) (l := l) (e := e) (R := rr_add_4_1) (s := s) (m := m) (args := #[(.ref o0), (.long q1)]) (below := below) (meth := meth) (c := c) (rr_add_4_1.cells) (rr_add_4_1.slots) (Q_add_4_1 Z w_SLIDING w_CALENDAR w_SwitchMap_co o0 q1 ar ka x0 x1 x2 x3 hd sz sz1 h0 n0) Bd.notSynchronized
  refine fin (g := entryFrame m #[(.ref o0), (.long q1)] 5) ?_
  rw [ef_add_4_1 m o0 q1]
  have ne_o0_ar : o0 ≠ ar := own_ne_arv Ex (ww43 hw) Va
  show G s₁ (mkF m 0 #[.val (.ref o0), .val (.long q1), .second, .unset, .unset] [])
  refine step (fun t k => XS.aloadN X0.here hx rfl (hb hby d8_0) rfl rfl k) ?_
  show G s₁ (mkF m 1 #[.val (.ref o0), .val (.long q1), .second, .unset, .unset] [(.ref o0)])
  obtain ⟨T1, X1, e1, st1⟩ := getF X0 hx hZ hown (host := "") (Or.inl (ww56 hw)) Via.refl e0 Fs (g := (mkF m 1 #[.val (.ref o0), .val (.long q1), .second, .unset, .unset] [(.ref o0)])) rfl rfl (hb hby d8_1)
  refine step st1 ?_
  show G T1 (mkF m 4 #[.val (.ref o0), .val (.long q1), .second, .unset, .unset] [(.int sz)])
  refine step (fun t k => XS.aloadN X1.here hx rfl (hb hby d8_4) rfl rfl k) ?_
  show G T1 (mkF m 5 #[.val (.ref o0), .val (.long q1), .second, .unset, .unset] [(.ref o0), (.int sz)])
  obtain ⟨T2, X2, e2, st2⟩ := getF X1 hx hZ hown (host := "") (Or.inl (ww49 hw)) Via.refl e1 Ft (g := (mkF m 5 #[.val (.ref o0), .val (.long q1), .second, .unset, .unset] [(.ref o0), (.int sz)])) rfl rfl (hb hby d8_5)
  refine step st2 ?_
  show G T2 (mkF m 8 #[.val (.ref o0), .val (.long q1), .second, .unset, .unset] [(.ref ar), (.int sz)])
  have q3 := own_len X2 hx hZ e2 Va (g := (mkF m 8 #[.val (.ref o0), .val (.long q1), .second, .unset, .unset] [(.ref ar), (.int sz)])) rfl rfl (hb hby d8_8)
  refine step q3 ?_
  show G T2 (mkF m 9 #[.val (.ref o0), .val (.long q1), .second, .unset, .unset] [(.int 4), (.int sz)])
  refine step (fun t k => XS.icmpYes X2.here hx rfl (pc0 := 9) (pc' := 72) rfl (hb hby d8_9) rfl (feq hne).2 (by decide) (by decide) k) ?_
  show G T2 (mkF m 72 #[.val (.ref o0), .val (.long q1), .second, .unset, .unset] [])
  refine step (fun t k => XS.aloadN X2.here hx rfl (hb hby d8_72) rfl rfl k) ?_
  show G T2 (mkF m 73 #[.val (.ref o0), .val (.long q1), .second, .unset, .unset] [(.ref o0)])
  obtain ⟨T4, X4, e4, st4⟩ := getF X2 hx hZ hown (host := "") (Or.inl (ww49 hw)) Via.refl e2 Ft (g := (mkF m 73 #[.val (.ref o0), .val (.long q1), .second, .unset, .unset] [(.ref o0)])) rfl rfl (hb hby d8_73)
  refine step st4 ?_
  show G T4 (mkF m 76 #[.val (.ref o0), .val (.long q1), .second, .unset, .unset] [(.ref ar)])
  refine step (fun t k => XS.aloadN X4.here hx rfl (hb hby d8_76) rfl rfl k) ?_
  show G T4 (mkF m 77 #[.val (.ref o0), .val (.long q1), .second, .unset, .unset] [(.ref o0), (.ref ar)])
  obtain ⟨T5, X5, e5, st5⟩ := getF X4 hx hZ hown (host := "") (Or.inl (ww58 hw)) Via.refl e4 Fh (g := (mkF m 77 #[.val (.ref o0), .val (.long q1), .second, .unset, .unset] [(.ref o0), (.ref ar)])) rfl rfl (hb hby d8_77)
  refine step st5 ?_
  show G T5 (mkF m 80 #[.val (.ref o0), .val (.long q1), .second, .unset, .unset] [(.int hd), (.ref ar)])
  refine step (fun t k => XS.aloadN X5.here hx rfl (hb hby d8_80) rfl rfl k) ?_
  show G T5 (mkF m 81 #[.val (.ref o0), .val (.long q1), .second, .unset, .unset] [(.ref o0), (.int hd), (.ref ar)])
  obtain ⟨T6, X6, e6, st6⟩ := getF X5 hx hZ hown (host := "") (Or.inl (ww56 hw)) Via.refl e5 Fs (g := (mkF m 81 #[.val (.ref o0), .val (.long q1), .second, .unset, .unset] [(.ref o0), (.int hd), (.ref ar)])) rfl rfl (hb hby d8_81)
  refine step st6 ?_
  show G T6 (mkF m 84 #[.val (.ref o0), .val (.long q1), .second, .unset, .unset] [(.int sz), (.int hd), (.ref ar)])
  refine step (fun t k => XS.iadd X6.here hx rfl (hb hby d8_84) rfl k) ?_
  show G T6 (mkF m 85 #[.val (.ref o0), .val (.long q1), .second, .unset, .unset] [(.int (hd + sz)), (.ref ar)])
  refine step (fun t k => XS.aloadN X6.here hx rfl (hb hby d8_85) rfl rfl k) ?_
  show G T6 (mkF m 86 #[.val (.ref o0), .val (.long q1), .second, .unset, .unset] [(.ref o0), (.int (hd + sz)), (.ref ar)])
  obtain ⟨T7, X7, e7, st7⟩ := getF X6 hx hZ hown (host := "") (Or.inl (ww49 hw)) Via.refl e6 Ft (g := (mkF m 86 #[.val (.ref o0), .val (.long q1), .second, .unset, .unset] [(.ref o0), (.int (hd + sz)), (.ref ar)])) rfl rfl (hb hby d8_86)
  refine step st7 ?_
  show G T7 (mkF m 89 #[.val (.ref o0), .val (.long q1), .second, .unset, .unset] [(.ref ar), (.int (hd + sz)), (.ref ar)])
  have q8 := own_len X7 hx hZ e7 Va (g := (mkF m 89 #[.val (.ref o0), .val (.long q1), .second, .unset, .unset] [(.ref ar), (.int (hd + sz)), (.ref ar)])) rfl rfl (hb hby d8_89)
  refine step q8 ?_
  show G T7 (mkF m 90 #[.val (.ref o0), .val (.long q1), .second, .unset, .unset] [(.int 4), (.int (hd + sz)), (.ref ar)])
  refine step (fun t k => iremM X7 hx rfl (hb hby d8_90) rfl (by decide) k) ?_
  show G T7 (mkF m 91 #[.val (.ref o0), .val (.long q1), .second, .unset, .unset] [(.int ((hd + sz) % (4 : Int32))), (.ref ar)])
  rw [hix]
  show G T7 (mkF m 91 #[.val (.ref o0), .val (.long q1), .second, .unset, .unset] [(.int 1), (.ref ar)])
  refine step (fun t k => XS.lloadN X7.here hx rfl (hb hby d8_91) rfl k) ?_
  show G T7 (mkF m 92 #[.val (.ref o0), .val (.long q1), .second, .unset, .unset] [(.long q1), (.int 1), (.ref ar)])
  obtain ⟨T9, h9, X9, e9, W9, V9, st9⟩ := own_stJ X7 hx hZ e7 Va (j := (1 : Int32)) (by decide) (i := 1) rfl (by show 1 < 4; decide) (g := (mkF m 92 #[.val (.ref o0), .val (.long q1), .second, .unset, .unset] [(.long q1), (.int 1), (.ref ar)])) rfl rfl (hb hby d8_92)
  replace V9 : Arv Z h9 ar ka .long (4 : Int32) [(.long x0), (.long q1), (.long x2), (.long x3)] (.long 0) := V9
  have N9 := Fr.snoc X9 N0 gea
  obtain ⟨lc9, X9, N9⟩ := own_gen X9 N9
  have O9 := O0.wr W9 gea
  have K9 : Keep h0 h9 [o0, ar] := K0.wr W9 (Or.inl (List.mem_of_getElem? (i := 1) rfl))
  refine step st9 ?_
  show G T9 (mkF m 93 #[.val (.ref o0), .val (.long q1), .second, .unset, .unset] [])
  refine step (fun t k => XS.aloadN X9.here hx rfl (hb hby d8_93) rfl rfl k) ?_
  show G T9 (mkF m 94 #[.val (.ref o0), .val (.long q1), .second, .unset, .unset] [(.ref o0)])
  refine step (fun t k => XS.dup X9.here hx rfl (hb hby d8_94) rfl rfl k) ?_
  show G T9 (mkF m 95 #[.val (.ref o0), .val (.long q1), .second, .unset, .unset] [(.ref o0), (.ref o0)])
  have f11 := (Fld.other W9 Fs (Or.inl ne_o0_ar))
  obtain ⟨T10, X10, e10, st10⟩ := getF X9 hx hZ hown (host := "") (Or.inl (ww56 hw)) Via.refl e9 f11 (g := (mkF m 95 #[.val (.ref o0), .val (.long q1), .second, .unset, .unset] [(.ref o0), (.ref o0)])) rfl rfl (hb hby d8_95)
  refine step st10 ?_
  show G T10 (mkF m 98 #[.val (.ref o0), .val (.long q1), .second, .unset, .unset] [(.int sz), (.ref o0)])
  refine step (fun t k => XS.iconst X10.here hx rfl (hb hby d8_98) k) ?_
  show G T10 (mkF m 99 #[.val (.ref o0), .val (.long q1), .second, .unset, .unset] [(.int 1), (.int sz), (.ref o0)])
  refine step (fun t k => XS.iadd X10.here hx rfl (hb hby d8_99) rfl k) ?_
  show G T10 (mkF m 100 #[.val (.ref o0), .val (.long q1), .second, .unset, .unset] [(.int (sz + (1 : Int32))), (.ref o0)])
  rw [hs1]
  show G T10 (mkF m 100 #[.val (.ref o0), .val (.long q1), .second, .unset, .unset] [(.int sz1), (.ref o0)])
  have f13 := (Exa.wr W9 Ex)
  obtain ⟨T12, h12, X12, e12, W12, st12⟩ := putF X10 hx hZ hown (host := "") (Or.inl (ww56 hw)) Via.refl e10 f11 f13 (Or.inl (ww57 hw)) (ww43 hw) (ty := .int) (by decide) rfl rfl (g := (mkF m 100 #[.val (.ref o0), .val (.long q1), .second, .unset, .unset] [(.int sz1), (.ref o0)])) rfl rfl (hb hby d8_100)
  have F12 : Fld Z h12 o0 cn_0 "size" "I" (.int sz1) := Fld.same W12 f11
  have N12 := Fr.snoc X12 N9 geo
  obtain ⟨lc12, X12, N12⟩ := own_gen X12 N12
  have O12 := O9.wr W12 geo
  have K12 : Keep h0 h12 [o0, ar] := K9.wr W12 (Or.inl (List.mem_of_getElem? (i := 0) rfl))
  refine step st12 ?_
  show G T12 (mkF m 103 #[.val (.ref o0), .val (.long q1), .second, .unset, .unset] [])
  have f14 := (Exa.wr W12 f13)
  have f15 := (Fld.other W12 (Fld.other W9 Ft (Or.inl ne_o0_ar)) (Or.inr (slot_ne (Or.inl (ww50 hw)) (Or.inl (ww57 hw)) (by decide) (t := (.array .long)) (t' := .int) (by decide) (by decide))))
  have f16 := (Fld.other W12 (Fld.other W9 Fh (Or.inl ne_o0_ar)) (Or.inr (slot_ne (Or.inl (ww59 hw)) (Or.inl (ww57 hw)) (by decide) (t := .int) (t' := .int) (by decide) (by decide))))
  have f17 := (Arv.other V9 W12 (Ne.symm ne_o0_ar))
  exact ret (v := none) X12 (fun _ => rfl) (fun fs hr => X12.returnOut hx Bd.returns (hb hby d8_103) hr) e12 ⟨rfl, N12, K12, f14, f15, f16, F12, f17⟩ (by decide) (by decide)
abbrev rr_add_4_2 : Room := { frames := 0, cells := 0, slots := 0, locals := 0 }
theorem ef_add_4_2 (m : MethodId) (o0 : Addr) (q1 : Int64) : entryFrame m #[(.ref o0), (.long q1)] 5 = mkF m 0 #[.val (.ref o0), .val (.long q1), .second, .unset, .unset] [] := by first | (simp [entryFrame, mkF, argsToLocals, Value.category]; done) | rfl
def Q_add_4_2 (Z : State) (w_SLIDING : Addr) (w_CALENDAR : Addr) (w_SwitchMap_co : Addr) (o0 : Addr) (q1 : Int64) (ar : Addr) (ka : ClassId) (x0 : Int64) (x1 : Int64) (x2 : Int64) (x3 : Int64) (hd : Int32) (sz : Int32) (sz1 : Int32) (h0 : Heap) (n0 : Nat) (v : Option Value) (h : Heap) (L : List Loc) : Prop := v = none ∧ Fr n0 L ∧ Keep h0 h [o0, ar] ∧ Exa Z h o0 cn_0 ∧ Fld Z h o0 cn_0 "times" "[J" (.ref ar) ∧ Fld Z h o0 cn_0 "head" "I" (.int hd) ∧ Fld Z h o0 cn_0 "size" "I" (.int sz1) ∧ Arv Z h ar ka .long (4 : Int32) [(.long x0), (.long x1), (.long q1), (.long x3)] (.long 0)
set_option maxRecDepth 65536 in
set_option maxHeartbeats 40000000 in
theorem rm_add_4_2 (l : Launch) (Z : State) (a0 : Array Value) (hw : ∀ d ∈ tables_1, d.before a0 Z = true) (ws : List Jvm.Cond) (w_SLIDING : Addr) (w_CALENDAR : Addr) (w_SwitchMap_co : Addr) (o0 : Addr) (q1 : Int64) (ar : Addr) (ka : ClassId) (x0 : Int64) (x1 : Int64) (x2 : Int64) (x3 : Int64) (hd : Int32) (sz : Int32) (sz1 : Int32) (h0 : Heap) (n0 : Nat) (Z0 : n0 ≤ h0.size) (ST : own_St Z w_SLIDING w_CALENDAR w_SwitchMap_co) (O0 : Old Z n0 h0) (Ex : Exa Z h0 o0 cn_0) (geo : n0 ≤ o0) (Ft : Fld Z h0 o0 cn_0 "times" "[J" (.ref ar)) (gea : n0 ≤ ar) (Fh : Fld Z h0 o0 cn_0 "head" "I" (.int hd)) (Fs : Fld Z h0 o0 cn_0 "size" "I" (.int sz)) (Va : Arv Z h0 ar ka .long (4 : Int32) [(.long x0), (.long x1), (.long x2), (.long x3)] (.long 0)) (hne : ¬ (sz = (4 : Int32))) (hs1 : (sz + (1 : Int32)) = sz1) (hix : ((hd + sz) % (4 : Int32)) = (2 : Int32)) :
    MetFree l y_8 (head1 (Jvm.Cond.code y_8 prog_2_method_4_code 5 none :: ws) rr_add_4_2) (fun a U => a = #[(.ref o0), (.long q1)] ∧ Z.Warmed39 U.vm ∧ U.heap = h0) (fun _ _ _ _ _ => True) (fun _ U o U' => ∃ v L, o = .returned v ∧ Q_add_4_2 Z w_SLIDING w_CALENDAR w_SwitchMap_co o0 q1 ar ka x0 x1 x2 x3 hd sz sz1 h0 n0 v U'.heap L ∧ FrameEnd U o U' L rr_add_4_2.cells rr_add_4_2.slots) := by
  refine MetFree.of_bodySF (plainFor_of_name pn_3) hisR ?_
  intro p e s m args below meth c s₁ Bd hml0 hP hK
  obtain ⟨rfl, hZ, hh⟩ := hP
  have hx := Bd.exec
  have hby := Bd.bytes
  have hml : c.maxLocals = 5 := hml0
  have hown : s.vm.findClass cn_0 = some m.cls := findClass_of_methodNamed Bd.named
  have hnm := (name_of_methodNamed Bd.named Bd.method).1
  have X0 : Stand p l e rr_add_4_2 s m #[(.ref o0), (.long q1)] below meth c s₁ [] 0 0 := Stand.of_body Bd
  have e0 : s₁.heap = h0 := by rw [← hh, Bd.state]; rfl
  have N0 := Fr.nil n0
  have K0 : Keep h0 h0 [o0, ar] := Keep.refl _ _
  obtain ⟨G, step, ret, fin⟩ := own_open (p := p) (l := l) (e := e) (R := rr_add_4_2) (s := s) (m := m) (args := #[(.ref o0), (.long q1)]) (below := below) (meth := meth) (c := c) (rr_add_4_2.cells) (rr_add_4_2.slots) (Q_add_4_2 Z w_SLIDING w_CALENDAR w_SwitchMap_co o0 q1 ar ka x0 x1 x2 x3 hd sz sz1 h0 n0) Bd.notSynchronized
  refine fin (g := entryFrame m #[(.ref o0), (.long q1)] 5) ?_
  rw [ef_add_4_2 m o0 q1]
  have ne_o0_ar : o0 ≠ ar := own_ne_arv Ex (ww43 hw) Va
  show G s₁ (mkF m 0 #[.val (.ref o0), .val (.long q1), .second, .unset, .unset] [])
  refine step (fun t k => XS.aloadN X0.here hx rfl (hb hby d8_0) rfl rfl k) ?_
  show G s₁ (mkF m 1 #[.val (.ref o0), .val (.long q1), .second, .unset, .unset] [(.ref o0)])
  obtain ⟨T1, X1, e1, st1⟩ := getF X0 hx hZ hown (host := "") (Or.inl (ww56 hw)) Via.refl e0 Fs (g := (mkF m 1 #[.val (.ref o0), .val (.long q1), .second, .unset, .unset] [(.ref o0)])) rfl rfl (hb hby d8_1)
  refine step st1 ?_
  show G T1 (mkF m 4 #[.val (.ref o0), .val (.long q1), .second, .unset, .unset] [(.int sz)])
  refine step (fun t k => XS.aloadN X1.here hx rfl (hb hby d8_4) rfl rfl k) ?_
  show G T1 (mkF m 5 #[.val (.ref o0), .val (.long q1), .second, .unset, .unset] [(.ref o0), (.int sz)])
  obtain ⟨T2, X2, e2, st2⟩ := getF X1 hx hZ hown (host := "") (Or.inl (ww49 hw)) Via.refl e1 Ft (g := (mkF m 5 #[.val (.ref o0), .val (.long q1), .second, .unset, .unset] [(.ref o0), (.int sz)])) rfl rfl (hb hby d8_5)
  refine step st2 ?_
  show G T2 (mkF m 8 #[.val (.ref o0), .val (.long q1), .second, .unset, .unset] [(.ref ar), (.int sz)])
  have q3 := own_len X2 hx hZ e2 Va (g := (mkF m 8 #[.val (.ref o0), .val (.long q1), .second, .unset, .unset] [(.ref ar), (.int sz)])) rfl rfl (hb hby d8_8)
  refine step q3 ?_
  show G T2 (mkF m 9 #[.val (.ref o0), .val (.long q1), .second, .unset, .unset] [(.int 4), (.int sz)])
  refine step (fun t k => XS.icmpYes X2.here hx rfl (pc0 := 9) (pc' := 72) rfl (hb hby d8_9) rfl (feq hne).2 (by decide) (by decide) k) ?_
  show G T2 (mkF m 72 #[.val (.ref o0), .val (.long q1), .second, .unset, .unset] [])
  refine step (fun t k => XS.aloadN X2.here hx rfl (hb hby d8_72) rfl rfl k) ?_
  show G T2 (mkF m 73 #[.val (.ref o0), .val (.long q1), .second, .unset, .unset] [(.ref o0)])
  obtain ⟨T4, X4, e4, st4⟩ := getF X2 hx hZ hown (host := "") (Or.inl (ww49 hw)) Via.refl e2 Ft (g := (mkF m 73 #[.val (.ref o0), .val (.long q1), .second, .unset, .unset] [(.ref o0)])) rfl rfl (hb hby d8_73)
  refine step st4 ?_
  show G T4 (mkF m 76 #[.val (.ref o0), .val (.long q1), .second, .unset, .unset] [(.ref ar)])
  refine step (fun t k => XS.aloadN X4.here hx rfl (hb hby d8_76) rfl rfl k) ?_
  show G T4 (mkF m 77 #[.val (.ref o0), .val (.long q1), .second, .unset, .unset] [(.ref o0), (.ref ar)])
  obtain ⟨T5, X5, e5, st5⟩ := getF X4 hx hZ hown (host := "") (Or.inl (ww58 hw)) Via.refl e4 Fh (g := (mkF m 77 #[.val (.ref o0), .val (.long q1), .second, .unset, .unset] [(.ref o0), (.ref ar)])) rfl rfl (hb hby d8_77)
  refine step st5 ?_
  show G T5 (mkF m 80 #[.val (.ref o0), .val (.long q1), .second, .unset, .unset] [(.int hd), (.ref ar)])
  refine step (fun t k => XS.aloadN X5.here hx rfl (hb hby d8_80) rfl rfl k) ?_
  show G T5 (mkF m 81 #[.val (.ref o0), .val (.long q1), .second, .unset, .unset] [(.ref o0), (.int hd), (.ref ar)])
  obtain ⟨T6, X6, e6, st6⟩ := getF X5 hx hZ hown (host := "") (Or.inl (ww56 hw)) Via.refl e5 Fs (g := (mkF m 81 #[.val (.ref o0), .val (.long q1), .second, .unset, .unset] [(.ref o0), (.int hd), (.ref ar)])) rfl rfl (hb hby d8_81)
  refine step st6 ?_
  show G T6 (mkF m 84 #[.val (.ref o0), .val (.long q1), .second, .unset, .unset] [(.int sz), (.int hd), (.ref ar)])
  refine step (fun t k => XS.iadd X6.here hx rfl (hb hby d8_84) rfl k) ?_
  show G T6 (mkF m 85 #[.val (.ref o0), .val (.long q1), .second, .unset, .unset] [(.int (hd + sz)), (.ref ar)])
  refine step (fun t k => XS.aloadN X6.here hx rfl (hb hby d8_85) rfl rfl k) ?_
  show G T6 (mkF m 86 #[.val (.ref o0), .val (.long q1), .second, .unset, .unset] [(.ref o0), (.int (hd + sz)), (.ref ar)])
  obtain ⟨T7, X7, e7, st7⟩ := getF X6 hx hZ hown (host := "") (Or.inl (ww49 hw)) Via.refl e6 Ft (g := (mkF m 86 #[.val (.ref o0), .val (.long q1), .second, .unset, .unset] [(.ref o0), (.int (hd + sz)), (.ref ar)])) rfl rfl (hb hby d8_86)
  refine step st7 ?_
  show G T7 (mkF m 89 #[.val (.ref o0), .val (.long q1), .second, .unset, .unset] [(.ref ar), (.int (hd + sz)), (.ref ar)])
  have q8 := own_len X7 hx hZ e7 Va (g := (mkF m 89 #[.val (.ref o0), .val (.long q1), .second, .unset, .unset] [(.ref ar), (.int (hd + sz)), (.ref ar)])) rfl rfl (hb hby d8_89)
  refine step q8 ?_
  show G T7 (mkF m 90 #[.val (.ref o0), .val (.long q1), .second, .unset, .unset] [(.int 4), (.int (hd + sz)), (.ref ar)])
  refine step (fun t k => iremM X7 hx rfl (hb hby d8_90) rfl (by decide) k) ?_
  show G T7 (mkF m 91 #[.val (.ref o0), .val (.long q1), .second, .unset, .unset] [(.int ((hd + sz) % (4 : Int32))), (.ref ar)])
  rw [hix]
  show G T7 (mkF m 91 #[.val (.ref o0), .val (.long q1), .second, .unset, .unset] [(.int 2), (.ref ar)])
  refine step (fun t k => XS.lloadN X7.here hx rfl (hb hby d8_91) rfl k) ?_
  show G T7 (mkF m 92 #[.val (.ref o0), .val (.long q1), .second, .unset, .unset] [(.long q1), (.int 2), (.ref ar)])
  obtain ⟨T9, h9, X9, e9, W9, V9, st9⟩ := own_stJ X7 hx hZ e7 Va (j := (2 : Int32)) (by decide) (i := 2) rfl (by show 2 < 4; decide) (g := (mkF m 92 #[.val (.ref o0), .val (.long q1), .second, .unset, .unset] [(.long q1), (.int 2), (.ref ar)])) rfl rfl (hb hby d8_92)
  replace V9 : Arv Z h9 ar ka .long (4 : Int32) [(.long x0), (.long x1), (.long q1), (.long x3)] (.long 0) := V9
  have N9 := Fr.snoc X9 N0 gea
  obtain ⟨lc9, X9, N9⟩ := own_gen X9 N9
  have O9 := O0.wr W9 gea
  have K9 : Keep h0 h9 [o0, ar] := K0.wr W9 (Or.inl (List.mem_of_getElem? (i := 1) rfl))
  refine step st9 ?_
  show G T9 (mkF m 93 #[.val (.ref o0), .val (.long q1), .second, .unset, .unset] [])
  refine step (fun t k => XS.aloadN X9.here hx rfl (hb hby d8_93) rfl rfl k) ?_
  show G T9 (mkF m 94 #[.val (.ref o0), .val (.long q1), .second, .unset, .unset] [(.ref o0)])
  refine step (fun t k => XS.dup X9.here hx rfl (hb hby d8_94) rfl rfl k) ?_
  show G T9 (mkF m 95 #[.val (.ref o0), .val (.long q1), .second, .unset, .unset] [(.ref o0), (.ref o0)])
  have f11 := (Fld.other W9 Fs (Or.inl ne_o0_ar))
  obtain ⟨T10, X10, e10, st10⟩ := getF X9 hx hZ hown (host := "") (Or.inl (ww56 hw)) Via.refl e9 f11 (g := (mkF m 95 #[.val (.ref o0), .val (.long q1), .second, .unset, .unset] [(.ref o0), (.ref o0)])) rfl rfl (hb hby d8_95)
  refine step st10 ?_
  show G T10 (mkF m 98 #[.val (.ref o0), .val (.long q1), .second, .unset, .unset] [(.int sz), (.ref o0)])
  refine step (fun t k => XS.iconst X10.here hx rfl (hb hby d8_98) k) ?_
  show G T10 (mkF m 99 #[.val (.ref o0), .val (.long q1), .second, .unset, .unset] [(.int 1), (.int sz), (.ref o0)])
  refine step (fun t k => XS.iadd X10.here hx rfl (hb hby d8_99) rfl k) ?_
  show G T10 (mkF m 100 #[.val (.ref o0), .val (.long q1), .second, .unset, .unset] [(.int (sz + (1 : Int32))), (.ref o0)])
  rw [hs1]
  show G T10 (mkF m 100 #[.val (.ref o0), .val (.long q1), .second, .unset, .unset] [(.int sz1), (.ref o0)])
  have f13 := (Exa.wr W9 Ex)
  obtain ⟨T12, h12, X12, e12, W12, st12⟩ := putF X10 hx hZ hown (host := "") (Or.inl (ww56 hw)) Via.refl e10 f11 f13 (Or.inl (ww57 hw)) (ww43 hw) (ty := .int) (by decide) rfl rfl (g := (mkF m 100 #[.val (.ref o0), .val (.long q1), .second, .unset, .unset] [(.int sz1), (.ref o0)])) rfl rfl (hb hby d8_100)
  have F12 : Fld Z h12 o0 cn_0 "size" "I" (.int sz1) := Fld.same W12 f11
  have N12 := Fr.snoc X12 N9 geo
  obtain ⟨lc12, X12, N12⟩ := own_gen X12 N12
  have O12 := O9.wr W12 geo
  have K12 : Keep h0 h12 [o0, ar] := K9.wr W12 (Or.inl (List.mem_of_getElem? (i := 0) rfl))
  refine step st12 ?_
  show G T12 (mkF m 103 #[.val (.ref o0), .val (.long q1), .second, .unset, .unset] [])
  have f14 := (Exa.wr W12 f13)
  have f15 := (Fld.other W12 (Fld.other W9 Ft (Or.inl ne_o0_ar)) (Or.inr (slot_ne (Or.inl (ww50 hw)) (Or.inl (ww57 hw)) (by decide) (t := (.array .long)) (t' := .int) (by decide) (by decide))))
  have f16 := (Fld.other W12 (Fld.other W9 Fh (Or.inl ne_o0_ar)) (Or.inr (slot_ne (Or.inl (ww59 hw)) (Or.inl (ww57 hw)) (by decide) (t := .int) (t' := .int) (by decide) (by decide))))
  have f17 := (Arv.other V9 W12 (Ne.symm ne_o0_ar))
  exact ret (v := none) X12 (fun _ => rfl) (fun fs hr => X12.returnOut hx Bd.returns (hb hby d8_103) hr) e12 ⟨rfl, N12, K12, f14, f15, f16, F12, f17⟩ (by decide) (by decide)
abbrev rr_add_4_3 : Room := { frames := 0, cells := 0, slots := 0, locals := 0 }
theorem ef_add_4_3 (m : MethodId) (o0 : Addr) (q1 : Int64) : entryFrame m #[(.ref o0), (.long q1)] 5 = mkF m 0 #[.val (.ref o0), .val (.long q1), .second, .unset, .unset] [] := by first | (simp [entryFrame, mkF, argsToLocals, Value.category]; done) | rfl
def Q_add_4_3 (Z : State) (w_SLIDING : Addr) (w_CALENDAR : Addr) (w_SwitchMap_co : Addr) (o0 : Addr) (q1 : Int64) (ar : Addr) (ka : ClassId) (x0 : Int64) (x1 : Int64) (x2 : Int64) (x3 : Int64) (hd : Int32) (sz : Int32) (sz1 : Int32) (h0 : Heap) (n0 : Nat) (v : Option Value) (h : Heap) (L : List Loc) : Prop := v = none ∧ Fr n0 L ∧ Keep h0 h [o0, ar] ∧ Exa Z h o0 cn_0 ∧ Fld Z h o0 cn_0 "times" "[J" (.ref ar) ∧ Fld Z h o0 cn_0 "head" "I" (.int hd) ∧ Fld Z h o0 cn_0 "size" "I" (.int sz1) ∧ Arv Z h ar ka .long (4 : Int32) [(.long x0), (.long x1), (.long x2), (.long q1)] (.long 0)
set_option maxRecDepth 65536 in
set_option maxHeartbeats 40000000 in
theorem rm_add_4_3 (l : Launch) (Z : State) (a0 : Array Value) (hw : ∀ d ∈ tables_1, d.before a0 Z = true) (ws : List Jvm.Cond) (w_SLIDING : Addr) (w_CALENDAR : Addr) (w_SwitchMap_co : Addr) (o0 : Addr) (q1 : Int64) (ar : Addr) (ka : ClassId) (x0 : Int64) (x1 : Int64) (x2 : Int64) (x3 : Int64) (hd : Int32) (sz : Int32) (sz1 : Int32) (h0 : Heap) (n0 : Nat) (Z0 : n0 ≤ h0.size) (ST : own_St Z w_SLIDING w_CALENDAR w_SwitchMap_co) (O0 : Old Z n0 h0) (Ex : Exa Z h0 o0 cn_0) (geo : n0 ≤ o0) (Ft : Fld Z h0 o0 cn_0 "times" "[J" (.ref ar)) (gea : n0 ≤ ar) (Fh : Fld Z h0 o0 cn_0 "head" "I" (.int hd)) (Fs : Fld Z h0 o0 cn_0 "size" "I" (.int sz)) (Va : Arv Z h0 ar ka .long (4 : Int32) [(.long x0), (.long x1), (.long x2), (.long x3)] (.long 0)) (hne : ¬ (sz = (4 : Int32))) (hs1 : (sz + (1 : Int32)) = sz1) (hix : ((hd + sz) % (4 : Int32)) = (3 : Int32)) :
    MetFree l y_8 (head1 (Jvm.Cond.code y_8 prog_2_method_4_code 5 none :: ws) rr_add_4_3) (fun a U => a = #[(.ref o0), (.long q1)] ∧ Z.Warmed39 U.vm ∧ U.heap = h0) (fun _ _ _ _ _ => True) (fun _ U o U' => ∃ v L, o = .returned v ∧ Q_add_4_3 Z w_SLIDING w_CALENDAR w_SwitchMap_co o0 q1 ar ka x0 x1 x2 x3 hd sz sz1 h0 n0 v U'.heap L ∧ FrameEnd U o U' L rr_add_4_3.cells rr_add_4_3.slots) := by
  refine MetFree.of_bodySF (plainFor_of_name pn_3) hisR ?_
  intro p e s m args below meth c s₁ Bd hml0 hP hK
  obtain ⟨rfl, hZ, hh⟩ := hP
  have hx := Bd.exec
  have hby := Bd.bytes
  have hml : c.maxLocals = 5 := hml0
  have hown : s.vm.findClass cn_0 = some m.cls := findClass_of_methodNamed Bd.named
  have hnm := (name_of_methodNamed Bd.named Bd.method).1
  have X0 : Stand p l e rr_add_4_3 s m #[(.ref o0), (.long q1)] below meth c s₁ [] 0 0 := Stand.of_body Bd
  have e0 : s₁.heap = h0 := by rw [← hh, Bd.state]; rfl
  have N0 := Fr.nil n0
  have K0 : Keep h0 h0 [o0, ar] := Keep.refl _ _
  obtain ⟨G, step, ret, fin⟩ := own_open (p := p) (l := l) (e := e) (R := rr_add_4_3) (s := s) (m := m) (args := #[(.ref o0), (.long q1)]) (below := below) (meth := meth) (c := c) (rr_add_4_3.cells) (rr_add_4_3.slots) (Q_add_4_3 Z w_SLIDING w_CALENDAR w_SwitchMap_co o0 q1 ar ka x0 x1 x2 x3 hd sz sz1 h0 n0) Bd.notSynchronized
  refine fin (g := entryFrame m #[(.ref o0), (.long q1)] 5) ?_
  rw [ef_add_4_3 m o0 q1]
  have ne_o0_ar : o0 ≠ ar := own_ne_arv Ex (ww43 hw) Va
  show G s₁ (mkF m 0 #[.val (.ref o0), .val (.long q1), .second, .unset, .unset] [])
  refine step (fun t k => XS.aloadN X0.here hx rfl (hb hby d8_0) rfl rfl k) ?_
  show G s₁ (mkF m 1 #[.val (.ref o0), .val (.long q1), .second, .unset, .unset] [(.ref o0)])
  obtain ⟨T1, X1, e1, st1⟩ := getF X0 hx hZ hown (host := "") (Or.inl (ww56 hw)) Via.refl e0 Fs (g := (mkF m 1 #[.val (.ref o0), .val (.long q1), .second, .unset, .unset] [(.ref o0)])) rfl rfl (hb hby d8_1)
  refine step st1 ?_
  show G T1 (mkF m 4 #[.val (.ref o0), .val (.long q1), .second, .unset, .unset] [(.int sz)])
  refine step (fun t k => XS.aloadN X1.here hx rfl (hb hby d8_4) rfl rfl k) ?_
  show G T1 (mkF m 5 #[.val (.ref o0), .val (.long q1), .second, .unset, .unset] [(.ref o0), (.int sz)])
  obtain ⟨T2, X2, e2, st2⟩ := getF X1 hx hZ hown (host := "") (Or.inl (ww49 hw)) Via.refl e1 Ft (g := (mkF m 5 #[.val (.ref o0), .val (.long q1), .second, .unset, .unset] [(.ref o0), (.int sz)])) rfl rfl (hb hby d8_5)
  refine step st2 ?_
  show G T2 (mkF m 8 #[.val (.ref o0), .val (.long q1), .second, .unset, .unset] [(.ref ar), (.int sz)])
  have q3 := own_len X2 hx hZ e2 Va (g := (mkF m 8 #[.val (.ref o0), .val (.long q1), .second, .unset, .unset] [(.ref ar), (.int sz)])) rfl rfl (hb hby d8_8)
  refine step q3 ?_
  show G T2 (mkF m 9 #[.val (.ref o0), .val (.long q1), .second, .unset, .unset] [(.int 4), (.int sz)])
  refine step (fun t k => XS.icmpYes X2.here hx rfl (pc0 := 9) (pc' := 72) rfl (hb hby d8_9) rfl (feq hne).2 (by decide) (by decide) k) ?_
  show G T2 (mkF m 72 #[.val (.ref o0), .val (.long q1), .second, .unset, .unset] [])
  refine step (fun t k => XS.aloadN X2.here hx rfl (hb hby d8_72) rfl rfl k) ?_
  show G T2 (mkF m 73 #[.val (.ref o0), .val (.long q1), .second, .unset, .unset] [(.ref o0)])
  obtain ⟨T4, X4, e4, st4⟩ := getF X2 hx hZ hown (host := "") (Or.inl (ww49 hw)) Via.refl e2 Ft (g := (mkF m 73 #[.val (.ref o0), .val (.long q1), .second, .unset, .unset] [(.ref o0)])) rfl rfl (hb hby d8_73)
  refine step st4 ?_
  show G T4 (mkF m 76 #[.val (.ref o0), .val (.long q1), .second, .unset, .unset] [(.ref ar)])
  refine step (fun t k => XS.aloadN X4.here hx rfl (hb hby d8_76) rfl rfl k) ?_
  show G T4 (mkF m 77 #[.val (.ref o0), .val (.long q1), .second, .unset, .unset] [(.ref o0), (.ref ar)])
  obtain ⟨T5, X5, e5, st5⟩ := getF X4 hx hZ hown (host := "") (Or.inl (ww58 hw)) Via.refl e4 Fh (g := (mkF m 77 #[.val (.ref o0), .val (.long q1), .second, .unset, .unset] [(.ref o0), (.ref ar)])) rfl rfl (hb hby d8_77)
  refine step st5 ?_
  show G T5 (mkF m 80 #[.val (.ref o0), .val (.long q1), .second, .unset, .unset] [(.int hd), (.ref ar)])
  refine step (fun t k => XS.aloadN X5.here hx rfl (hb hby d8_80) rfl rfl k) ?_
  show G T5 (mkF m 81 #[.val (.ref o0), .val (.long q1), .second, .unset, .unset] [(.ref o0), (.int hd), (.ref ar)])
  obtain ⟨T6, X6, e6, st6⟩ := getF X5 hx hZ hown (host := "") (Or.inl (ww56 hw)) Via.refl e5 Fs (g := (mkF m 81 #[.val (.ref o0), .val (.long q1), .second, .unset, .unset] [(.ref o0), (.int hd), (.ref ar)])) rfl rfl (hb hby d8_81)
  refine step st6 ?_
  show G T6 (mkF m 84 #[.val (.ref o0), .val (.long q1), .second, .unset, .unset] [(.int sz), (.int hd), (.ref ar)])
  refine step (fun t k => XS.iadd X6.here hx rfl (hb hby d8_84) rfl k) ?_
  show G T6 (mkF m 85 #[.val (.ref o0), .val (.long q1), .second, .unset, .unset] [(.int (hd + sz)), (.ref ar)])
  refine step (fun t k => XS.aloadN X6.here hx rfl (hb hby d8_85) rfl rfl k) ?_
  show G T6 (mkF m 86 #[.val (.ref o0), .val (.long q1), .second, .unset, .unset] [(.ref o0), (.int (hd + sz)), (.ref ar)])
  obtain ⟨T7, X7, e7, st7⟩ := getF X6 hx hZ hown (host := "") (Or.inl (ww49 hw)) Via.refl e6 Ft (g := (mkF m 86 #[.val (.ref o0), .val (.long q1), .second, .unset, .unset] [(.ref o0), (.int (hd + sz)), (.ref ar)])) rfl rfl (hb hby d8_86)
  refine step st7 ?_
  show G T7 (mkF m 89 #[.val (.ref o0), .val (.long q1), .second, .unset, .unset] [(.ref ar), (.int (hd + sz)), (.ref ar)])
  have q8 := own_len X7 hx hZ e7 Va (g := (mkF m 89 #[.val (.ref o0), .val (.long q1), .second, .unset, .unset] [(.ref ar), (.int (hd + sz)), (.ref ar)])) rfl rfl (hb hby d8_89)
  refine step q8 ?_
  show G T7 (mkF m 90 #[.val (.ref o0), .val (.long q1), .second, .unset, .unset] [(.int 4), (.int (hd + sz)), (.ref ar)])
  refine step (fun t k => iremM X7 hx rfl (hb hby d8_90) rfl (by decide) k) ?_
  show G T7 (mkF m 91 #[.val (.ref o0), .val (.long q1), .second, .unset, .unset] [(.int ((hd + sz) % (4 : Int32))), (.ref ar)])
  rw [hix]
  show G T7 (mkF m 91 #[.val (.ref o0), .val (.long q1), .second, .unset, .unset] [(.int 3), (.ref ar)])
  refine step (fun t k => XS.lloadN X7.here hx rfl (hb hby d8_91) rfl k) ?_
  show G T7 (mkF m 92 #[.val (.ref o0), .val (.long q1), .second, .unset, .unset] [(.long q1), (.int 3), (.ref ar)])
  obtain ⟨T9, h9, X9, e9, W9, V9, st9⟩ := own_stJ X7 hx hZ e7 Va (j := (3 : Int32)) (by decide) (i := 3) rfl (by show 3 < 4; decide) (g := (mkF m 92 #[.val (.ref o0), .val (.long q1), .second, .unset, .unset] [(.long q1), (.int 3), (.ref ar)])) rfl rfl (hb hby d8_92)
  replace V9 : Arv Z h9 ar ka .long (4 : Int32) [(.long x0), (.long x1), (.long x2), (.long q1)] (.long 0) := V9
  have N9 := Fr.snoc X9 N0 gea
  obtain ⟨lc9, X9, N9⟩ := own_gen X9 N9
  have O9 := O0.wr W9 gea
  have K9 : Keep h0 h9 [o0, ar] := K0.wr W9 (Or.inl (List.mem_of_getElem? (i := 1) rfl))
  refine step st9 ?_
  show G T9 (mkF m 93 #[.val (.ref o0), .val (.long q1), .second, .unset, .unset] [])
  refine step (fun t k => XS.aloadN X9.here hx rfl (hb hby d8_93) rfl rfl k) ?_
  show G T9 (mkF m 94 #[.val (.ref o0), .val (.long q1), .second, .unset, .unset] [(.ref o0)])
  refine step (fun t k => XS.dup X9.here hx rfl (hb hby d8_94) rfl rfl k) ?_
  show G T9 (mkF m 95 #[.val (.ref o0), .val (.long q1), .second, .unset, .unset] [(.ref o0), (.ref o0)])
  have f11 := (Fld.other W9 Fs (Or.inl ne_o0_ar))
  obtain ⟨T10, X10, e10, st10⟩ := getF X9 hx hZ hown (host := "") (Or.inl (ww56 hw)) Via.refl e9 f11 (g := (mkF m 95 #[.val (.ref o0), .val (.long q1), .second, .unset, .unset] [(.ref o0), (.ref o0)])) rfl rfl (hb hby d8_95)
  refine step st10 ?_
  show G T10 (mkF m 98 #[.val (.ref o0), .val (.long q1), .second, .unset, .unset] [(.int sz), (.ref o0)])
  refine step (fun t k => XS.iconst X10.here hx rfl (hb hby d8_98) k) ?_
  show G T10 (mkF m 99 #[.val (.ref o0), .val (.long q1), .second, .unset, .unset] [(.int 1), (.int sz), (.ref o0)])
  refine step (fun t k => XS.iadd X10.here hx rfl (hb hby d8_99) rfl k) ?_
  show G T10 (mkF m 100 #[.val (.ref o0), .val (.long q1), .second, .unset, .unset] [(.int (sz + (1 : Int32))), (.ref o0)])
  rw [hs1]
  show G T10 (mkF m 100 #[.val (.ref o0), .val (.long q1), .second, .unset, .unset] [(.int sz1), (.ref o0)])
  have f13 := (Exa.wr W9 Ex)
  obtain ⟨T12, h12, X12, e12, W12, st12⟩ := putF X10 hx hZ hown (host := "") (Or.inl (ww56 hw)) Via.refl e10 f11 f13 (Or.inl (ww57 hw)) (ww43 hw) (ty := .int) (by decide) rfl rfl (g := (mkF m 100 #[.val (.ref o0), .val (.long q1), .second, .unset, .unset] [(.int sz1), (.ref o0)])) rfl rfl (hb hby d8_100)
  have F12 : Fld Z h12 o0 cn_0 "size" "I" (.int sz1) := Fld.same W12 f11
  have N12 := Fr.snoc X12 N9 geo
  obtain ⟨lc12, X12, N12⟩ := own_gen X12 N12
  have O12 := O9.wr W12 geo
  have K12 : Keep h0 h12 [o0, ar] := K9.wr W12 (Or.inl (List.mem_of_getElem? (i := 0) rfl))
  refine step st12 ?_
  show G T12 (mkF m 103 #[.val (.ref o0), .val (.long q1), .second, .unset, .unset] [])
  have f14 := (Exa.wr W12 f13)
  have f15 := (Fld.other W12 (Fld.other W9 Ft (Or.inl ne_o0_ar)) (Or.inr (slot_ne (Or.inl (ww50 hw)) (Or.inl (ww57 hw)) (by decide) (t := (.array .long)) (t' := .int) (by decide) (by decide))))
  have f16 := (Fld.other W12 (Fld.other W9 Fh (Or.inl ne_o0_ar)) (Or.inr (slot_ne (Or.inl (ww59 hw)) (Or.inl (ww57 hw)) (by decide) (t := .int) (t' := .int) (by decide) (by decide))))
  have f17 := (Arv.other V9 W12 (Ne.symm ne_o0_ar))
  exact ret (v := none) X12 (fun _ => rfl) (fun fs hr => X12.returnOut hx Bd.returns (hb hby d8_103) hr) e12 ⟨rfl, N12, K12, f14, f15, f16, F12, f17⟩ (by decide) (by decide)
theorem ww60 {Z : State} {a0 : Array Value} (hw : ∀ d ∈ tables_1, d.before a0 Z = true) : Jvm.Cond.before (Jvm.Cond.methodLink cn_4 (21 : Nat) ({ cls := cn_0, name := "countAt", desc := cn_6 } : Jvm.MethodName)) a0 Z = true := hw _ (List.mem_of_getElem? (i := 60) rfl)
theorem ww63 {Z : State} {a0 : Array Value} (hw : ∀ d ∈ tables_1, d.before a0 Z = true) : Jvm.Cond.before (Jvm.Cond.selects cn_0 ({ cls := cn_0, name := "countAt", desc := cn_6 } : Jvm.MethodName) ({ cls := cn_0, name := "countAt", desc := cn_6 } : Jvm.MethodName)) a0 Z = true := hw _ (List.mem_of_getElem? (i := 63) rfl)
theorem d9_0 : decode prog_2_method_5_code 0 = .ok (.aload_n 0, 1) := by decide +kernel
theorem d9_1 : decode prog_2_method_5_code 1 = .ok (.getfield 43, 3) := by decide +kernel
theorem d9_4 : decode prog_2_method_5_code 4 = .ok (.ifCond .le 46, 3) := by decide +kernel
theorem d9_7 : decode prog_2_method_5_code 7 = .ok (.aload_n 0, 1) := by decide +kernel
theorem d9_8 : decode prog_2_method_5_code 8 = .ok (.getfield 7, 3) := by decide +kernel
theorem d9_11 : decode prog_2_method_5_code 11 = .ok (.aload_n 0, 1) := by decide +kernel
theorem d9_12 : decode prog_2_method_5_code 12 = .ok (.getfield 47, 3) := by decide +kernel
theorem d9_15 : decode prog_2_method_5_code 15 = .ok (.laload, 1) := by decide +kernel
theorem d9_16 : decode prog_2_method_5_code 16 = .ok (.lload_n 1, 1) := by decide +kernel
theorem d9_17 : decode prog_2_method_5_code 17 = .ok (.lcmp, 1) := by decide +kernel
theorem d9_18 : decode prog_2_method_5_code 18 = .ok (.ifCond .gt 32, 3) := by decide +kernel
theorem d9_50 : decode prog_2_method_5_code 50 = .ok (.return_, 1) := by decide +kernel
abbrev rr_for0_4 : Room := { frames := 0, cells := 0, slots := 0, locals := 0 }
abbrev y_9 : MethodName := ⟨cn_0, "forgetThrough", "(J)V"⟩
theorem ef_for0_4 (m : MethodId) (o0 : Addr) (q1 : Int64) : entryFrame m #[(.ref o0), (.long q1)] 3 = mkF m 0 #[.val (.ref o0), .val (.long q1), .second] [] := by first | (simp [entryFrame, mkF, argsToLocals, Value.category]; done) | rfl
def Q_for0_4 (Z : State) (w_SLIDING : Addr) (w_CALENDAR : Addr) (w_SwitchMap_co : Addr) (o0 : Addr) (q1 : Int64) (ar : Addr) (ka : ClassId) (x0 : Int64) (x1 : Int64) (x2 : Int64) (x3 : Int64) (hd : Int32) (sz : Int32) (h0 : Heap) (n0 : Nat) (v : Option Value) (h : Heap) (L : List Loc) : Prop := v = none ∧ Fr n0 L ∧ Keep h0 h [o0] ∧ Exa Z h o0 cn_0 ∧ Fld Z h o0 cn_0 "times" "[J" (.ref ar) ∧ Fld Z h o0 cn_0 "head" "I" (.int hd) ∧ Fld Z h o0 cn_0 "size" "I" (.int sz)
set_option maxRecDepth 65536 in
set_option maxHeartbeats 40000000 in
theorem rm_for0_4 (l : Launch) (Z : State) (a0 : Array Value) (hw : ∀ d ∈ tables_1, d.before a0 Z = true) (ws : List Jvm.Cond) (w_SLIDING : Addr) (w_CALENDAR : Addr) (w_SwitchMap_co : Addr) (o0 : Addr) (q1 : Int64) (ar : Addr) (ka : ClassId) (x0 : Int64) (x1 : Int64) (x2 : Int64) (x3 : Int64) (hd : Int32) (sz : Int32) (h0 : Heap) (n0 : Nat) (Z0 : n0 ≤ h0.size) (ST : own_St Z w_SLIDING w_CALENDAR w_SwitchMap_co) (O0 : Old Z n0 h0) (Ex : Exa Z h0 o0 cn_0) (geo : n0 ≤ o0) (Ft : Fld Z h0 o0 cn_0 "times" "[J" (.ref ar)) (gea : n0 ≤ ar) (Fh : Fld Z h0 o0 cn_0 "head" "I" (.int hd)) (Fs : Fld Z h0 o0 cn_0 "size" "I" (.int sz)) (Va : Arv Z h0 ar ka .long (4 : Int32) [(.long x0), (.long x1), (.long x2), (.long x3)] (.long 0)) (hs0 : (0 : Int32) < sz) (hin : ¬ hd < 0 ∧ hd < (4 : Int32)) (hlt : q1 < (own_at4 x0 x1 x2 x3 hd)) :
    MetFree l y_9 (head1 (Jvm.Cond.code y_9 prog_2_method_5_code 3 none :: ws) rr_for0_4) (fun a U => a = #[(.ref o0), (.long q1)] ∧ Z.Warmed39 U.vm ∧ U.heap = h0) (fun _ _ _ _ _ => True) (fun _ U o U' => ∃ v L, o = .returned v ∧ Q_for0_4 Z w_SLIDING w_CALENDAR w_SwitchMap_co o0 q1 ar ka x0 x1 x2 x3 hd sz h0 n0 v U'.heap L ∧ FrameEnd U o U' L rr_for0_4.cells rr_for0_4.slots) := by
  refine MetFree.of_bodySF (plainFor_of_name pn_3) hisR ?_
  intro p e s m args below meth c s₁ Bd hml0 hP hK
  obtain ⟨rfl, hZ, hh⟩ := hP
  have hx := Bd.exec
  have hby := Bd.bytes
  have hml : c.maxLocals = 3 := hml0
  have hown : s.vm.findClass cn_0 = some m.cls := findClass_of_methodNamed Bd.named
  have hnm := (name_of_methodNamed Bd.named Bd.method).1
  have X0 : Stand p l e rr_for0_4 s m #[(.ref o0), (.long q1)] below meth c s₁ [] 0 0 := Stand.of_body Bd
  have e0 : s₁.heap = h0 := by rw [← hh, Bd.state]; rfl
  have N0 := Fr.nil n0
  have K0 : Keep h0 h0 [o0] := Keep.refl _ _
  obtain ⟨G, step, ret, fin⟩ := own_open (p := p) (l := l) (e := e) (R := rr_for0_4) (s := s) (m := m) (args := #[(.ref o0), (.long q1)]) (below := below) (meth := meth) (c := c) (rr_for0_4.cells) (rr_for0_4.slots) (Q_for0_4 Z w_SLIDING w_CALENDAR w_SwitchMap_co o0 q1 ar ka x0 x1 x2 x3 hd sz h0 n0) Bd.notSynchronized
  refine fin (g := entryFrame m #[(.ref o0), (.long q1)] 3) ?_
  rw [ef_for0_4 m o0 q1]
  have ne_o0_ar : o0 ≠ ar := own_ne_arv Ex (ww43 hw) Va
  show G s₁ (mkF m 0 #[.val (.ref o0), .val (.long q1), .second] [])
  refine step (fun t k => XS.aloadN X0.here hx rfl (hb hby d9_0) rfl rfl k) ?_
  show G s₁ (mkF m 1 #[.val (.ref o0), .val (.long q1), .second] [(.ref o0)])
  obtain ⟨T1, X1, e1, st1⟩ := getF X0 hx hZ hown (host := "") (Or.inl (ww56 hw)) Via.refl e0 Fs (g := (mkF m 1 #[.val (.ref o0), .val (.long q1), .second] [(.ref o0)])) rfl rfl (hb hby d9_1)
  refine step st1 ?_
  show G T1 (mkF m 4 #[.val (.ref o0), .val (.long q1), .second] [(.int sz)])
  refine step (fun t k => XS.ifNo X1.here hx rfl (hb hby d9_4) rfl ((if0 _ _).trans (tlt hs0).2.2.2) k) ?_
  show G T1 (mkF m 7 #[.val (.ref o0), .val (.long q1), .second] [])
  refine step (fun t k => XS.aloadN X1.here hx rfl (hb hby d9_7) rfl rfl k) ?_
  show G T1 (mkF m 8 #[.val (.ref o0), .val (.long q1), .second] [(.ref o0)])
  obtain ⟨T2, X2, e2, st2⟩ := getF X1 hx hZ hown (host := "") (Or.inl (ww49 hw)) Via.refl e1 Ft (g := (mkF m 8 #[.val (.ref o0), .val (.long q1), .second] [(.ref o0)])) rfl rfl (hb hby d9_8)
  refine step st2 ?_
  show G T2 (mkF m 11 #[.val (.ref o0), .val (.long q1), .second] [(.ref ar)])
  refine step (fun t k => XS.aloadN X2.here hx rfl (hb hby d9_11) rfl rfl k) ?_
  show G T2 (mkF m 12 #[.val (.ref o0), .val (.long q1), .second] [(.ref o0), (.ref ar)])
  obtain ⟨T3, X3, e3, st3⟩ := getF X2 hx hZ hown (host := "") (Or.inl (ww58 hw)) Via.refl e2 Fh (g := (mkF m 12 #[.val (.ref o0), .val (.long q1), .second] [(.ref o0), (.ref ar)])) rfl rfl (hb hby d9_12)
  refine step st3 ?_
  show G T3 (mkF m 15 #[.val (.ref o0), .val (.long q1), .second] [(.int hd), (.ref ar)])
  have q4 := own_ldJ X3 hx hZ e3 Va (j := hd) (v := .long (own_at4 x0 x1 x2 x3 hd)) hin (own_get4 hin) (g := (mkF m 15 #[.val (.ref o0), .val (.long q1), .second] [(.int hd), (.ref ar)])) rfl rfl (hb hby d9_15)
  refine step q4 ?_
  show G T3 (mkF m 16 #[.val (.ref o0), .val (.long q1), .second] [(.long (own_at4 x0 x1 x2 x3 hd))])
  refine step (fun t k => XS.lloadN X3.here hx rfl (hb hby d9_16) rfl k) ?_
  show G T3 (mkF m 17 #[.val (.ref o0), .val (.long q1), .second] [(.long q1), (.long (own_at4 x0 x1 x2 x3 hd))])
  refine step (fun t k => XS.lcmp X3.here hx rfl (hb hby d9_17) rfl k) ?_
  show G T3 (mkF m 18 #[.val (.ref o0), .val (.long q1), .second] [(.int (lcmpW (own_at4 x0 x1 x2 x3 hd) q1))])
  refine step (fun t k => XS.ifYes X3.here hx rfl (pc0 := 18) (pc' := 50) rfl (hb hby d9_18) rfl ((if0 _ _).trans (tlt ((lw_gt _ _).mpr hlt)).2.2.1) (by decide) (by decide) k) ?_
  show G T3 (mkF m 50 #[.val (.ref o0), .val (.long q1), .second] [])
  exact ret (v := none) X3 (fun _ => rfl) (fun fs hr => X3.returnOut hx Bd.returns (hb hby d9_50) hr) e3 ⟨rfl, N0, K0, Ex, Ft, Fh, Fs⟩ (by decide) (by decide)
abbrev y_10 : MethodName := ⟨cn_2, "ordinal", "()I"⟩
theorem d10_0 : decode prog_2_method_2_code 0 = .ok (.getstatic 13, 3) := by decide +kernel
theorem ww65 {Z : State} {a0 : Array Value} (hw : ∀ d ∈ tables_1, d.before a0 Z = true) : Jvm.Cond.before (Jvm.Cond.fieldLink cn_0 (13 : Nat) cn_10 "$SwitchMap$com$example$tempogate$tempogate$rules$Window$Type" "[I") a0 Z = true := hw _ (List.mem_of_getElem? (i := 65) rfl)
theorem d10_3 : decode prog_2_method_2_code 3 = .ok (.aload_n 1, 1) := by decide +kernel
theorem d10_4 : decode prog_2_method_2_code 4 = .ok (.invokevirtual 19, 3) := by decide +kernel
theorem ww68 {Z : State} {a0 : Array Value} (hw : ∀ d ∈ tables_1, d.before a0 Z = true) : Jvm.Cond.before (Jvm.Cond.methodLink cn_0 (19 : Nat) ({ cls := cn_1, name := "type", desc := cn_5 } : Jvm.MethodName)) a0 Z = true := hw _ (List.mem_of_getElem? (i := 68) rfl)
theorem ww71 {Z : State} {a0 : Array Value} (hw : ∀ d ∈ tables_1, d.before a0 Z = true) : Jvm.Cond.before (Jvm.Cond.selects cn_1 ({ cls := cn_1, name := "type", desc := cn_5 } : Jvm.MethodName) ({ cls := cn_1, name := "type", desc := cn_5 } : Jvm.MethodName)) a0 Z = true := hw _ (List.mem_of_getElem? (i := 71) rfl)
theorem ww72 {Z : State} {a0 : Array Value} (hw : ∀ d ∈ tables_1, d.before a0 Z = true) : Jvm.Cond.before (Jvm.Cond.code ({ cls := cn_1, name := "type", desc := cn_5 } : Jvm.MethodName) prog_21_method_7_code (1 : Nat) (Option.some (Jvm.ClassFile.FieldType.object cn_2))) a0 Z = true := hw _ (List.mem_of_getElem? (i := 72) rfl)
theorem pd_5 : parseMethodDescriptor cn_5 = some ⟨[], some (.object cn_2)⟩ := by decide +kernel
theorem ww69 {Z : State} {a0 : Array Value} (hw : ∀ d ∈ tables_1, d.before a0 Z = true) : Jvm.Cond.before (Jvm.Cond.declares ({ cls := cn_1, name := "type", desc := cn_5 } : Jvm.MethodName)) a0 Z = true := hw _ (List.mem_of_getElem? (i := 69) rfl)
theorem ww70 {Z : State} {a0 : Array Value} (hw : ∀ d ∈ tables_1, d.before a0 Z = true) : Jvm.Cond.before (Jvm.Cond.instanceMethod ({ cls := cn_1, name := "type", desc := cn_5 } : Jvm.MethodName)) a0 Z = true := hw _ (List.mem_of_getElem? (i := 70) rfl)
theorem d10_7 : decode prog_2_method_2_code 7 = .ok (.invokevirtual 25, 3) := by decide +kernel
theorem ww73 {Z : State} {a0 : Array Value} (hw : ∀ d ∈ tables_1, d.before a0 Z = true) : Jvm.Cond.before (Jvm.Cond.methodLink cn_0 (25 : Nat) ({ cls := cn_2, name := "ordinal", desc := "()I" } : Jvm.MethodName)) a0 Z = true := hw _ (List.mem_of_getElem? (i := 73) rfl)
theorem ww77 {Z : State} {a0 : Array Value} (hw : ∀ d ∈ tables_1, d.before a0 Z = true) : Jvm.Cond.before (Jvm.Cond.selects cn_2 ({ cls := cn_2, name := "ordinal", desc := "()I" } : Jvm.MethodName) ({ cls := cn_7, name := "ordinal", desc := "()I" } : Jvm.MethodName)) a0 Z = true := hw _ (List.mem_of_getElem? (i := 77) rfl)
theorem ww79 {Z : State} {a0 : Array Value} (hw : ∀ d ∈ tables_1, d.before a0 Z = true) : Jvm.Cond.before (Jvm.Cond.code ({ cls := cn_7, name := "ordinal", desc := "()I" } : Jvm.MethodName) jdk_37_method_2_code (1 : Nat) (Option.some Jvm.ClassFile.FieldType.int)) a0 Z = true := hw _ (List.mem_of_getElem? (i := 79) rfl)
theorem ww78 {Z : State} {a0 : Array Value} (hw : ∀ d ∈ tables_1, d.before a0 Z = true) : Jvm.Cond.before (Jvm.Cond.initialized cn_7) a0 Z = true := hw _ (List.mem_of_getElem? (i := 78) rfl)
theorem pd_6 : parseMethodDescriptor "()I" = some ⟨[], some .int⟩ := by decide +kernel
theorem ww74 {Z : State} {a0 : Array Value} (hw : ∀ d ∈ tables_1, d.before a0 Z = true) : Jvm.Cond.before (Jvm.Cond.sameMethod cn_2 cn_7 "ordinal" "()I") a0 Z = true := hw _ (List.mem_of_getElem? (i := 74) rfl)
theorem ww75 {Z : State} {a0 : Array Value} (hw : ∀ d ∈ tables_1, d.before a0 Z = true) : Jvm.Cond.before (Jvm.Cond.declares ({ cls := cn_7, name := "ordinal", desc := "()I" } : Jvm.MethodName)) a0 Z = true := hw _ (List.mem_of_getElem? (i := 75) rfl)
theorem ww76 {Z : State} {a0 : Array Value} (hw : ∀ d ∈ tables_1, d.before a0 Z = true) : Jvm.Cond.before (Jvm.Cond.instanceMethod ({ cls := cn_7, name := "ordinal", desc := "()I" } : Jvm.MethodName)) a0 Z = true := hw _ (List.mem_of_getElem? (i := 76) rfl)
theorem d10_10 : decode prog_2_method_2_code 10 = .ok (.iaload, 1) := by decide +kernel
theorem d10_11 : decode prog_2_method_2_code 11 = .ok (.tableswitch 101 1 3 #[25, 38, 52], 25) := by decide +kernel
theorem d10_36 : decode prog_2_method_2_code 36 = .ok (.aload_n 0, 1) := by decide +kernel
theorem d10_37 : decode prog_2_method_2_code 37 = .ok (.lload_n 2, 1) := by decide +kernel
theorem d10_38 : decode prog_2_method_2_code 38 = .ok (.aload_n 1, 1) := by decide +kernel
theorem d10_39 : decode prog_2_method_2_code 39 = .ok (.invokevirtual 31, 3) := by decide +kernel
theorem ww82 {Z : State} {a0 : Array Value} (hw : ∀ d ∈ tables_1, d.before a0 Z = true) : Jvm.Cond.before (Jvm.Cond.methodLink cn_0 (31 : Nat) ({ cls := cn_1, name := "millis", desc := "()J" } : Jvm.MethodName)) a0 Z = true := hw _ (List.mem_of_getElem? (i := 82) rfl)
theorem ww85 {Z : State} {a0 : Array Value} (hw : ∀ d ∈ tables_1, d.before a0 Z = true) : Jvm.Cond.before (Jvm.Cond.selects cn_1 ({ cls := cn_1, name := "millis", desc := "()J" } : Jvm.MethodName) ({ cls := cn_1, name := "millis", desc := "()J" } : Jvm.MethodName)) a0 Z = true := hw _ (List.mem_of_getElem? (i := 85) rfl)
theorem ww86 {Z : State} {a0 : Array Value} (hw : ∀ d ∈ tables_1, d.before a0 Z = true) : Jvm.Cond.before (Jvm.Cond.code ({ cls := cn_1, name := "millis", desc := "()J" } : Jvm.MethodName) prog_21_method_8_code (1 : Nat) (Option.some Jvm.ClassFile.FieldType.long)) a0 Z = true := hw _ (List.mem_of_getElem? (i := 86) rfl)
theorem pd_7 : parseMethodDescriptor "()J" = some ⟨[], some .long⟩ := by decide +kernel
theorem ww83 {Z : State} {a0 : Array Value} (hw : ∀ d ∈ tables_1, d.before a0 Z = true) : Jvm.Cond.before (Jvm.Cond.declares ({ cls := cn_1, name := "millis", desc := "()J" } : Jvm.MethodName)) a0 Z = true := hw _ (List.mem_of_getElem? (i := 83) rfl)
theorem ww84 {Z : State} {a0 : Array Value} (hw : ∀ d ∈ tables_1, d.before a0 Z = true) : Jvm.Cond.before (Jvm.Cond.instanceMethod ({ cls := cn_1, name := "millis", desc := "()J" } : Jvm.MethodName)) a0 Z = true := hw _ (List.mem_of_getElem? (i := 84) rfl)
theorem d10_42 : decode prog_2_method_2_code 42 = .ok (.lsub, 1) := by decide +kernel
theorem d10_43 : decode prog_2_method_2_code 43 = .ok (.invokevirtual 35, 3) := by decide +kernel
theorem ww87 {Z : State} {a0 : Array Value} (hw : ∀ d ∈ tables_1, d.before a0 Z = true) : Jvm.Cond.before (Jvm.Cond.methodLink cn_0 (35 : Nat) ({ cls := cn_0, name := "forgetThrough", desc := "(J)V" } : Jvm.MethodName)) a0 Z = true := hw _ (List.mem_of_getElem? (i := 87) rfl)
theorem ww90 {Z : State} {a0 : Array Value} (hw : ∀ d ∈ tables_1, d.before a0 Z = true) : Jvm.Cond.before (Jvm.Cond.code ({ cls := cn_0, name := "forgetThrough", desc := "(J)V" } : Jvm.MethodName) prog_2_method_5_code (3 : Nat) (Option.none : Option Jvm.ClassFile.FieldType)) a0 Z = true := hw _ (List.mem_of_getElem? (i := 90) rfl)
theorem ww88 {Z : State} {a0 : Array Value} (hw : ∀ d ∈ tables_1, d.before a0 Z = true) : Jvm.Cond.before (Jvm.Cond.instanceMethod ({ cls := cn_0, name := "forgetThrough", desc := "(J)V" } : Jvm.MethodName)) a0 Z = true := hw _ (List.mem_of_getElem? (i := 88) rfl)
theorem ww89 {Z : State} {a0 : Array Value} (hw : ∀ d ∈ tables_1, d.before a0 Z = true) : Jvm.Cond.before (Jvm.Cond.privateMethod ({ cls := cn_0, name := "forgetThrough", desc := "(J)V" } : Jvm.MethodName)) a0 Z = true := hw _ (List.mem_of_getElem? (i := 89) rfl)
theorem d10_46 : decode prog_2_method_2_code 46 = .ok (.goto 86, 3) := by decide +kernel
theorem d10_132 : decode prog_2_method_2_code 132 = .ok (.aload_n 0, 1) := by decide +kernel
theorem d10_133 : decode prog_2_method_2_code 133 = .ok (.getfield 43, 3) := by decide +kernel
theorem d10_136 : decode prog_2_method_2_code 136 = .ok (.ireturn, 1) := by decide +kernel
abbrev rr_cnt0_4 : Room := { frames := 1, cells := 0, slots := 0, locals := 15 }
abbrev y_11 : MethodName := ⟨cn_0, "countAt", cn_6⟩
theorem ef_cnt0_4 (m : MethodId) (o0 : Addr) (o1 : Addr) (q2 : Int64) : entryFrame m #[(.ref o0), (.ref o1), (.long q2)] 4 = mkF m 0 #[.val (.ref o0), .val (.ref o1), .val (.long q2), .second] [] := by first | (simp [entryFrame, mkF, argsToLocals, Value.category]; done) | rfl
def Q_cnt0_4 (Z : State) (w_SLIDING : Addr) (w_CALENDAR : Addr) (w_SwitchMap_co : Addr) (o0 : Addr) (o1 : Addr) (q2 : Int64) (ar : Addr) (ka : ClassId) (x0 : Int64) (x1 : Int64) (x2 : Int64) (x3 : Int64) (hd : Int32) (sz : Int32) (mm : Int64) (h0 : Heap) (n0 : Nat) (v : Option Value) (h : Heap) (L : List Loc) : Prop := v = some (.int sz) ∧ Fr n0 L ∧ Keep h0 h [o0] ∧ Exa Z h o0 cn_0 ∧ Fld Z h o0 cn_0 "times" "[J" (.ref ar) ∧ Fld Z h o0 cn_0 "head" "I" (.int hd) ∧ Fld Z h o0 cn_0 "size" "I" (.int sz)
set_option maxRecDepth 65536 in
set_option maxHeartbeats 40000000 in
theorem rm_cnt0_4 (l : Launch) (Z : State) (a0 : Array Value) (hw : ∀ d ∈ tables_1, d.before a0 Z = true) (ws : List Jvm.Cond) (w_SLIDING : Addr) (w_CALENDAR : Addr) (w_SwitchMap_co : Addr) (o0 : Addr) (o1 : Addr) (q2 : Int64) (ar : Addr) (ka : ClassId) (x0 : Int64) (x1 : Int64) (x2 : Int64) (x3 : Int64) (hd : Int32) (sz : Int32) (mm : Int64) (h0 : Heap) (n0 : Nat) (Z0 : n0 ≤ h0.size) (ST : own_St Z w_SLIDING w_CALENDAR w_SwitchMap_co) (O0 : Old Z n0 h0) (Ex : Exa Z h0 o0 cn_0) (geo : n0 ≤ o0) (Ft : Fld Z h0 o0 cn_0 "times" "[J" (.ref ar)) (gea : n0 ≤ ar) (Fh : Fld Z h0 o0 cn_0 "head" "I" (.int hd)) (Fs : Fld Z h0 o0 cn_0 "size" "I" (.int sz)) (Va : Arv Z h0 ar ka .long (4 : Int32) [(.long x0), (.long x1), (.long x2), (.long x3)] (.long 0)) (hs0 : (0 : Int32) < sz) (hin : ¬ hd < 0 ∧ hd < (4 : Int32)) (Ew : Exa Z h0 o1 cn_1) (Fwt : Fld Z h0 o1 cn_1 "type" cn_3 (.ref w_SLIDING)) (Fwm : Fld Z h0 o1 cn_1 "millis" "J" (.long mm)) (hlt : (q2 - mm) < (own_at4 x0 x1 x2 x3 hd)) :
    MetFree l y_11 (head1 (Jvm.Cond.code y_11 prog_2_method_2_code 4 (some .int) :: ws) rr_cnt0_4) (fun a U => a = #[(.ref o0), (.ref o1), (.long q2)] ∧ Z.Warmed39 U.vm ∧ U.heap = h0) (fun _ _ _ _ _ => True) (fun _ U o U' => ∃ v L, o = .returned v ∧ Q_cnt0_4 Z w_SLIDING w_CALENDAR w_SwitchMap_co o0 o1 q2 ar ka x0 x1 x2 x3 hd sz mm h0 n0 v U'.heap L ∧ FrameEnd U o U' L rr_cnt0_4.cells rr_cnt0_4.slots) := by
  refine MetFree.of_bodySF (plainFor_of_name pn_3) hisR ?_
  intro p e s m args below meth c s₁ Bd hml0 hP hK
  obtain ⟨rfl, hZ, hh⟩ := hP
  have hx := Bd.exec
  have hby := Bd.bytes
  have hml : c.maxLocals = 4 := hml0
  have hown : s.vm.findClass cn_0 = some m.cls := findClass_of_methodNamed Bd.named
  have hnm := (name_of_methodNamed Bd.named Bd.method).1
  have X0 : Stand p l e rr_cnt0_4 s m #[(.ref o0), (.ref o1), (.long q2)] below meth c s₁ [] 0 0 := Stand.of_body Bd
  have e0 : s₁.heap = h0 := by rw [← hh, Bd.state]; rfl
  have N0 := Fr.nil n0
  have K0 : Keep h0 h0 [o0] := Keep.refl _ _
  obtain ⟨G, step, ret, fin⟩ := own_open (p := p) (l := l) (e := e) (R := rr_cnt0_4) (s := s) (m := m) (args := #[(.ref o0), (.ref o1), (.long q2)]) (below := below) (meth := meth) (c := c) (rr_cnt0_4.cells) (rr_cnt0_4.slots) (Q_cnt0_4 Z w_SLIDING w_CALENDAR w_SwitchMap_co o0 o1 q2 ar ka x0 x1 x2 x3 hd sz mm h0 n0) Bd.notSynchronized
  refine fin (g := entryFrame m #[(.ref o0), (.ref o1), (.long q2)] 4) ?_
  rw [ef_cnt0_4 m o0 o1 q2]
  have ne_o0_o1 : o0 ≠ o1 := ne_exa Ex Ew (by decide)
  have ne_o0_ar : o0 ≠ ar := own_ne_arv Ex (ww43 hw) Va
  have ne_o1_ar : o1 ≠ ar := own_ne_arv Ew (ww7 hw) Va
  show G s₁ (mkF m 0 #[.val (.ref o0), .val (.ref o1), .val (.long q2), .second] [])
  obtain ⟨T1, X1, e1, st1⟩ := getS2 X0 hx hZ hown (host := "") (Or.inl (ww65 hw)) Via.refl e0 (Sta.ext O0.2 ST.k6) (g := (mkF m 0 #[.val (.ref o0), .val (.ref o1), .val (.long q2), .second] [])) rfl (hb hby d10_0)
  refine step st1 ?_
  show G T1 (mkF m 3 #[.val (.ref o0), .val (.ref o1), .val (.long q2), .second] [(.ref w_SwitchMap_co)])
  refine step (fun t k => XS.aloadN X1.here hx rfl (hb hby d10_3) rfl rfl k) ?_
  show G T1 (mkF m 4 #[.val (.ref o0), .val (.ref o1), .val (.long q2), .second] [(.ref o1), (.ref w_SwitchMap_co)])
  have hK2 := (backOf (R := rr_cnt0_4) (p := p) (e := e) (below := below) (s := s) (args := #[(.ref o0), (.ref o1), (.long q2)]) (len := 3) (W := 1) (rm_ty l Z a0 hw [] w_SLIDING w_CALENDAR w_SwitchMap_co o1 w_SLIDING h0 n0 (own_old_le O0) ST O0 Fwt) hZ (ww72 hw) (ww4 hw) (by decide) (by decide))
  obtain ⟨cq2, kq2, q2a, q2b, q2c⟩ := isOf hZ e1 Ew
  obtain ⟨_, _, ⟨T2, L2, k2, n2⟩, -, X2, ⟨Lc2, hQ2, l2, y2, z2⟩, st2⟩ := X1.virtualBack hx (y := y_5) (z := y_5) hown (mvT hZ (ww68 hw)) (mvT hZ (ww69 hw)) (notFace_of_selects (args := #[]) (mvT hZ (ww71 hw))) (mvT hZ (ww71 hw)) (mvT hZ (ww70 hw)) (by decide) hK2 q2a q2c (g := (mkF m 4 #[.val (.ref o0), .val (.ref o1), .val (.long q2), .second] [(.ref o1), (.ref w_SwitchMap_co)])) rfl (by rw [hml]; rfl) (Steps.refl _) (argsL := []) (rest := [(.ref w_SwitchMap_co)]) (lenOf pd_5 rfl) rfl (by show 2 * 0 + _ ≤ _; exact Nat.le_of_eq rfl) (hb hby d10_4) (fun _ _ => ⟨rfl, e1, (by decide : 0 + 0 ≤ _), (by decide : 0 + 0 ≤ _)⟩)
  dsimp only [Pt.U, Pt.locs, Pt.cells, Pt.slots] at X2 l2 y2 z2 st2 hQ2
  subst l2 y2 z2
  obtain ⟨rfl, N2q, e2⟩ := hQ2
  have N2 := Fr.app N0 N2q
  obtain ⟨lc2, X2, N2⟩ := own_gen X2 N2
  refine step (fun t k => st2.trans k) ?_
  show G T2 (mkF m 7 #[.val (.ref o0), .val (.ref o1), .val (.long q2), .second] [(.ref (f_ty w_SLIDING w_CALENDAR w_SwitchMap_co o1 w_SLIDING)), (.ref w_SwitchMap_co)])
  have r3 : (f_ty w_SLIDING w_CALENDAR w_SwitchMap_co o1 w_SLIDING) = w_SLIDING := rfl
  rw [r3]
  show G T2 (mkF m 7 #[.val (.ref o0), .val (.ref o1), .val (.long q2), .second] [(.ref w_SLIDING), (.ref w_SwitchMap_co)])
  have hK4 := (backOf (R := rr_cnt0_4) (p := p) (e := e) (below := below) (s := s) (args := #[(.ref o0), (.ref o1), (.long q2)]) (len := 3) (W := 1) (rm_od l Z a0 hw [] w_SLIDING w_CALENDAR w_SwitchMap_co w_SLIDING (0 : Int32) h0 n0 (own_old_le O0) ST O0 (Fld.ext O0.2 ST.k4)) hZ (ww79 hw) (ww78 hw) (by decide) (by decide))
  obtain ⟨cq4, kq4, q4a, q4b, q4c⟩ := isOf hZ e2 (Exa.ext O0.2 ST.k1)
  obtain ⟨_, _, ⟨T4, L4, k4, n4⟩, -, X4, ⟨Lc4, hQ4, l4, y4, z4⟩, st4⟩ := X2.virtualBackUp hx (x := y_10) (y := y_7) (owner := cn_7) hown (mvT hZ (ww73 hw)) (mvT hZ (ww74 hw)) (mvT hZ (ww75 hw)) (by decide) (mvT hZ (ww77 hw)) (mvT hZ (ww76 hw)) hK4 q4a q4c (g := (mkF m 7 #[.val (.ref o0), .val (.ref o1), .val (.long q2), .second] [(.ref w_SLIDING), (.ref w_SwitchMap_co)])) rfl (by rw [hml]; rfl) (Steps.refl _) (argsL := []) (rest := [(.ref w_SwitchMap_co)]) (lenOf pd_6 rfl) rfl (by show 2 * 0 + _ ≤ _; exact Nat.le_of_eq rfl) (hb hby d10_7) (fun _ _ => ⟨rfl, e2, (by decide : 0 + 0 ≤ _), (by decide : 0 + 0 ≤ _)⟩)
  dsimp only [Pt.U, Pt.locs, Pt.cells, Pt.slots] at X4 l4 y4 z4 st4 hQ4
  subst l4 y4 z4
  obtain ⟨rfl, N4q, e4⟩ := hQ4
  have N4 := Fr.app N2 N4q
  obtain ⟨lc4, X4, N4⟩ := own_gen X4 N4
  refine step (fun t k => st4.trans k) ?_
  show G T4 (mkF m 10 #[.val (.ref o0), .val (.ref o1), .val (.long q2), .second] [(.int (f_od w_SLIDING w_CALENDAR w_SwitchMap_co w_SLIDING (0 : Int32))), (.ref w_SwitchMap_co)])
  have r5 : (f_od w_SLIDING w_CALENDAR w_SwitchMap_co w_SLIDING (0 : Int32)) = (0 : Int32) := rfl
  rw [r5]
  show G T4 (mkF m 10 #[.val (.ref o0), .val (.ref o1), .val (.long q2), .second] [(.int 0), (.ref w_SwitchMap_co)])
  obtain ⟨kw6, Vw6⟩ := ST.k7
  have q7 := own_ldI X4 hx hZ e4 (Arv.ext Vw6 O0.2) (j := (0 : Int32)) (v := (.int 1)) (by decide) (own_at (i := 0) rfl rfl) (g := (mkF m 10 #[.val (.ref o0), .val (.ref o1), .val (.long q2), .second] [(.int 0), (.ref w_SwitchMap_co)])) rfl rfl (hb hby d10_10)
  refine step q7 ?_
  show G T4 (mkF m 11 #[.val (.ref o0), .val (.ref o1), .val (.long q2), .second] [(.int 1)])
  refine step (fun t k => XS.tswIn X4.here hx rfl (pc0 := 11) (pc' := 36) rfl (hb hby d10_11) rfl (by decide) rfl (by decide) (by decide) k) ?_
  show G T4 (mkF m 36 #[.val (.ref o0), .val (.ref o1), .val (.long q2), .second] [])
  refine step (fun t k => XS.aloadN X4.here hx rfl (hb hby d10_36) rfl rfl k) ?_
  show G T4 (mkF m 37 #[.val (.ref o0), .val (.ref o1), .val (.long q2), .second] [(.ref o0)])
  refine step (fun t k => XS.lloadN X4.here hx rfl (hb hby d10_37) rfl k) ?_
  show G T4 (mkF m 38 #[.val (.ref o0), .val (.ref o1), .val (.long q2), .second] [(.long q2), (.ref o0)])
  refine step (fun t k => XS.aloadN X4.here hx rfl (hb hby d10_38) rfl rfl k) ?_
  show G T4 (mkF m 39 #[.val (.ref o0), .val (.ref o1), .val (.long q2), .second] [(.ref o1), (.long q2), (.ref o0)])
  have hK8 := (backOf (R := rr_cnt0_4) (p := p) (e := e) (below := below) (s := s) (args := #[(.ref o0), (.ref o1), (.long q2)]) (len := 3) (W := 3) (rm_mi l Z a0 hw [] w_SLIDING w_CALENDAR w_SwitchMap_co o1 mm h0 n0 (own_old_le O0) ST O0 Fwm) hZ (ww86 hw) (ww4 hw) (by decide) (by decide))
  obtain ⟨cq8, kq8, q8a, q8b, q8c⟩ := isOf hZ e4 Ew
  obtain ⟨_, _, ⟨T8, L8, k8, n8⟩, -, X8, ⟨Lc8, hQ8, l8, y8, z8⟩, st8⟩ := X4.virtualBack hx (y := y_6) (z := y_6) hown (mvT hZ (ww82 hw)) (mvT hZ (ww83 hw)) (notFace_of_selects (args := #[]) (mvT hZ (ww85 hw))) (mvT hZ (ww85 hw)) (mvT hZ (ww84 hw)) (by decide) hK8 q8a q8c (g := (mkF m 39 #[.val (.ref o0), .val (.ref o1), .val (.long q2), .second] [(.ref o1), (.long q2), (.ref o0)])) rfl (by rw [hml]; rfl) (Steps.refl _) (argsL := []) (rest := [(.long q2), (.ref o0)]) (lenOf pd_7 rfl) rfl (by show 2 * 0 + _ ≤ _; exact Nat.le_of_eq rfl) (hb hby d10_39) (fun _ _ => ⟨rfl, e4, (by decide : 0 + 0 ≤ _), (by decide : 0 + 0 ≤ _)⟩)
  dsimp only [Pt.U, Pt.locs, Pt.cells, Pt.slots] at X8 l8 y8 z8 st8 hQ8
  subst l8 y8 z8
  obtain ⟨rfl, N8q, e8⟩ := hQ8
  have N8 := Fr.app N4 N8q
  obtain ⟨lc8, X8, N8⟩ := own_gen X8 N8
  refine step (fun t k => st8.trans k) ?_
  show G T8 (mkF m 42 #[.val (.ref o0), .val (.ref o1), .val (.long q2), .second] [(.long (f_mi w_SLIDING w_CALENDAR w_SwitchMap_co o1 mm)), (.long q2), (.ref o0)])
  have r9 : (f_mi w_SLIDING w_CALENDAR w_SwitchMap_co o1 mm) = mm := rfl
  rw [r9]
  show G T8 (mkF m 42 #[.val (.ref o0), .val (.ref o1), .val (.long q2), .second] [(.long mm), (.long q2), (.ref o0)])
  refine step (fun t k => XS.lsub X8.here hx rfl (hb hby d10_42) rfl k) ?_
  show G T8 (mkF m 43 #[.val (.ref o0), .val (.ref o1), .val (.long q2), .second] [(.long (q2 - mm)), (.ref o0)])
  have hK10 := (backOf (R := rr_cnt0_4) (p := p) (e := e) (below := below) (s := s) (args := #[(.ref o0), (.ref o1), (.long q2)]) (len := 3) (W := 0) (rm_for0_4 l Z a0 hw [] w_SLIDING w_CALENDAR w_SwitchMap_co o0 (q2 - mm) ar ka x0 x1 x2 x3 hd sz h0 n0 (own_old_le O0) ST O0 Ex geo Ft gea Fh Fs Va (hs0 : (0 : Int32) < sz) hin hlt) hZ (ww90 hw) (ww44 hw) (by decide) (by decide))
  obtain ⟨cq10, q10, q10'⟩ := (Ex).cell
  obtain ⟨_, _, ⟨T10, L10, k10, n10⟩, -, X10, ⟨Lc10, hQ10, l10, y10, z10⟩, st10⟩ := X8.privateBack hx (y := y_9) hown (mvT hZ (ww87 hw)) (mvT hZ (ww88 hw)) (own_selpriv hZ (ww89 hw) (ww88 hw) (ww43 hw) (by decide)) (Cond.privateMethod_at (mvP hZ (ww89 hw) (args := #[]))) (mvT hZ (ww90 hw)) (by decide) hK10 (g := (mkF m 43 #[.val (.ref o0), .val (.ref o1), .val (.long q2), .second] [(.long (q2 - mm)), (.ref o0)])) rfl (by rw [hml]; rfl) (Steps.refl _) (a := o0) (by rw [e8]; exact q10) q10' (argsL := [(.long (q2 - mm))]) (rest := []) (lenOf pd_4 rfl) rfl (by show 2 * 0 + _ ≤ _; exact Nat.le_of_eq rfl) (hb hby d10_43) (fun _ _ => ⟨rfl, e8, (by decide : 0 + 0 ≤ _), (by decide : 0 + 0 ≤ _)⟩)
  dsimp only [Pt.U, Pt.locs, Pt.cells, Pt.slots] at X10 l10 y10 z10 st10 hQ10
  subst l10 y10 z10
  obtain ⟨rfl, N10q, K10q, Y10_0, Y10_1, Y10_2, Y10_3⟩ := hQ10
  have N10 := Fr.app N8 N10q
  obtain ⟨lc10, X10, N10⟩ := own_gen X10 N10
  have O10 := O0.keep K10q (allS geo all0)
  have K10 : Keep h0 T10.heap [o0] := K0.trans K10q (allS (Or.inl (List.mem_of_getElem? (i := 0) rfl)) all0)
  refine step (fun t k => st10.trans k) ?_
  show G T10 (mkF m 46 #[.val (.ref o0), .val (.ref o1), .val (.long q2), .second] [])
  refine step (fun t k => XS.goto X10.here hx rfl (pc0 := 46) (pc' := 132) rfl (hb hby d10_46) (by decide) (by decide) k) ?_
  show G T10 (mkF m 132 #[.val (.ref o0), .val (.ref o1), .val (.long q2), .second] [])
  refine step (fun t k => XS.aloadN X10.here hx rfl (hb hby d10_132) rfl rfl k) ?_
  show G T10 (mkF m 133 #[.val (.ref o0), .val (.ref o1), .val (.long q2), .second] [(.ref o0)])
  obtain ⟨T11, X11, e11, st11⟩ := getF X10 hx hZ hown (host := "") (Or.inl (ww56 hw)) Via.refl rfl Y10_3 (g := (mkF m 133 #[.val (.ref o0), .val (.ref o1), .val (.long q2), .second] [(.ref o0)])) rfl rfl (hb hby d10_133)
  refine step st11 ?_
  show G T11 (mkF m 136 #[.val (.ref o0), .val (.ref o1), .val (.long q2), .second] [(.int sz)])
  exact ret (v := some (.int sz)) X11 (fun h => by rw [Bd.returns] at h; cases h) (fun fs hr => retI X11 hx Bd.returns (hb hby d10_136) hr) e11 ⟨rfl, N10, K10, Y10_0, Y10_1, Y10_2, Y10_3⟩ (by decide) (by decide)
theorem ww64 {Z : State} {a0 : Array Value} (hw : ∀ d ∈ tables_1, d.before a0 Z = true) : Jvm.Cond.before (Jvm.Cond.code ({ cls := cn_0, name := "countAt", desc := cn_6 } : Jvm.MethodName) prog_2_method_2_code (4 : Nat) (Option.some Jvm.ClassFile.FieldType.int)) a0 Z = true := hw _ (List.mem_of_getElem? (i := 64) rfl)
theorem pd_8 : parseMethodDescriptor cn_6 = some ⟨[(.object cn_1), .long], some .int⟩ := by decide +kernel
theorem ww61 {Z : State} {a0 : Array Value} (hw : ∀ d ∈ tables_1, d.before a0 Z = true) : Jvm.Cond.before (Jvm.Cond.declares ({ cls := cn_0, name := "countAt", desc := cn_6 } : Jvm.MethodName)) a0 Z = true := hw _ (List.mem_of_getElem? (i := 61) rfl)
theorem ww62 {Z : State} {a0 : Array Value} (hw : ∀ d ∈ tables_1, d.before a0 Z = true) : Jvm.Cond.before (Jvm.Cond.instanceMethod ({ cls := cn_0, name := "countAt", desc := cn_6 } : Jvm.MethodName)) a0 Z = true := hw _ (List.mem_of_getElem? (i := 62) rfl)
theorem ww91 {Z : State} {a0 : Array Value} (hw : ∀ d ∈ tables_1, d.before a0 Z = true) : Jvm.Cond.before (Jvm.Cond.methodLink cn_4 (25 : Nat) ({ cls := cn_0, name := "get", desc := "(I)J" } : Jvm.MethodName)) a0 Z = true := hw _ (List.mem_of_getElem? (i := 91) rfl)
theorem ww94 {Z : State} {a0 : Array Value} (hw : ∀ d ∈ tables_1, d.before a0 Z = true) : Jvm.Cond.before (Jvm.Cond.selects cn_0 ({ cls := cn_0, name := "get", desc := "(I)J" } : Jvm.MethodName) ({ cls := cn_0, name := "get", desc := "(I)J" } : Jvm.MethodName)) a0 Z = true := hw _ (List.mem_of_getElem? (i := 94) rfl)
theorem d11_0 : decode prog_2_method_3_code 0 = .ok (.aload_n 0, 1) := by decide +kernel
theorem d11_1 : decode prog_2_method_3_code 1 = .ok (.getfield 7, 3) := by decide +kernel
theorem d11_4 : decode prog_2_method_3_code 4 = .ok (.aload_n 0, 1) := by decide +kernel
theorem d11_5 : decode prog_2_method_3_code 5 = .ok (.getfield 47, 3) := by decide +kernel
theorem d11_8 : decode prog_2_method_3_code 8 = .ok (.iload_n 1, 1) := by decide +kernel
theorem d11_9 : decode prog_2_method_3_code 9 = .ok (.iadd, 1) := by decide +kernel
theorem d11_10 : decode prog_2_method_3_code 10 = .ok (.aload_n 0, 1) := by decide +kernel
theorem d11_11 : decode prog_2_method_3_code 11 = .ok (.getfield 7, 3) := by decide +kernel
theorem d11_14 : decode prog_2_method_3_code 14 = .ok (.arraylength, 1) := by decide +kernel
theorem d11_15 : decode prog_2_method_3_code 15 = .ok (.irem, 1) := by decide +kernel
theorem d11_16 : decode prog_2_method_3_code 16 = .ok (.laload, 1) := by decide +kernel
theorem d11_17 : decode prog_2_method_3_code 17 = .ok (.lreturn, 1) := by decide +kernel
abbrev rr_get4 : Room := { frames := 0, cells := 0, slots := 0, locals := 0 }
abbrev y_12 : MethodName := ⟨cn_0, "get", "(I)J"⟩
theorem ef_get4 (m : MethodId) (o0 : Addr) (p1 : Int32) : entryFrame m #[(.ref o0), (.int p1)] 2 = mkF m 0 #[.val (.ref o0), .val (.int p1)] [] := by first | (simp [entryFrame, mkF, argsToLocals, Value.category]; done) | rfl
def f_get4 (w_SLIDING : Addr) (w_CALENDAR : Addr) (w_SwitchMap_co : Addr) (o0 : Addr) (p1 : Int32) (ar : Addr) (ka : ClassId) (x0 : Int64) (x1 : Int64) (x2 : Int64) (x3 : Int64) (hd : Int32) : Int64 := (own_at4 x0 x1 x2 x3 ((hd + p1) % (4 : Int32)))
def Q_get4 (Z : State) (w_SLIDING : Addr) (w_CALENDAR : Addr) (w_SwitchMap_co : Addr) (o0 : Addr) (p1 : Int32) (ar : Addr) (ka : ClassId) (x0 : Int64) (x1 : Int64) (x2 : Int64) (x3 : Int64) (hd : Int32) (h0 : Heap) (n0 : Nat) (v : Option Value) (h : Heap) (L : List Loc) : Prop := v = some (.long (f_get4 w_SLIDING w_CALENDAR w_SwitchMap_co o0 p1 ar ka x0 x1 x2 x3 hd)) ∧ Fr n0 L ∧ h = h0
set_option maxRecDepth 65536 in
set_option maxHeartbeats 40000000 in
theorem rm_get4 (l : Launch) (Z : State) (a0 : Array Value) (hw : ∀ d ∈ tables_1, d.before a0 Z = true) (ws : List Jvm.Cond) (w_SLIDING : Addr) (w_CALENDAR : Addr) (w_SwitchMap_co : Addr) (o0 : Addr) (p1 : Int32) (ar : Addr) (ka : ClassId) (x0 : Int64) (x1 : Int64) (x2 : Int64) (x3 : Int64) (hd : Int32) (h0 : Heap) (n0 : Nat) (Z0 : n0 ≤ h0.size) (ST : own_St Z w_SLIDING w_CALENDAR w_SwitchMap_co) (O0 : Old Z n0 h0) (Ft : Fld Z h0 o0 cn_0 "times" "[J" (.ref ar)) (Fh : Fld Z h0 o0 cn_0 "head" "I" (.int hd)) (Va : Arv Z h0 ar ka .long (4 : Int32) [(.long x0), (.long x1), (.long x2), (.long x3)] (.long 0)) (hix : ¬ ((hd + p1) % (4 : Int32)) < 0 ∧ ((hd + p1) % (4 : Int32)) < (4 : Int32)) :
    MetFree l y_12 (head1 (Jvm.Cond.code y_12 prog_2_method_3_code 2 (some .long) :: ws) rr_get4) (fun a U => a = #[(.ref o0), (.int p1)] ∧ Z.Warmed39 U.vm ∧ U.heap = h0) (fun _ _ _ _ _ => True) (fun _ U o U' => ∃ v L, o = .returned v ∧ Q_get4 Z w_SLIDING w_CALENDAR w_SwitchMap_co o0 p1 ar ka x0 x1 x2 x3 hd h0 n0 v U'.heap L ∧ FrameEnd U o U' L rr_get4.cells rr_get4.slots) := by
  refine MetFree.of_bodySF (plainFor_of_name pn_3) hisR ?_
  intro p e s m args below meth c s₁ Bd hml0 hP hK
  obtain ⟨rfl, hZ, hh⟩ := hP
  have hx := Bd.exec
  have hby := Bd.bytes
  have hml : c.maxLocals = 2 := hml0
  have hown : s.vm.findClass cn_0 = some m.cls := findClass_of_methodNamed Bd.named
  have hnm := (name_of_methodNamed Bd.named Bd.method).1
  have X0 : Stand p l e rr_get4 s m #[(.ref o0), (.int p1)] below meth c s₁ [] 0 0 := Stand.of_body Bd
  have e0 : s₁.heap = h0 := by rw [← hh, Bd.state]; rfl
  have N0 := Fr.nil n0
  obtain ⟨G, step, ret, fin⟩ := own_open (p := p) (l := l) (e := e) (R := rr_get4) (s := s) (m := m) (args := #[(.ref o0), (.int p1)]) (below := below) (meth := meth) (c := c) (rr_get4.cells) (rr_get4.slots) (Q_get4 Z w_SLIDING w_CALENDAR w_SwitchMap_co o0 p1 ar ka x0 x1 x2 x3 hd h0 n0) Bd.notSynchronized
  refine fin (g := entryFrame m #[(.ref o0), (.int p1)] 2) ?_
  rw [ef_get4 m o0 p1]
  show G s₁ (mkF m 0 #[.val (.ref o0), .val (.int p1)] [])
  refine step (fun t k => XS.aloadN X0.here hx rfl (hb hby d11_0) rfl rfl k) ?_
  show G s₁ (mkF m 1 #[.val (.ref o0), .val (.int p1)] [(.ref o0)])
  obtain ⟨T1, X1, e1, st1⟩ := getF X0 hx hZ hown (host := "") (Or.inl (ww49 hw)) Via.refl e0 Ft (g := (mkF m 1 #[.val (.ref o0), .val (.int p1)] [(.ref o0)])) rfl rfl (hb hby d11_1)
  refine step st1 ?_
  show G T1 (mkF m 4 #[.val (.ref o0), .val (.int p1)] [(.ref ar)])
  refine step (fun t k => XS.aloadN X1.here hx rfl (hb hby d11_4) rfl rfl k) ?_
  show G T1 (mkF m 5 #[.val (.ref o0), .val (.int p1)] [(.ref o0), (.ref ar)])
  obtain ⟨T2, X2, e2, st2⟩ := getF X1 hx hZ hown (host := "") (Or.inl (ww58 hw)) Via.refl e1 Fh (g := (mkF m 5 #[.val (.ref o0), .val (.int p1)] [(.ref o0), (.ref ar)])) rfl rfl (hb hby d11_5)
  refine step st2 ?_
  show G T2 (mkF m 8 #[.val (.ref o0), .val (.int p1)] [(.int hd), (.ref ar)])
  refine step (fun t k => XS.iloadN X2.here hx rfl (hb hby d11_8) rfl k) ?_
  show G T2 (mkF m 9 #[.val (.ref o0), .val (.int p1)] [(.int p1), (.int hd), (.ref ar)])
  refine step (fun t k => XS.iadd X2.here hx rfl (hb hby d11_9) rfl k) ?_
  show G T2 (mkF m 10 #[.val (.ref o0), .val (.int p1)] [(.int (hd + p1)), (.ref ar)])
  refine step (fun t k => XS.aloadN X2.here hx rfl (hb hby d11_10) rfl rfl k) ?_
  show G T2 (mkF m 11 #[.val (.ref o0), .val (.int p1)] [(.ref o0), (.int (hd + p1)), (.ref ar)])
  obtain ⟨T3, X3, e3, st3⟩ := getF X2 hx hZ hown (host := "") (Or.inl (ww49 hw)) Via.refl e2 Ft (g := (mkF m 11 #[.val (.ref o0), .val (.int p1)] [(.ref o0), (.int (hd + p1)), (.ref ar)])) rfl rfl (hb hby d11_11)
  refine step st3 ?_
  show G T3 (mkF m 14 #[.val (.ref o0), .val (.int p1)] [(.ref ar), (.int (hd + p1)), (.ref ar)])
  have q4 := own_len X3 hx hZ e3 Va (g := (mkF m 14 #[.val (.ref o0), .val (.int p1)] [(.ref ar), (.int (hd + p1)), (.ref ar)])) rfl rfl (hb hby d11_14)
  refine step q4 ?_
  show G T3 (mkF m 15 #[.val (.ref o0), .val (.int p1)] [(.int 4), (.int (hd + p1)), (.ref ar)])
  refine step (fun t k => iremM X3 hx rfl (hb hby d11_15) rfl (by decide) k) ?_
  show G T3 (mkF m 16 #[.val (.ref o0), .val (.int p1)] [(.int ((hd + p1) % (4 : Int32))), (.ref ar)])
  have q5 := own_ldJ X3 hx hZ e3 Va (j := ((hd + p1) % (4 : Int32))) (v := .long (own_at4 x0 x1 x2 x3 ((hd + p1) % (4 : Int32)))) hix (own_get4 hix) (g := (mkF m 16 #[.val (.ref o0), .val (.int p1)] [(.int ((hd + p1) % (4 : Int32))), (.ref ar)])) rfl rfl (hb hby d11_16)
  refine step q5 ?_
  show G T3 (mkF m 17 #[.val (.ref o0), .val (.int p1)] [(.long (own_at4 x0 x1 x2 x3 ((hd + p1) % (4 : Int32))))])
  exact ret (v := some (.long (own_at4 x0 x1 x2 x3 ((hd + p1) % (4 : Int32))))) X3 (fun h => by rw [Bd.returns] at h; cases h) (fun fs hr => retL X3 hx Bd.returns (hb hby d11_17) hr) e3 ⟨rfl, N0, rfl⟩ (by decide) (by decide)
theorem ww95 {Z : State} {a0 : Array Value} (hw : ∀ d ∈ tables_1, d.before a0 Z = true) : Jvm.Cond.before (Jvm.Cond.code ({ cls := cn_0, name := "get", desc := "(I)J" } : Jvm.MethodName) prog_2_method_3_code (2 : Nat) (Option.some Jvm.ClassFile.FieldType.long)) a0 Z = true := hw _ (List.mem_of_getElem? (i := 95) rfl)
theorem pd_9 : parseMethodDescriptor "(I)J" = some ⟨[.int], some .long⟩ := by decide +kernel
theorem ww92 {Z : State} {a0 : Array Value} (hw : ∀ d ∈ tables_1, d.before a0 Z = true) : Jvm.Cond.before (Jvm.Cond.declares ({ cls := cn_0, name := "get", desc := "(I)J" } : Jvm.MethodName)) a0 Z = true := hw _ (List.mem_of_getElem? (i := 92) rfl)
theorem ww93 {Z : State} {a0 : Array Value} (hw : ∀ d ∈ tables_1, d.before a0 Z = true) : Jvm.Cond.before (Jvm.Cond.instanceMethod ({ cls := cn_0, name := "get", desc := "(I)J" } : Jvm.MethodName)) a0 Z = true := hw _ (List.mem_of_getElem? (i := 93) rfl)
theorem d8_12 : decode prog_2_method_4_code 12 = .ok (.aload_n 0, 1) := by decide +kernel
theorem d8_13 : decode prog_2_method_4_code 13 = .ok (.getfield 7, 3) := by decide +kernel
theorem d8_16 : decode prog_2_method_4_code 16 = .ok (.arraylength, 1) := by decide +kernel
theorem d8_17 : decode prog_2_method_4_code 17 = .ok (.iconst 2, 1) := by decide +kernel
theorem d8_18 : decode prog_2_method_4_code 18 = .ok (.imul, 1) := by decide +kernel
theorem d8_19 : decode prog_2_method_4_code 19 = .ok (.newarray .long, 2) := by decide +kernel
theorem d8_21 : decode prog_2_method_4_code 21 = .ok (.astore_n 3, 1) := by decide +kernel
theorem d8_22 : decode prog_2_method_4_code 22 = .ok (.iconst 0, 1) := by decide +kernel
theorem d8_23 : decode prog_2_method_4_code 23 = .ok (.istore 4, 2) := by decide +kernel
theorem d8_25 : decode prog_2_method_4_code 25 = .ok (.iload 4, 2) := by decide +kernel
theorem d8_27 : decode prog_2_method_4_code 27 = .ok (.aload_n 0, 1) := by decide +kernel
theorem d8_28 : decode prog_2_method_4_code 28 = .ok (.getfield 43, 3) := by decide +kernel
theorem d8_31 : decode prog_2_method_4_code 31 = .ok (.if_icmp .ge 31, 3) := by decide +kernel
theorem d8_34 : decode prog_2_method_4_code 34 = .ok (.aload_n 3, 1) := by decide +kernel
theorem d8_35 : decode prog_2_method_4_code 35 = .ok (.iload 4, 2) := by decide +kernel
theorem d8_37 : decode prog_2_method_4_code 37 = .ok (.aload_n 0, 1) := by decide +kernel
theorem d8_38 : decode prog_2_method_4_code 38 = .ok (.getfield 7, 3) := by decide +kernel
theorem d8_41 : decode prog_2_method_4_code 41 = .ok (.aload_n 0, 1) := by decide +kernel
theorem d8_42 : decode prog_2_method_4_code 42 = .ok (.getfield 47, 3) := by decide +kernel
theorem d8_45 : decode prog_2_method_4_code 45 = .ok (.iload 4, 2) := by decide +kernel
theorem d8_47 : decode prog_2_method_4_code 47 = .ok (.iadd, 1) := by decide +kernel
theorem d8_48 : decode prog_2_method_4_code 48 = .ok (.aload_n 0, 1) := by decide +kernel
theorem d8_49 : decode prog_2_method_4_code 49 = .ok (.getfield 7, 3) := by decide +kernel
theorem d8_52 : decode prog_2_method_4_code 52 = .ok (.arraylength, 1) := by decide +kernel
theorem d8_53 : decode prog_2_method_4_code 53 = .ok (.irem, 1) := by decide +kernel
theorem d8_54 : decode prog_2_method_4_code 54 = .ok (.laload, 1) := by decide +kernel
theorem d8_55 : decode prog_2_method_4_code 55 = .ok (.lastore, 1) := by decide +kernel
theorem d8_56 : decode prog_2_method_4_code 56 = .ok (.iinc 4 1, 3) := by decide +kernel
theorem d8_59 : decode prog_2_method_4_code 59 = .ok (.goto (-34), 3) := by decide +kernel
theorem d8_62 : decode prog_2_method_4_code 62 = .ok (.aload_n 0, 1) := by decide +kernel
theorem d8_63 : decode prog_2_method_4_code 63 = .ok (.aload_n 3, 1) := by decide +kernel
theorem d8_64 : decode prog_2_method_4_code 64 = .ok (.putfield 7, 3) := by decide +kernel
theorem d8_67 : decode prog_2_method_4_code 67 = .ok (.aload_n 0, 1) := by decide +kernel
theorem d8_68 : decode prog_2_method_4_code 68 = .ok (.iconst 0, 1) := by decide +kernel
theorem d8_69 : decode prog_2_method_4_code 69 = .ok (.putfield 47, 3) := by decide +kernel
abbrev rr_addg_4_0 : Room := { frames := 0, cells := 1, slots := 8, locals := 0 }
theorem ef_addg_4_0 (m : MethodId) (o0 : Addr) (q1 : Int64) : entryFrame m #[(.ref o0), (.long q1)] 5 = mkF m 0 #[.val (.ref o0), .val (.long q1), .second, .unset, .unset] [] := by first | (simp [entryFrame, mkF, argsToLocals, Value.category]; done) | rfl
def Q_addg_4_0 (Z : State) (w_SLIDING : Addr) (w_CALENDAR : Addr) (w_SwitchMap_co : Addr) (o0 : Addr) (q1 : Int64) (ar : Addr) (ka : ClassId) (x0 : Int64) (x1 : Int64) (x2 : Int64) (x3 : Int64) (h0 : Heap) (n0 : Nat) (v : Option Value) (h : Heap) (L : List Loc) : Prop := ∃ b : Addr, ∃ kb : ClassId, v = none ∧ Fr n0 L ∧ Keep h0 h [o0] ∧ h0.size ≤ b ∧ Exa Z h o0 cn_0 ∧ Fld Z h o0 cn_0 "times" "[J" (.ref b) ∧ Fld Z h o0 cn_0 "head" "I" (.int 0) ∧ Fld Z h o0 cn_0 "size" "I" (.int 5) ∧ Arv Z h b kb .long (8 : Int32) [(.long x0), (.long x1), (.long x2), (.long x3), (.long q1), (.long 0), (.long 0), (.long 0)] (.long 0)
set_option maxRecDepth 65536 in
set_option maxHeartbeats 40000000 in
theorem rm_addg_4_0 (l : Launch) (Z : State) (a0 : Array Value) (hw : ∀ d ∈ tables_1, d.before a0 Z = true) (ws : List Jvm.Cond) (w_SLIDING : Addr) (w_CALENDAR : Addr) (w_SwitchMap_co : Addr) (o0 : Addr) (q1 : Int64) (ar : Addr) (ka : ClassId) (x0 : Int64) (x1 : Int64) (x2 : Int64) (x3 : Int64) (h0 : Heap) (n0 : Nat) (Z0 : n0 ≤ h0.size) (ST : own_St Z w_SLIDING w_CALENDAR w_SwitchMap_co) (O0 : Old Z n0 h0) (Ex : Exa Z h0 o0 cn_0) (geo : n0 ≤ o0) (Ft : Fld Z h0 o0 cn_0 "times" "[J" (.ref ar)) (gea : n0 ≤ ar) (Fh : Fld Z h0 o0 cn_0 "head" "I" (.int 0)) (Fs : Fld Z h0 o0 cn_0 "size" "I" (.int 4)) (Va : Arv Z h0 ar ka .long (4 : Int32) [(.long x0), (.long x1), (.long x2), (.long x3)] (.long 0)) :
    MetFree l y_8 (head1 (Jvm.Cond.code y_8 prog_2_method_4_code 5 none :: ws) rr_addg_4_0) (fun a U => a = #[(.ref o0), (.long q1)] ∧ Z.Warmed39 U.vm ∧ U.heap = h0) (fun _ _ _ _ _ => True) (fun _ U o U' => ∃ v L, o = .returned v ∧ Q_addg_4_0 Z w_SLIDING w_CALENDAR w_SwitchMap_co o0 q1 ar ka x0 x1 x2 x3 h0 n0 v U'.heap L ∧ FrameEnd U o U' L rr_addg_4_0.cells rr_addg_4_0.slots) := by
  refine MetFree.of_bodySF (plainFor_of_name pn_3) hisR ?_
  intro p e s m args below meth c s₁ Bd hml0 hP hK
  obtain ⟨rfl, hZ, hh⟩ := hP
  have hx := Bd.exec
  have hby := Bd.bytes
  have hml : c.maxLocals = 5 := hml0
  have hown : s.vm.findClass cn_0 = some m.cls := findClass_of_methodNamed Bd.named
  have hnm := (name_of_methodNamed Bd.named Bd.method).1
  have X0 : Stand p l e rr_addg_4_0 s m #[(.ref o0), (.long q1)] below meth c s₁ [] 0 0 := Stand.of_body Bd
  have e0 : s₁.heap = h0 := by rw [← hh, Bd.state]; rfl
  have N0 := Fr.nil n0
  have K0 : Keep h0 h0 [o0] := Keep.refl _ _
  obtain ⟨G, step, ret, fin⟩ := own_open (p := p) (l := l) (e := e) (R := rr_addg_4_0) (s := s) (m := m) (args := #[(.ref o0), (.long q1)]) (below := below) (meth := meth) (c := c) (rr_addg_4_0.cells) (rr_addg_4_0.slots) (Q_addg_4_0 Z w_SLIDING w_CALENDAR w_SwitchMap_co o0 q1 ar ka x0 x1 x2 x3 h0 n0) Bd.notSynchronized
  refine fin (g := entryFrame m #[(.ref o0), (.long q1)] 5) ?_
  rw [ef_addg_4_0 m o0 q1]
  have ne_o0_ar : o0 ≠ ar := own_ne_arv Ex (ww43 hw) Va
  show G s₁ (mkF m 0 #[.val (.ref o0), .val (.long q1), .second, .unset, .unset] [])
  refine step (fun t k => XS.aloadN X0.here hx rfl (hb hby d8_0) rfl rfl k) ?_
  show G s₁ (mkF m 1 #[.val (.ref o0), .val (.long q1), .second, .unset, .unset] [(.ref o0)])
  obtain ⟨T1, X1, e1, st1⟩ := getF X0 hx hZ hown (host := "") (Or.inl (ww56 hw)) Via.refl e0 Fs (g := (mkF m 1 #[.val (.ref o0), .val (.long q1), .second, .unset, .unset] [(.ref o0)])) rfl rfl (hb hby d8_1)
  refine step st1 ?_
  show G T1 (mkF m 4 #[.val (.ref o0), .val (.long q1), .second, .unset, .unset] [(.int 4)])
  refine step (fun t k => XS.aloadN X1.here hx rfl (hb hby d8_4) rfl rfl k) ?_
  show G T1 (mkF m 5 #[.val (.ref o0), .val (.long q1), .second, .unset, .unset] [(.ref o0), (.int 4)])
  obtain ⟨T2, X2, e2, st2⟩ := getF X1 hx hZ hown (host := "") (Or.inl (ww49 hw)) Via.refl e1 Ft (g := (mkF m 5 #[.val (.ref o0), .val (.long q1), .second, .unset, .unset] [(.ref o0), (.int 4)])) rfl rfl (hb hby d8_5)
  refine step st2 ?_
  show G T2 (mkF m 8 #[.val (.ref o0), .val (.long q1), .second, .unset, .unset] [(.ref ar), (.int 4)])
  have q3 := own_len X2 hx hZ e2 Va (g := (mkF m 8 #[.val (.ref o0), .val (.long q1), .second, .unset, .unset] [(.ref ar), (.int 4)])) rfl rfl (hb hby d8_8)
  refine step q3 ?_
  show G T2 (mkF m 9 #[.val (.ref o0), .val (.long q1), .second, .unset, .unset] [(.int 4), (.int 4)])
  refine step (fun t k => XS.icmpNo X2.here hx rfl (hb hby d8_9) rfl (teq (by decide : (4 : Int32) = (4 : Int32))).2 k) ?_
  show G T2 (mkF m 12 #[.val (.ref o0), .val (.long q1), .second, .unset, .unset] [])
  refine step (fun t k => XS.aloadN X2.here hx rfl (hb hby d8_12) rfl rfl k) ?_
  show G T2 (mkF m 13 #[.val (.ref o0), .val (.long q1), .second, .unset, .unset] [(.ref o0)])
  obtain ⟨T4, X4, e4, st4⟩ := getF X2 hx hZ hown (host := "") (Or.inl (ww49 hw)) Via.refl e2 Ft (g := (mkF m 13 #[.val (.ref o0), .val (.long q1), .second, .unset, .unset] [(.ref o0)])) rfl rfl (hb hby d8_13)
  refine step st4 ?_
  show G T4 (mkF m 16 #[.val (.ref o0), .val (.long q1), .second, .unset, .unset] [(.ref ar)])
  have q5 := own_len X4 hx hZ e4 Va (g := (mkF m 16 #[.val (.ref o0), .val (.long q1), .second, .unset, .unset] [(.ref ar)])) rfl rfl (hb hby d8_16)
  refine step q5 ?_
  show G T4 (mkF m 17 #[.val (.ref o0), .val (.long q1), .second, .unset, .unset] [(.int 4)])
  refine step (fun t k => XS.iconst X4.here hx rfl (hb hby d8_17) k) ?_
  show G T4 (mkF m 18 #[.val (.ref o0), .val (.long q1), .second, .unset, .unset] [(.int 2), (.int 4)])
  refine step (fun t k => XS.imul X4.here hx rfl (hb hby d8_18) rfl k) ?_
  show G T4 (mkF m 19 #[.val (.ref o0), .val (.long q1), .second, .unset, .unset] [(.int ((4 : Int32) * (2 : Int32)))])
  rw [(by decide : ((4 : Int32) * (2 : Int32)) = (8 : Int32))]
  show G T4 (mkF m 19 #[.val (.ref o0), .val (.long q1), .second, .unset, .unset] [(.int 8)])
  obtain ⟨T6, h6, k6, X6, e6, E6, A6, B6, st6⟩ := newPE (aty := .long) X4 hx hZ (ww1 hw) e4 (g := (mkF m 19 #[.val (.ref o0), .val (.long q1), .second, .unset, .unset] [(.int 8)])) rfl (hb hby d8_19) rfl (by decide) (cap := 8) (by decide) (by decide) (by decide) (by decide) (ad := "[J") (by decide)
  obtain ⟨b6, g6⟩ : ∃ z, z = h0.size := ⟨_, rfl⟩
  rw [← g6] at A6 B6 st6
  have V6 : Arv Z h6 b6 k6 .long (8 : Int32) [(.long 0), (.long 0), (.long 0), (.long 0), (.long 0), (.long 0), (.long 0), (.long 0)] (.long 0) := (Arv.new A6 (by decide)).pad (pad_rep [] (.long 0) 8)
  have ge_b6 : n0 ≤ b6 := Nat.le_trans (own_old_le O0) (Nat.le_of_eq g6.symm)
  have sz_b6 : h0.size ≤ b6 := Nat.le_trans K0.1 (Nat.le_of_eq g6.symm)
  have lt_ar_b6 : ar < b6 := Nat.lt_of_lt_of_le Va.lt (Nat.le_of_eq g6.symm)
  have lt_o0_b6 : o0 < b6 := Nat.lt_of_lt_of_le Ex.lt (Nat.le_of_eq g6.symm)
  have O6 := O0.ext E6
  have K6 : Keep h0 h6 [o0] := K0.ext E6
  refine step st6 ?_
  show G T6 (mkF m 21 #[.val (.ref o0), .val (.long q1), .second, .unset, .unset] [(.ref b6)])
  refine step (fun t k => XS.astoreN X6.here hx rfl (hb hby d8_21) rfl rfl (l' := #[.val (.ref o0), .val (.long q1), .second, .val (.ref b6), .unset]) rfl k) ?_
  show G T6 (mkF m 22 #[.val (.ref o0), .val (.long q1), .second, .val (.ref b6), .unset] [])
  refine step (fun t k => XS.iconst X6.here hx rfl (hb hby d8_22) k) ?_
  show G T6 (mkF m 23 #[.val (.ref o0), .val (.long q1), .second, .val (.ref b6), .unset] [(.int 0)])
  refine step (fun t k => XS.istore X6.here hx rfl (hb hby d8_23) rfl (l' := #[.val (.ref o0), .val (.long q1), .second, .val (.ref b6), .val (.int 0)]) rfl k) ?_
  show G T6 (mkF m 25 #[.val (.ref o0), .val (.long q1), .second, .val (.ref b6), .val (.int 0)] [])
  refine step (fun t k => XS.iload X6.here hx rfl (hb hby d8_25) rfl k) ?_
  show G T6 (mkF m 27 #[.val (.ref o0), .val (.long q1), .second, .val (.ref b6), .val (.int 0)] [(.int 0)])
  refine step (fun t k => XS.aloadN X6.here hx rfl (hb hby d8_27) rfl rfl k) ?_
  show G T6 (mkF m 28 #[.val (.ref o0), .val (.long q1), .second, .val (.ref b6), .val (.int 0)] [(.ref o0), (.int 0)])
  have f8 := (Fld.ext E6 Fs)
  obtain ⟨T7, X7, e7, st7⟩ := getF X6 hx hZ hown (host := "") (Or.inl (ww56 hw)) Via.refl e6 f8 (g := (mkF m 28 #[.val (.ref o0), .val (.long q1), .second, .val (.ref b6), .val (.int 0)] [(.ref o0), (.int 0)])) rfl rfl (hb hby d8_28)
  refine step st7 ?_
  show G T7 (mkF m 31 #[.val (.ref o0), .val (.long q1), .second, .val (.ref b6), .val (.int 0)] [(.int 4), (.int 0)])
  refine step (fun t k => XS.icmpNo X7.here hx rfl (hb hby d8_31) rfl (tlt (by decide : (0 : Int32) < (4 : Int32))).2.1 k) ?_
  show G T7 (mkF m 34 #[.val (.ref o0), .val (.long q1), .second, .val (.ref b6), .val (.int 0)] [])
  refine step (fun t k => XS.aloadN X7.here hx rfl (hb hby d8_34) rfl rfl k) ?_
  show G T7 (mkF m 35 #[.val (.ref o0), .val (.long q1), .second, .val (.ref b6), .val (.int 0)] [(.ref b6)])
  refine step (fun t k => XS.iload X7.here hx rfl (hb hby d8_35) rfl k) ?_
  show G T7 (mkF m 37 #[.val (.ref o0), .val (.long q1), .second, .val (.ref b6), .val (.int 0)] [(.int 0), (.ref b6)])
  refine step (fun t k => XS.aloadN X7.here hx rfl (hb hby d8_37) rfl rfl k) ?_
  show G T7 (mkF m 38 #[.val (.ref o0), .val (.long q1), .second, .val (.ref b6), .val (.int 0)] [(.ref o0), (.int 0), (.ref b6)])
  have f10 := (Fld.ext E6 Ft)
  obtain ⟨T9, X9, e9, st9⟩ := getF X7 hx hZ hown (host := "") (Or.inl (ww49 hw)) Via.refl e7 f10 (g := (mkF m 38 #[.val (.ref o0), .val (.long q1), .second, .val (.ref b6), .val (.int 0)] [(.ref o0), (.int 0), (.ref b6)])) rfl rfl (hb hby d8_38)
  refine step st9 ?_
  show G T9 (mkF m 41 #[.val (.ref o0), .val (.long q1), .second, .val (.ref b6), .val (.int 0)] [(.ref ar), (.int 0), (.ref b6)])
  refine step (fun t k => XS.aloadN X9.here hx rfl (hb hby d8_41) rfl rfl k) ?_
  show G T9 (mkF m 42 #[.val (.ref o0), .val (.long q1), .second, .val (.ref b6), .val (.int 0)] [(.ref o0), (.ref ar), (.int 0), (.ref b6)])
  have f12 := (Fld.ext E6 Fh)
  obtain ⟨T11, X11, e11, st11⟩ := getF X9 hx hZ hown (host := "") (Or.inl (ww58 hw)) Via.refl e9 f12 (g := (mkF m 42 #[.val (.ref o0), .val (.long q1), .second, .val (.ref b6), .val (.int 0)] [(.ref o0), (.ref ar), (.int 0), (.ref b6)])) rfl rfl (hb hby d8_42)
  refine step st11 ?_
  show G T11 (mkF m 45 #[.val (.ref o0), .val (.long q1), .second, .val (.ref b6), .val (.int 0)] [(.int 0), (.ref ar), (.int 0), (.ref b6)])
  refine step (fun t k => XS.iload X11.here hx rfl (hb hby d8_45) rfl k) ?_
  show G T11 (mkF m 47 #[.val (.ref o0), .val (.long q1), .second, .val (.ref b6), .val (.int 0)] [(.int 0), (.int 0), (.ref ar), (.int 0), (.ref b6)])
  refine step (fun t k => XS.iadd X11.here hx rfl (hb hby d8_47) rfl k) ?_
  show G T11 (mkF m 48 #[.val (.ref o0), .val (.long q1), .second, .val (.ref b6), .val (.int 0)] [(.int ((0 : Int32) + (0 : Int32))), (.ref ar), (.int 0), (.ref b6)])
  rw [(by decide : ((0 : Int32) + (0 : Int32)) = (0 : Int32))]
  show G T11 (mkF m 48 #[.val (.ref o0), .val (.long q1), .second, .val (.ref b6), .val (.int 0)] [(.int 0), (.ref ar), (.int 0), (.ref b6)])
  refine step (fun t k => XS.aloadN X11.here hx rfl (hb hby d8_48) rfl rfl k) ?_
  show G T11 (mkF m 49 #[.val (.ref o0), .val (.long q1), .second, .val (.ref b6), .val (.int 0)] [(.ref o0), (.int 0), (.ref ar), (.int 0), (.ref b6)])
  obtain ⟨T13, X13, e13, st13⟩ := getF X11 hx hZ hown (host := "") (Or.inl (ww49 hw)) Via.refl e11 f10 (g := (mkF m 49 #[.val (.ref o0), .val (.long q1), .second, .val (.ref b6), .val (.int 0)] [(.ref o0), (.int 0), (.ref ar), (.int 0), (.ref b6)])) rfl rfl (hb hby d8_49)
  refine step st13 ?_
  show G T13 (mkF m 52 #[.val (.ref o0), .val (.long q1), .second, .val (.ref b6), .val (.int 0)] [(.ref ar), (.int 0), (.ref ar), (.int 0), (.ref b6)])
  have f14 := (Va.ext E6)
  have q15 := own_len X13 hx hZ e13 f14 (g := (mkF m 52 #[.val (.ref o0), .val (.long q1), .second, .val (.ref b6), .val (.int 0)] [(.ref ar), (.int 0), (.ref ar), (.int 0), (.ref b6)])) rfl rfl (hb hby d8_52)
  refine step q15 ?_
  show G T13 (mkF m 53 #[.val (.ref o0), .val (.long q1), .second, .val (.ref b6), .val (.int 0)] [(.int 4), (.int 0), (.ref ar), (.int 0), (.ref b6)])
  refine step (fun t k => iremM X13 hx rfl (hb hby d8_53) rfl (by decide) k) ?_
  show G T13 (mkF m 54 #[.val (.ref o0), .val (.long q1), .second, .val (.ref b6), .val (.int 0)] [(.int ((0 : Int32) % (4 : Int32))), (.ref ar), (.int 0), (.ref b6)])
  rw [(by decide : ((0 : Int32) % (4 : Int32)) = (0 : Int32))]
  show G T13 (mkF m 54 #[.val (.ref o0), .val (.long q1), .second, .val (.ref b6), .val (.int 0)] [(.int 0), (.ref ar), (.int 0), (.ref b6)])
  have q16 := own_ldJ X13 hx hZ e13 f14 (j := (0 : Int32)) (v := (.long x0)) (by decide) (own_at (i := 0) rfl rfl) (g := (mkF m 54 #[.val (.ref o0), .val (.long q1), .second, .val (.ref b6), .val (.int 0)] [(.int 0), (.ref ar), (.int 0), (.ref b6)])) rfl rfl (hb hby d8_54)
  refine step q16 ?_
  show G T13 (mkF m 55 #[.val (.ref o0), .val (.long q1), .second, .val (.ref b6), .val (.int 0)] [(.long x0), (.int 0), (.ref b6)])
  obtain ⟨T17, h17, X17, e17, W17, V17, st17⟩ := own_stJ X13 hx hZ e13 V6 (j := (0 : Int32)) (by decide) (i := 0) rfl (by show 0 < 8; decide) (g := (mkF m 55 #[.val (.ref o0), .val (.long q1), .second, .val (.ref b6), .val (.int 0)] [(.long x0), (.int 0), (.ref b6)])) rfl rfl (hb hby d8_55)
  replace V17 : Arv Z h17 b6 k6 .long (8 : Int32) [(.long x0), (.long 0), (.long 0), (.long 0), (.long 0), (.long 0), (.long 0), (.long 0)] (.long 0) := V17
  have N17 := Fr.snoc X17 N0 ge_b6
  obtain ⟨lc17, X17, N17⟩ := own_gen X17 N17
  have O17 := O6.wr W17 ge_b6
  have K17 : Keep h0 h17 [o0] := K6.wr W17 (Or.inr sz_b6)
  refine step st17 ?_
  show G T17 (mkF m 56 #[.val (.ref o0), .val (.long q1), .second, .val (.ref b6), .val (.int 0)] [])
  refine step (fun t k => XS.iinc X17.here hx rfl (hb hby d8_56) rfl (l' := #[.val (.ref o0), .val (.long q1), .second, .val (.ref b6), .val (.int ((0 : Int32) + (1 : Int32)))]) rfl k) ?_
  show G T17 (mkF m 59 #[.val (.ref o0), .val (.long q1), .second, .val (.ref b6), .val (.int ((0 : Int32) + (1 : Int32)))] [])
  rw [(by decide : ((0 : Int32) + (1 : Int32)) = (1 : Int32))]
  show G T17 (mkF m 59 #[.val (.ref o0), .val (.long q1), .second, .val (.ref b6), .val (.int 1)] [])
  refine step (fun t k => XS.goto X17.here hx rfl (pc0 := 59) (pc' := 25) rfl (hb hby d8_59) (by decide) (by decide) k) ?_
  show G T17 (mkF m 25 #[.val (.ref o0), .val (.long q1), .second, .val (.ref b6), .val (.int 1)] [])
  refine step (fun t k => XS.iload X17.here hx rfl (hb hby d8_25) rfl k) ?_
  show G T17 (mkF m 27 #[.val (.ref o0), .val (.long q1), .second, .val (.ref b6), .val (.int 1)] [(.int 1)])
  refine step (fun t k => XS.aloadN X17.here hx rfl (hb hby d8_27) rfl rfl k) ?_
  show G T17 (mkF m 28 #[.val (.ref o0), .val (.long q1), .second, .val (.ref b6), .val (.int 1)] [(.ref o0), (.int 1)])
  have f19 := (Fld.other W17 f8 (Or.inl (Nat.ne_of_lt lt_o0_b6)))
  obtain ⟨T18, X18, e18, st18⟩ := getF X17 hx hZ hown (host := "") (Or.inl (ww56 hw)) Via.refl e17 f19 (g := (mkF m 28 #[.val (.ref o0), .val (.long q1), .second, .val (.ref b6), .val (.int 1)] [(.ref o0), (.int 1)])) rfl rfl (hb hby d8_28)
  refine step st18 ?_
  show G T18 (mkF m 31 #[.val (.ref o0), .val (.long q1), .second, .val (.ref b6), .val (.int 1)] [(.int 4), (.int 1)])
  refine step (fun t k => XS.icmpNo X18.here hx rfl (hb hby d8_31) rfl (tlt (by decide : (1 : Int32) < (4 : Int32))).2.1 k) ?_
  show G T18 (mkF m 34 #[.val (.ref o0), .val (.long q1), .second, .val (.ref b6), .val (.int 1)] [])
  refine step (fun t k => XS.aloadN X18.here hx rfl (hb hby d8_34) rfl rfl k) ?_
  show G T18 (mkF m 35 #[.val (.ref o0), .val (.long q1), .second, .val (.ref b6), .val (.int 1)] [(.ref b6)])
  refine step (fun t k => XS.iload X18.here hx rfl (hb hby d8_35) rfl k) ?_
  show G T18 (mkF m 37 #[.val (.ref o0), .val (.long q1), .second, .val (.ref b6), .val (.int 1)] [(.int 1), (.ref b6)])
  refine step (fun t k => XS.aloadN X18.here hx rfl (hb hby d8_37) rfl rfl k) ?_
  show G T18 (mkF m 38 #[.val (.ref o0), .val (.long q1), .second, .val (.ref b6), .val (.int 1)] [(.ref o0), (.int 1), (.ref b6)])
  have f21 := (Fld.other W17 f10 (Or.inl (Nat.ne_of_lt lt_o0_b6)))
  obtain ⟨T20, X20, e20, st20⟩ := getF X18 hx hZ hown (host := "") (Or.inl (ww49 hw)) Via.refl e18 f21 (g := (mkF m 38 #[.val (.ref o0), .val (.long q1), .second, .val (.ref b6), .val (.int 1)] [(.ref o0), (.int 1), (.ref b6)])) rfl rfl (hb hby d8_38)
  refine step st20 ?_
  show G T20 (mkF m 41 #[.val (.ref o0), .val (.long q1), .second, .val (.ref b6), .val (.int 1)] [(.ref ar), (.int 1), (.ref b6)])
  refine step (fun t k => XS.aloadN X20.here hx rfl (hb hby d8_41) rfl rfl k) ?_
  show G T20 (mkF m 42 #[.val (.ref o0), .val (.long q1), .second, .val (.ref b6), .val (.int 1)] [(.ref o0), (.ref ar), (.int 1), (.ref b6)])
  have f23 := (Fld.other W17 f12 (Or.inl (Nat.ne_of_lt lt_o0_b6)))
  obtain ⟨T22, X22, e22, st22⟩ := getF X20 hx hZ hown (host := "") (Or.inl (ww58 hw)) Via.refl e20 f23 (g := (mkF m 42 #[.val (.ref o0), .val (.long q1), .second, .val (.ref b6), .val (.int 1)] [(.ref o0), (.ref ar), (.int 1), (.ref b6)])) rfl rfl (hb hby d8_42)
  refine step st22 ?_
  show G T22 (mkF m 45 #[.val (.ref o0), .val (.long q1), .second, .val (.ref b6), .val (.int 1)] [(.int 0), (.ref ar), (.int 1), (.ref b6)])
  refine step (fun t k => XS.iload X22.here hx rfl (hb hby d8_45) rfl k) ?_
  show G T22 (mkF m 47 #[.val (.ref o0), .val (.long q1), .second, .val (.ref b6), .val (.int 1)] [(.int 1), (.int 0), (.ref ar), (.int 1), (.ref b6)])
  refine step (fun t k => XS.iadd X22.here hx rfl (hb hby d8_47) rfl k) ?_
  show G T22 (mkF m 48 #[.val (.ref o0), .val (.long q1), .second, .val (.ref b6), .val (.int 1)] [(.int ((0 : Int32) + (1 : Int32))), (.ref ar), (.int 1), (.ref b6)])
  rw [(by decide : ((0 : Int32) + (1 : Int32)) = (1 : Int32))]
  show G T22 (mkF m 48 #[.val (.ref o0), .val (.long q1), .second, .val (.ref b6), .val (.int 1)] [(.int 1), (.ref ar), (.int 1), (.ref b6)])
  refine step (fun t k => XS.aloadN X22.here hx rfl (hb hby d8_48) rfl rfl k) ?_
  show G T22 (mkF m 49 #[.val (.ref o0), .val (.long q1), .second, .val (.ref b6), .val (.int 1)] [(.ref o0), (.int 1), (.ref ar), (.int 1), (.ref b6)])
  obtain ⟨T24, X24, e24, st24⟩ := getF X22 hx hZ hown (host := "") (Or.inl (ww49 hw)) Via.refl e22 f21 (g := (mkF m 49 #[.val (.ref o0), .val (.long q1), .second, .val (.ref b6), .val (.int 1)] [(.ref o0), (.int 1), (.ref ar), (.int 1), (.ref b6)])) rfl rfl (hb hby d8_49)
  refine step st24 ?_
  show G T24 (mkF m 52 #[.val (.ref o0), .val (.long q1), .second, .val (.ref b6), .val (.int 1)] [(.ref ar), (.int 1), (.ref ar), (.int 1), (.ref b6)])
  have f25 := (Arv.other f14 W17 (Nat.ne_of_lt lt_ar_b6))
  have q26 := own_len X24 hx hZ e24 f25 (g := (mkF m 52 #[.val (.ref o0), .val (.long q1), .second, .val (.ref b6), .val (.int 1)] [(.ref ar), (.int 1), (.ref ar), (.int 1), (.ref b6)])) rfl rfl (hb hby d8_52)
  refine step q26 ?_
  show G T24 (mkF m 53 #[.val (.ref o0), .val (.long q1), .second, .val (.ref b6), .val (.int 1)] [(.int 4), (.int 1), (.ref ar), (.int 1), (.ref b6)])
  refine step (fun t k => iremM X24 hx rfl (hb hby d8_53) rfl (by decide) k) ?_
  show G T24 (mkF m 54 #[.val (.ref o0), .val (.long q1), .second, .val (.ref b6), .val (.int 1)] [(.int ((1 : Int32) % (4 : Int32))), (.ref ar), (.int 1), (.ref b6)])
  rw [(by decide : ((1 : Int32) % (4 : Int32)) = (1 : Int32))]
  show G T24 (mkF m 54 #[.val (.ref o0), .val (.long q1), .second, .val (.ref b6), .val (.int 1)] [(.int 1), (.ref ar), (.int 1), (.ref b6)])
  have q27 := own_ldJ X24 hx hZ e24 f25 (j := (1 : Int32)) (v := (.long x1)) (by decide) (own_at (i := 1) rfl rfl) (g := (mkF m 54 #[.val (.ref o0), .val (.long q1), .second, .val (.ref b6), .val (.int 1)] [(.int 1), (.ref ar), (.int 1), (.ref b6)])) rfl rfl (hb hby d8_54)
  refine step q27 ?_
  show G T24 (mkF m 55 #[.val (.ref o0), .val (.long q1), .second, .val (.ref b6), .val (.int 1)] [(.long x1), (.int 1), (.ref b6)])
  obtain ⟨T28, h28, X28, e28, W28, V28, st28⟩ := own_stJ X24 hx hZ e24 V17 (j := (1 : Int32)) (by decide) (i := 1) rfl (by show 1 < 8; decide) (g := (mkF m 55 #[.val (.ref o0), .val (.long q1), .second, .val (.ref b6), .val (.int 1)] [(.long x1), (.int 1), (.ref b6)])) rfl rfl (hb hby d8_55)
  replace V28 : Arv Z h28 b6 k6 .long (8 : Int32) [(.long x0), (.long x1), (.long 0), (.long 0), (.long 0), (.long 0), (.long 0), (.long 0)] (.long 0) := V28
  have N28 := Fr.snoc X28 N17 ge_b6
  obtain ⟨lc28, X28, N28⟩ := own_gen X28 N28
  have O28 := O17.wr W28 ge_b6
  have K28 : Keep h0 h28 [o0] := K17.wr W28 (Or.inr sz_b6)
  refine step st28 ?_
  show G T28 (mkF m 56 #[.val (.ref o0), .val (.long q1), .second, .val (.ref b6), .val (.int 1)] [])
  refine step (fun t k => XS.iinc X28.here hx rfl (hb hby d8_56) rfl (l' := #[.val (.ref o0), .val (.long q1), .second, .val (.ref b6), .val (.int ((1 : Int32) + (1 : Int32)))]) rfl k) ?_
  show G T28 (mkF m 59 #[.val (.ref o0), .val (.long q1), .second, .val (.ref b6), .val (.int ((1 : Int32) + (1 : Int32)))] [])
  rw [(by decide : ((1 : Int32) + (1 : Int32)) = (2 : Int32))]
  show G T28 (mkF m 59 #[.val (.ref o0), .val (.long q1), .second, .val (.ref b6), .val (.int 2)] [])
  refine step (fun t k => XS.goto X28.here hx rfl (pc0 := 59) (pc' := 25) rfl (hb hby d8_59) (by decide) (by decide) k) ?_
  show G T28 (mkF m 25 #[.val (.ref o0), .val (.long q1), .second, .val (.ref b6), .val (.int 2)] [])
  refine step (fun t k => XS.iload X28.here hx rfl (hb hby d8_25) rfl k) ?_
  show G T28 (mkF m 27 #[.val (.ref o0), .val (.long q1), .second, .val (.ref b6), .val (.int 2)] [(.int 2)])
  refine step (fun t k => XS.aloadN X28.here hx rfl (hb hby d8_27) rfl rfl k) ?_
  show G T28 (mkF m 28 #[.val (.ref o0), .val (.long q1), .second, .val (.ref b6), .val (.int 2)] [(.ref o0), (.int 2)])
  have f30 := (Fld.other W28 f19 (Or.inl (Nat.ne_of_lt lt_o0_b6)))
  obtain ⟨T29, X29, e29, st29⟩ := getF X28 hx hZ hown (host := "") (Or.inl (ww56 hw)) Via.refl e28 f30 (g := (mkF m 28 #[.val (.ref o0), .val (.long q1), .second, .val (.ref b6), .val (.int 2)] [(.ref o0), (.int 2)])) rfl rfl (hb hby d8_28)
  refine step st29 ?_
  show G T29 (mkF m 31 #[.val (.ref o0), .val (.long q1), .second, .val (.ref b6), .val (.int 2)] [(.int 4), (.int 2)])
  refine step (fun t k => XS.icmpNo X29.here hx rfl (hb hby d8_31) rfl (tlt (by decide : (2 : Int32) < (4 : Int32))).2.1 k) ?_
  show G T29 (mkF m 34 #[.val (.ref o0), .val (.long q1), .second, .val (.ref b6), .val (.int 2)] [])
  refine step (fun t k => XS.aloadN X29.here hx rfl (hb hby d8_34) rfl rfl k) ?_
  show G T29 (mkF m 35 #[.val (.ref o0), .val (.long q1), .second, .val (.ref b6), .val (.int 2)] [(.ref b6)])
  refine step (fun t k => XS.iload X29.here hx rfl (hb hby d8_35) rfl k) ?_
  show G T29 (mkF m 37 #[.val (.ref o0), .val (.long q1), .second, .val (.ref b6), .val (.int 2)] [(.int 2), (.ref b6)])
  refine step (fun t k => XS.aloadN X29.here hx rfl (hb hby d8_37) rfl rfl k) ?_
  show G T29 (mkF m 38 #[.val (.ref o0), .val (.long q1), .second, .val (.ref b6), .val (.int 2)] [(.ref o0), (.int 2), (.ref b6)])
  have f32 := (Fld.other W28 f21 (Or.inl (Nat.ne_of_lt lt_o0_b6)))
  obtain ⟨T31, X31, e31, st31⟩ := getF X29 hx hZ hown (host := "") (Or.inl (ww49 hw)) Via.refl e29 f32 (g := (mkF m 38 #[.val (.ref o0), .val (.long q1), .second, .val (.ref b6), .val (.int 2)] [(.ref o0), (.int 2), (.ref b6)])) rfl rfl (hb hby d8_38)
  refine step st31 ?_
  show G T31 (mkF m 41 #[.val (.ref o0), .val (.long q1), .second, .val (.ref b6), .val (.int 2)] [(.ref ar), (.int 2), (.ref b6)])
  refine step (fun t k => XS.aloadN X31.here hx rfl (hb hby d8_41) rfl rfl k) ?_
  show G T31 (mkF m 42 #[.val (.ref o0), .val (.long q1), .second, .val (.ref b6), .val (.int 2)] [(.ref o0), (.ref ar), (.int 2), (.ref b6)])
  have f34 := (Fld.other W28 f23 (Or.inl (Nat.ne_of_lt lt_o0_b6)))
  obtain ⟨T33, X33, e33, st33⟩ := getF X31 hx hZ hown (host := "") (Or.inl (ww58 hw)) Via.refl e31 f34 (g := (mkF m 42 #[.val (.ref o0), .val (.long q1), .second, .val (.ref b6), .val (.int 2)] [(.ref o0), (.ref ar), (.int 2), (.ref b6)])) rfl rfl (hb hby d8_42)
  refine step st33 ?_
  show G T33 (mkF m 45 #[.val (.ref o0), .val (.long q1), .second, .val (.ref b6), .val (.int 2)] [(.int 0), (.ref ar), (.int 2), (.ref b6)])
  refine step (fun t k => XS.iload X33.here hx rfl (hb hby d8_45) rfl k) ?_
  show G T33 (mkF m 47 #[.val (.ref o0), .val (.long q1), .second, .val (.ref b6), .val (.int 2)] [(.int 2), (.int 0), (.ref ar), (.int 2), (.ref b6)])
  refine step (fun t k => XS.iadd X33.here hx rfl (hb hby d8_47) rfl k) ?_
  show G T33 (mkF m 48 #[.val (.ref o0), .val (.long q1), .second, .val (.ref b6), .val (.int 2)] [(.int ((0 : Int32) + (2 : Int32))), (.ref ar), (.int 2), (.ref b6)])
  rw [(by decide : ((0 : Int32) + (2 : Int32)) = (2 : Int32))]
  show G T33 (mkF m 48 #[.val (.ref o0), .val (.long q1), .second, .val (.ref b6), .val (.int 2)] [(.int 2), (.ref ar), (.int 2), (.ref b6)])
  refine step (fun t k => XS.aloadN X33.here hx rfl (hb hby d8_48) rfl rfl k) ?_
  show G T33 (mkF m 49 #[.val (.ref o0), .val (.long q1), .second, .val (.ref b6), .val (.int 2)] [(.ref o0), (.int 2), (.ref ar), (.int 2), (.ref b6)])
  obtain ⟨T35, X35, e35, st35⟩ := getF X33 hx hZ hown (host := "") (Or.inl (ww49 hw)) Via.refl e33 f32 (g := (mkF m 49 #[.val (.ref o0), .val (.long q1), .second, .val (.ref b6), .val (.int 2)] [(.ref o0), (.int 2), (.ref ar), (.int 2), (.ref b6)])) rfl rfl (hb hby d8_49)
  refine step st35 ?_
  show G T35 (mkF m 52 #[.val (.ref o0), .val (.long q1), .second, .val (.ref b6), .val (.int 2)] [(.ref ar), (.int 2), (.ref ar), (.int 2), (.ref b6)])
  have f36 := (Arv.other f25 W28 (Nat.ne_of_lt lt_ar_b6))
  have q37 := own_len X35 hx hZ e35 f36 (g := (mkF m 52 #[.val (.ref o0), .val (.long q1), .second, .val (.ref b6), .val (.int 2)] [(.ref ar), (.int 2), (.ref ar), (.int 2), (.ref b6)])) rfl rfl (hb hby d8_52)
  refine step q37 ?_
  show G T35 (mkF m 53 #[.val (.ref o0), .val (.long q1), .second, .val (.ref b6), .val (.int 2)] [(.int 4), (.int 2), (.ref ar), (.int 2), (.ref b6)])
  refine step (fun t k => iremM X35 hx rfl (hb hby d8_53) rfl (by decide) k) ?_
  show G T35 (mkF m 54 #[.val (.ref o0), .val (.long q1), .second, .val (.ref b6), .val (.int 2)] [(.int ((2 : Int32) % (4 : Int32))), (.ref ar), (.int 2), (.ref b6)])
  rw [(by decide : ((2 : Int32) % (4 : Int32)) = (2 : Int32))]
  show G T35 (mkF m 54 #[.val (.ref o0), .val (.long q1), .second, .val (.ref b6), .val (.int 2)] [(.int 2), (.ref ar), (.int 2), (.ref b6)])
  have q38 := own_ldJ X35 hx hZ e35 f36 (j := (2 : Int32)) (v := (.long x2)) (by decide) (own_at (i := 2) rfl rfl) (g := (mkF m 54 #[.val (.ref o0), .val (.long q1), .second, .val (.ref b6), .val (.int 2)] [(.int 2), (.ref ar), (.int 2), (.ref b6)])) rfl rfl (hb hby d8_54)
  refine step q38 ?_
  show G T35 (mkF m 55 #[.val (.ref o0), .val (.long q1), .second, .val (.ref b6), .val (.int 2)] [(.long x2), (.int 2), (.ref b6)])
  obtain ⟨T39, h39, X39, e39, W39, V39, st39⟩ := own_stJ X35 hx hZ e35 V28 (j := (2 : Int32)) (by decide) (i := 2) rfl (by show 2 < 8; decide) (g := (mkF m 55 #[.val (.ref o0), .val (.long q1), .second, .val (.ref b6), .val (.int 2)] [(.long x2), (.int 2), (.ref b6)])) rfl rfl (hb hby d8_55)
  replace V39 : Arv Z h39 b6 k6 .long (8 : Int32) [(.long x0), (.long x1), (.long x2), (.long 0), (.long 0), (.long 0), (.long 0), (.long 0)] (.long 0) := V39
  have N39 := Fr.snoc X39 N28 ge_b6
  obtain ⟨lc39, X39, N39⟩ := own_gen X39 N39
  have O39 := O28.wr W39 ge_b6
  have K39 : Keep h0 h39 [o0] := K28.wr W39 (Or.inr sz_b6)
  refine step st39 ?_
  show G T39 (mkF m 56 #[.val (.ref o0), .val (.long q1), .second, .val (.ref b6), .val (.int 2)] [])
  refine step (fun t k => XS.iinc X39.here hx rfl (hb hby d8_56) rfl (l' := #[.val (.ref o0), .val (.long q1), .second, .val (.ref b6), .val (.int ((2 : Int32) + (1 : Int32)))]) rfl k) ?_
  show G T39 (mkF m 59 #[.val (.ref o0), .val (.long q1), .second, .val (.ref b6), .val (.int ((2 : Int32) + (1 : Int32)))] [])
  rw [(by decide : ((2 : Int32) + (1 : Int32)) = (3 : Int32))]
  show G T39 (mkF m 59 #[.val (.ref o0), .val (.long q1), .second, .val (.ref b6), .val (.int 3)] [])
  refine step (fun t k => XS.goto X39.here hx rfl (pc0 := 59) (pc' := 25) rfl (hb hby d8_59) (by decide) (by decide) k) ?_
  show G T39 (mkF m 25 #[.val (.ref o0), .val (.long q1), .second, .val (.ref b6), .val (.int 3)] [])
  refine step (fun t k => XS.iload X39.here hx rfl (hb hby d8_25) rfl k) ?_
  show G T39 (mkF m 27 #[.val (.ref o0), .val (.long q1), .second, .val (.ref b6), .val (.int 3)] [(.int 3)])
  refine step (fun t k => XS.aloadN X39.here hx rfl (hb hby d8_27) rfl rfl k) ?_
  show G T39 (mkF m 28 #[.val (.ref o0), .val (.long q1), .second, .val (.ref b6), .val (.int 3)] [(.ref o0), (.int 3)])
  have f41 := (Fld.other W39 f30 (Or.inl (Nat.ne_of_lt lt_o0_b6)))
  obtain ⟨T40, X40, e40, st40⟩ := getF X39 hx hZ hown (host := "") (Or.inl (ww56 hw)) Via.refl e39 f41 (g := (mkF m 28 #[.val (.ref o0), .val (.long q1), .second, .val (.ref b6), .val (.int 3)] [(.ref o0), (.int 3)])) rfl rfl (hb hby d8_28)
  refine step st40 ?_
  show G T40 (mkF m 31 #[.val (.ref o0), .val (.long q1), .second, .val (.ref b6), .val (.int 3)] [(.int 4), (.int 3)])
  refine step (fun t k => XS.icmpNo X40.here hx rfl (hb hby d8_31) rfl (tlt (by decide : (3 : Int32) < (4 : Int32))).2.1 k) ?_
  show G T40 (mkF m 34 #[.val (.ref o0), .val (.long q1), .second, .val (.ref b6), .val (.int 3)] [])
  refine step (fun t k => XS.aloadN X40.here hx rfl (hb hby d8_34) rfl rfl k) ?_
  show G T40 (mkF m 35 #[.val (.ref o0), .val (.long q1), .second, .val (.ref b6), .val (.int 3)] [(.ref b6)])
  refine step (fun t k => XS.iload X40.here hx rfl (hb hby d8_35) rfl k) ?_
  show G T40 (mkF m 37 #[.val (.ref o0), .val (.long q1), .second, .val (.ref b6), .val (.int 3)] [(.int 3), (.ref b6)])
  refine step (fun t k => XS.aloadN X40.here hx rfl (hb hby d8_37) rfl rfl k) ?_
  show G T40 (mkF m 38 #[.val (.ref o0), .val (.long q1), .second, .val (.ref b6), .val (.int 3)] [(.ref o0), (.int 3), (.ref b6)])
  have f43 := (Fld.other W39 f32 (Or.inl (Nat.ne_of_lt lt_o0_b6)))
  obtain ⟨T42, X42, e42, st42⟩ := getF X40 hx hZ hown (host := "") (Or.inl (ww49 hw)) Via.refl e40 f43 (g := (mkF m 38 #[.val (.ref o0), .val (.long q1), .second, .val (.ref b6), .val (.int 3)] [(.ref o0), (.int 3), (.ref b6)])) rfl rfl (hb hby d8_38)
  refine step st42 ?_
  show G T42 (mkF m 41 #[.val (.ref o0), .val (.long q1), .second, .val (.ref b6), .val (.int 3)] [(.ref ar), (.int 3), (.ref b6)])
  refine step (fun t k => XS.aloadN X42.here hx rfl (hb hby d8_41) rfl rfl k) ?_
  show G T42 (mkF m 42 #[.val (.ref o0), .val (.long q1), .second, .val (.ref b6), .val (.int 3)] [(.ref o0), (.ref ar), (.int 3), (.ref b6)])
  have f45 := (Fld.other W39 f34 (Or.inl (Nat.ne_of_lt lt_o0_b6)))
  obtain ⟨T44, X44, e44, st44⟩ := getF X42 hx hZ hown (host := "") (Or.inl (ww58 hw)) Via.refl e42 f45 (g := (mkF m 42 #[.val (.ref o0), .val (.long q1), .second, .val (.ref b6), .val (.int 3)] [(.ref o0), (.ref ar), (.int 3), (.ref b6)])) rfl rfl (hb hby d8_42)
  refine step st44 ?_
  show G T44 (mkF m 45 #[.val (.ref o0), .val (.long q1), .second, .val (.ref b6), .val (.int 3)] [(.int 0), (.ref ar), (.int 3), (.ref b6)])
  refine step (fun t k => XS.iload X44.here hx rfl (hb hby d8_45) rfl k) ?_
  show G T44 (mkF m 47 #[.val (.ref o0), .val (.long q1), .second, .val (.ref b6), .val (.int 3)] [(.int 3), (.int 0), (.ref ar), (.int 3), (.ref b6)])
  refine step (fun t k => XS.iadd X44.here hx rfl (hb hby d8_47) rfl k) ?_
  show G T44 (mkF m 48 #[.val (.ref o0), .val (.long q1), .second, .val (.ref b6), .val (.int 3)] [(.int ((0 : Int32) + (3 : Int32))), (.ref ar), (.int 3), (.ref b6)])
  rw [(by decide : ((0 : Int32) + (3 : Int32)) = (3 : Int32))]
  show G T44 (mkF m 48 #[.val (.ref o0), .val (.long q1), .second, .val (.ref b6), .val (.int 3)] [(.int 3), (.ref ar), (.int 3), (.ref b6)])
  refine step (fun t k => XS.aloadN X44.here hx rfl (hb hby d8_48) rfl rfl k) ?_
  show G T44 (mkF m 49 #[.val (.ref o0), .val (.long q1), .second, .val (.ref b6), .val (.int 3)] [(.ref o0), (.int 3), (.ref ar), (.int 3), (.ref b6)])
  obtain ⟨T46, X46, e46, st46⟩ := getF X44 hx hZ hown (host := "") (Or.inl (ww49 hw)) Via.refl e44 f43 (g := (mkF m 49 #[.val (.ref o0), .val (.long q1), .second, .val (.ref b6), .val (.int 3)] [(.ref o0), (.int 3), (.ref ar), (.int 3), (.ref b6)])) rfl rfl (hb hby d8_49)
  refine step st46 ?_
  show G T46 (mkF m 52 #[.val (.ref o0), .val (.long q1), .second, .val (.ref b6), .val (.int 3)] [(.ref ar), (.int 3), (.ref ar), (.int 3), (.ref b6)])
  have f47 := (Arv.other f36 W39 (Nat.ne_of_lt lt_ar_b6))
  have q48 := own_len X46 hx hZ e46 f47 (g := (mkF m 52 #[.val (.ref o0), .val (.long q1), .second, .val (.ref b6), .val (.int 3)] [(.ref ar), (.int 3), (.ref ar), (.int 3), (.ref b6)])) rfl rfl (hb hby d8_52)
  refine step q48 ?_
  show G T46 (mkF m 53 #[.val (.ref o0), .val (.long q1), .second, .val (.ref b6), .val (.int 3)] [(.int 4), (.int 3), (.ref ar), (.int 3), (.ref b6)])
  refine step (fun t k => iremM X46 hx rfl (hb hby d8_53) rfl (by decide) k) ?_
  show G T46 (mkF m 54 #[.val (.ref o0), .val (.long q1), .second, .val (.ref b6), .val (.int 3)] [(.int ((3 : Int32) % (4 : Int32))), (.ref ar), (.int 3), (.ref b6)])
  rw [(by decide : ((3 : Int32) % (4 : Int32)) = (3 : Int32))]
  show G T46 (mkF m 54 #[.val (.ref o0), .val (.long q1), .second, .val (.ref b6), .val (.int 3)] [(.int 3), (.ref ar), (.int 3), (.ref b6)])
  have q49 := own_ldJ X46 hx hZ e46 f47 (j := (3 : Int32)) (v := (.long x3)) (by decide) (own_at (i := 3) rfl rfl) (g := (mkF m 54 #[.val (.ref o0), .val (.long q1), .second, .val (.ref b6), .val (.int 3)] [(.int 3), (.ref ar), (.int 3), (.ref b6)])) rfl rfl (hb hby d8_54)
  refine step q49 ?_
  show G T46 (mkF m 55 #[.val (.ref o0), .val (.long q1), .second, .val (.ref b6), .val (.int 3)] [(.long x3), (.int 3), (.ref b6)])
  obtain ⟨T50, h50, X50, e50, W50, V50, st50⟩ := own_stJ X46 hx hZ e46 V39 (j := (3 : Int32)) (by decide) (i := 3) rfl (by show 3 < 8; decide) (g := (mkF m 55 #[.val (.ref o0), .val (.long q1), .second, .val (.ref b6), .val (.int 3)] [(.long x3), (.int 3), (.ref b6)])) rfl rfl (hb hby d8_55)
  replace V50 : Arv Z h50 b6 k6 .long (8 : Int32) [(.long x0), (.long x1), (.long x2), (.long x3), (.long 0), (.long 0), (.long 0), (.long 0)] (.long 0) := V50
  have N50 := Fr.snoc X50 N39 ge_b6
  obtain ⟨lc50, X50, N50⟩ := own_gen X50 N50
  have O50 := O39.wr W50 ge_b6
  have K50 : Keep h0 h50 [o0] := K39.wr W50 (Or.inr sz_b6)
  refine step st50 ?_
  show G T50 (mkF m 56 #[.val (.ref o0), .val (.long q1), .second, .val (.ref b6), .val (.int 3)] [])
  refine step (fun t k => XS.iinc X50.here hx rfl (hb hby d8_56) rfl (l' := #[.val (.ref o0), .val (.long q1), .second, .val (.ref b6), .val (.int ((3 : Int32) + (1 : Int32)))]) rfl k) ?_
  show G T50 (mkF m 59 #[.val (.ref o0), .val (.long q1), .second, .val (.ref b6), .val (.int ((3 : Int32) + (1 : Int32)))] [])
  rw [(by decide : ((3 : Int32) + (1 : Int32)) = (4 : Int32))]
  show G T50 (mkF m 59 #[.val (.ref o0), .val (.long q1), .second, .val (.ref b6), .val (.int 4)] [])
  refine step (fun t k => XS.goto X50.here hx rfl (pc0 := 59) (pc' := 25) rfl (hb hby d8_59) (by decide) (by decide) k) ?_
  show G T50 (mkF m 25 #[.val (.ref o0), .val (.long q1), .second, .val (.ref b6), .val (.int 4)] [])
  refine step (fun t k => XS.iload X50.here hx rfl (hb hby d8_25) rfl k) ?_
  show G T50 (mkF m 27 #[.val (.ref o0), .val (.long q1), .second, .val (.ref b6), .val (.int 4)] [(.int 4)])
  refine step (fun t k => XS.aloadN X50.here hx rfl (hb hby d8_27) rfl rfl k) ?_
  show G T50 (mkF m 28 #[.val (.ref o0), .val (.long q1), .second, .val (.ref b6), .val (.int 4)] [(.ref o0), (.int 4)])
  have f52 := (Fld.other W50 f41 (Or.inl (Nat.ne_of_lt lt_o0_b6)))
  obtain ⟨T51, X51, e51, st51⟩ := getF X50 hx hZ hown (host := "") (Or.inl (ww56 hw)) Via.refl e50 f52 (g := (mkF m 28 #[.val (.ref o0), .val (.long q1), .second, .val (.ref b6), .val (.int 4)] [(.ref o0), (.int 4)])) rfl rfl (hb hby d8_28)
  refine step st51 ?_
  show G T51 (mkF m 31 #[.val (.ref o0), .val (.long q1), .second, .val (.ref b6), .val (.int 4)] [(.int 4), (.int 4)])
  refine step (fun t k => XS.icmpYes X51.here hx rfl (pc0 := 31) (pc' := 62) rfl (hb hby d8_31) rfl (flt (by decide : ¬ ((4 : Int32) < (4 : Int32)))).2.1 (by decide) (by decide) k) ?_
  show G T51 (mkF m 62 #[.val (.ref o0), .val (.long q1), .second, .val (.ref b6), .val (.int 4)] [])
  refine step (fun t k => XS.aloadN X51.here hx rfl (hb hby d8_62) rfl rfl k) ?_
  show G T51 (mkF m 63 #[.val (.ref o0), .val (.long q1), .second, .val (.ref b6), .val (.int 4)] [(.ref o0)])
  refine step (fun t k => XS.aloadN X51.here hx rfl (hb hby d8_63) rfl rfl k) ?_
  show G T51 (mkF m 64 #[.val (.ref o0), .val (.long q1), .second, .val (.ref b6), .val (.int 4)] [(.ref b6), (.ref o0)])
  have f54 := (Fld.other W50 f43 (Or.inl (Nat.ne_of_lt lt_o0_b6)))
  have f55 := (Exa.wr W50 (Exa.wr W39 (Exa.wr W28 (Exa.wr W17 (Exa.ext E6 Ex)))))
  obtain ⟨T53, h53, X53, e53, W53, st53⟩ := putF X51 hx hZ hown (host := "") (Or.inl (ww49 hw)) Via.refl e51 f54 f55 (Or.inl (ww50 hw)) (ww43 hw) (ty := (.array .long)) (by decide) rfl rfl (g := (mkF m 64 #[.val (.ref o0), .val (.long q1), .second, .val (.ref b6), .val (.int 4)] [(.ref b6), (.ref o0)])) rfl rfl (hb hby d8_64)
  have F53 : Fld Z h53 o0 cn_0 "times" "[J" (.ref b6) := Fld.same W53 f54
  have N53 := Fr.snoc X53 N50 geo
  obtain ⟨lc53, X53, N53⟩ := own_gen X53 N53
  have O53 := O50.wr W53 geo
  have K53 : Keep h0 h53 [o0] := K50.wr W53 (Or.inl (List.mem_of_getElem? (i := 0) rfl))
  refine step st53 ?_
  show G T53 (mkF m 67 #[.val (.ref o0), .val (.long q1), .second, .val (.ref b6), .val (.int 4)] [])
  refine step (fun t k => XS.aloadN X53.here hx rfl (hb hby d8_67) rfl rfl k) ?_
  show G T53 (mkF m 68 #[.val (.ref o0), .val (.long q1), .second, .val (.ref b6), .val (.int 4)] [(.ref o0)])
  refine step (fun t k => XS.iconst X53.here hx rfl (hb hby d8_68) k) ?_
  show G T53 (mkF m 69 #[.val (.ref o0), .val (.long q1), .second, .val (.ref b6), .val (.int 4)] [(.int 0), (.ref o0)])
  have f57 := (Fld.other W53 (Fld.other W50 f45 (Or.inl (Nat.ne_of_lt lt_o0_b6))) (Or.inr (slot_ne (Or.inl (ww59 hw)) (Or.inl (ww50 hw)) (by decide) (t := .int) (t' := (.array .long)) (by decide) (by decide))))
  have f58 := (Exa.wr W53 f55)
  obtain ⟨T56, h56, X56, e56, W56, st56⟩ := putF X53 hx hZ hown (host := "") (Or.inl (ww58 hw)) Via.refl e53 f57 f58 (Or.inl (ww59 hw)) (ww43 hw) (ty := .int) (by decide) rfl rfl (g := (mkF m 69 #[.val (.ref o0), .val (.long q1), .second, .val (.ref b6), .val (.int 4)] [(.int 0), (.ref o0)])) rfl rfl (hb hby d8_69)
  have F56 : Fld Z h56 o0 cn_0 "head" "I" (.int 0) := Fld.same W56 f57
  have N56 := Fr.snoc X56 N53 geo
  obtain ⟨lc56, X56, N56⟩ := own_gen X56 N56
  have O56 := O53.wr W56 geo
  have K56 : Keep h0 h56 [o0] := K53.wr W56 (Or.inl (List.mem_of_getElem? (i := 0) rfl))
  refine step st56 ?_
  show G T56 (mkF m 72 #[.val (.ref o0), .val (.long q1), .second, .val (.ref b6), .val (.int 4)] [])
  refine step (fun t k => XS.aloadN X56.here hx rfl (hb hby d8_72) rfl rfl k) ?_
  show G T56 (mkF m 73 #[.val (.ref o0), .val (.long q1), .second, .val (.ref b6), .val (.int 4)] [(.ref o0)])
  have f60 := (Fld.other W56 F53 (Or.inr (slot_ne (Or.inl (ww50 hw)) (Or.inl (ww59 hw)) (by decide) (t := (.array .long)) (t' := .int) (by decide) (by decide))))
  obtain ⟨T59, X59, e59, st59⟩ := getF X56 hx hZ hown (host := "") (Or.inl (ww49 hw)) Via.refl e56 f60 (g := (mkF m 73 #[.val (.ref o0), .val (.long q1), .second, .val (.ref b6), .val (.int 4)] [(.ref o0)])) rfl rfl (hb hby d8_73)
  refine step st59 ?_
  show G T59 (mkF m 76 #[.val (.ref o0), .val (.long q1), .second, .val (.ref b6), .val (.int 4)] [(.ref b6)])
  refine step (fun t k => XS.aloadN X59.here hx rfl (hb hby d8_76) rfl rfl k) ?_
  show G T59 (mkF m 77 #[.val (.ref o0), .val (.long q1), .second, .val (.ref b6), .val (.int 4)] [(.ref o0), (.ref b6)])
  obtain ⟨T61, X61, e61, st61⟩ := getF X59 hx hZ hown (host := "") (Or.inl (ww58 hw)) Via.refl e59 F56 (g := (mkF m 77 #[.val (.ref o0), .val (.long q1), .second, .val (.ref b6), .val (.int 4)] [(.ref o0), (.ref b6)])) rfl rfl (hb hby d8_77)
  refine step st61 ?_
  show G T61 (mkF m 80 #[.val (.ref o0), .val (.long q1), .second, .val (.ref b6), .val (.int 4)] [(.int 0), (.ref b6)])
  refine step (fun t k => XS.aloadN X61.here hx rfl (hb hby d8_80) rfl rfl k) ?_
  show G T61 (mkF m 81 #[.val (.ref o0), .val (.long q1), .second, .val (.ref b6), .val (.int 4)] [(.ref o0), (.int 0), (.ref b6)])
  have f63 := (Fld.other W56 (Fld.other W53 f52 (Or.inr (slot_ne (Or.inl (ww57 hw)) (Or.inl (ww50 hw)) (by decide) (t := .int) (t' := (.array .long)) (by decide) (by decide)))) (Or.inr (slot_ne (Or.inl (ww57 hw)) (Or.inl (ww59 hw)) (by decide) (t := .int) (t' := .int) (by decide) (by decide))))
  obtain ⟨T62, X62, e62, st62⟩ := getF X61 hx hZ hown (host := "") (Or.inl (ww56 hw)) Via.refl e61 f63 (g := (mkF m 81 #[.val (.ref o0), .val (.long q1), .second, .val (.ref b6), .val (.int 4)] [(.ref o0), (.int 0), (.ref b6)])) rfl rfl (hb hby d8_81)
  refine step st62 ?_
  show G T62 (mkF m 84 #[.val (.ref o0), .val (.long q1), .second, .val (.ref b6), .val (.int 4)] [(.int 4), (.int 0), (.ref b6)])
  refine step (fun t k => XS.iadd X62.here hx rfl (hb hby d8_84) rfl k) ?_
  show G T62 (mkF m 85 #[.val (.ref o0), .val (.long q1), .second, .val (.ref b6), .val (.int 4)] [(.int ((0 : Int32) + (4 : Int32))), (.ref b6)])
  rw [(by decide : ((0 : Int32) + (4 : Int32)) = (4 : Int32))]
  show G T62 (mkF m 85 #[.val (.ref o0), .val (.long q1), .second, .val (.ref b6), .val (.int 4)] [(.int 4), (.ref b6)])
  refine step (fun t k => XS.aloadN X62.here hx rfl (hb hby d8_85) rfl rfl k) ?_
  show G T62 (mkF m 86 #[.val (.ref o0), .val (.long q1), .second, .val (.ref b6), .val (.int 4)] [(.ref o0), (.int 4), (.ref b6)])
  obtain ⟨T64, X64, e64, st64⟩ := getF X62 hx hZ hown (host := "") (Or.inl (ww49 hw)) Via.refl e62 f60 (g := (mkF m 86 #[.val (.ref o0), .val (.long q1), .second, .val (.ref b6), .val (.int 4)] [(.ref o0), (.int 4), (.ref b6)])) rfl rfl (hb hby d8_86)
  refine step st64 ?_
  show G T64 (mkF m 89 #[.val (.ref o0), .val (.long q1), .second, .val (.ref b6), .val (.int 4)] [(.ref b6), (.int 4), (.ref b6)])
  have f65 := (Arv.other (Arv.other V50 W53 (Nat.ne_of_gt lt_o0_b6)) W56 (Nat.ne_of_gt lt_o0_b6))
  have q66 := own_len X64 hx hZ e64 f65 (g := (mkF m 89 #[.val (.ref o0), .val (.long q1), .second, .val (.ref b6), .val (.int 4)] [(.ref b6), (.int 4), (.ref b6)])) rfl rfl (hb hby d8_89)
  refine step q66 ?_
  show G T64 (mkF m 90 #[.val (.ref o0), .val (.long q1), .second, .val (.ref b6), .val (.int 4)] [(.int 8), (.int 4), (.ref b6)])
  refine step (fun t k => iremM X64 hx rfl (hb hby d8_90) rfl (by decide) k) ?_
  show G T64 (mkF m 91 #[.val (.ref o0), .val (.long q1), .second, .val (.ref b6), .val (.int 4)] [(.int ((4 : Int32) % (8 : Int32))), (.ref b6)])
  rw [(by decide : ((4 : Int32) % (8 : Int32)) = (4 : Int32))]
  show G T64 (mkF m 91 #[.val (.ref o0), .val (.long q1), .second, .val (.ref b6), .val (.int 4)] [(.int 4), (.ref b6)])
  refine step (fun t k => XS.lloadN X64.here hx rfl (hb hby d8_91) rfl k) ?_
  show G T64 (mkF m 92 #[.val (.ref o0), .val (.long q1), .second, .val (.ref b6), .val (.int 4)] [(.long q1), (.int 4), (.ref b6)])
  obtain ⟨T67, h67, X67, e67, W67, V67, st67⟩ := own_stJ X64 hx hZ e64 f65 (j := (4 : Int32)) (by decide) (i := 4) rfl (by show 4 < 8; decide) (g := (mkF m 92 #[.val (.ref o0), .val (.long q1), .second, .val (.ref b6), .val (.int 4)] [(.long q1), (.int 4), (.ref b6)])) rfl rfl (hb hby d8_92)
  replace V67 : Arv Z h67 b6 k6 .long (8 : Int32) [(.long x0), (.long x1), (.long x2), (.long x3), (.long q1), (.long 0), (.long 0), (.long 0)] (.long 0) := V67
  have N67 := Fr.snoc X67 N56 ge_b6
  obtain ⟨lc67, X67, N67⟩ := own_gen X67 N67
  have O67 := O56.wr W67 ge_b6
  have K67 : Keep h0 h67 [o0] := K56.wr W67 (Or.inr sz_b6)
  refine step st67 ?_
  show G T67 (mkF m 93 #[.val (.ref o0), .val (.long q1), .second, .val (.ref b6), .val (.int 4)] [])
  refine step (fun t k => XS.aloadN X67.here hx rfl (hb hby d8_93) rfl rfl k) ?_
  show G T67 (mkF m 94 #[.val (.ref o0), .val (.long q1), .second, .val (.ref b6), .val (.int 4)] [(.ref o0)])
  refine step (fun t k => XS.dup X67.here hx rfl (hb hby d8_94) rfl rfl k) ?_
  show G T67 (mkF m 95 #[.val (.ref o0), .val (.long q1), .second, .val (.ref b6), .val (.int 4)] [(.ref o0), (.ref o0)])
  have f69 := (Fld.other W67 f63 (Or.inl (Nat.ne_of_lt lt_o0_b6)))
  obtain ⟨T68, X68, e68, st68⟩ := getF X67 hx hZ hown (host := "") (Or.inl (ww56 hw)) Via.refl e67 f69 (g := (mkF m 95 #[.val (.ref o0), .val (.long q1), .second, .val (.ref b6), .val (.int 4)] [(.ref o0), (.ref o0)])) rfl rfl (hb hby d8_95)
  refine step st68 ?_
  show G T68 (mkF m 98 #[.val (.ref o0), .val (.long q1), .second, .val (.ref b6), .val (.int 4)] [(.int 4), (.ref o0)])
  refine step (fun t k => XS.iconst X68.here hx rfl (hb hby d8_98) k) ?_
  show G T68 (mkF m 99 #[.val (.ref o0), .val (.long q1), .second, .val (.ref b6), .val (.int 4)] [(.int 1), (.int 4), (.ref o0)])
  refine step (fun t k => XS.iadd X68.here hx rfl (hb hby d8_99) rfl k) ?_
  show G T68 (mkF m 100 #[.val (.ref o0), .val (.long q1), .second, .val (.ref b6), .val (.int 4)] [(.int ((4 : Int32) + (1 : Int32))), (.ref o0)])
  rw [(by decide : ((4 : Int32) + (1 : Int32)) = (5 : Int32))]
  show G T68 (mkF m 100 #[.val (.ref o0), .val (.long q1), .second, .val (.ref b6), .val (.int 4)] [(.int 5), (.ref o0)])
  have f71 := (Exa.wr W67 (Exa.wr W56 f58))
  obtain ⟨T70, h70, X70, e70, W70, st70⟩ := putF X68 hx hZ hown (host := "") (Or.inl (ww56 hw)) Via.refl e68 f69 f71 (Or.inl (ww57 hw)) (ww43 hw) (ty := .int) (by decide) rfl rfl (g := (mkF m 100 #[.val (.ref o0), .val (.long q1), .second, .val (.ref b6), .val (.int 4)] [(.int 5), (.ref o0)])) rfl rfl (hb hby d8_100)
  have F70 : Fld Z h70 o0 cn_0 "size" "I" (.int 5) := Fld.same W70 f69
  have N70 := Fr.snoc X70 N67 geo
  obtain ⟨lc70, X70, N70⟩ := own_gen X70 N70
  have O70 := O67.wr W70 geo
  have K70 : Keep h0 h70 [o0] := K67.wr W70 (Or.inl (List.mem_of_getElem? (i := 0) rfl))
  refine step st70 ?_
  show G T70 (mkF m 103 #[.val (.ref o0), .val (.long q1), .second, .val (.ref b6), .val (.int 4)] [])
  have f72 := (Exa.wr W70 f71)
  have f73 := (Fld.other W70 (Fld.other W67 f60 (Or.inl (Nat.ne_of_lt lt_o0_b6))) (Or.inr (slot_ne (Or.inl (ww50 hw)) (Or.inl (ww57 hw)) (by decide) (t := (.array .long)) (t' := .int) (by decide) (by decide))))
  have f74 := (Fld.other W70 (Fld.other W67 F56 (Or.inl (Nat.ne_of_lt lt_o0_b6))) (Or.inr (slot_ne (Or.inl (ww59 hw)) (Or.inl (ww57 hw)) (by decide) (t := .int) (t' := .int) (by decide) (by decide))))
  have f75 := (Arv.other V67 W70 (Nat.ne_of_gt lt_o0_b6))
  exact ret (v := none) X70 (fun _ => rfl) (fun fs hr => X70.returnOut hx Bd.returns (hb hby d8_103) hr) e70 ⟨b6, k6, rfl, N70, K70, sz_b6, f72, f73, f74, F70, f75⟩ (by decide) (by decide)
abbrev rr_get8 : Room := { frames := 0, cells := 0, slots := 0, locals := 0 }
theorem ef_get8 (m : MethodId) (o0 : Addr) (p1 : Int32) : entryFrame m #[(.ref o0), (.int p1)] 2 = mkF m 0 #[.val (.ref o0), .val (.int p1)] [] := by first | (simp [entryFrame, mkF, argsToLocals, Value.category]; done) | rfl
def f_get8 (w_SLIDING : Addr) (w_CALENDAR : Addr) (w_SwitchMap_co : Addr) (o0 : Addr) (p1 : Int32) (ar : Addr) (ka : ClassId) (x0 : Int64) (x1 : Int64) (x2 : Int64) (x3 : Int64) (x4 : Int64) (x5 : Int64) (x6 : Int64) (x7 : Int64) (hd : Int32) : Int64 := (own_at8 x0 x1 x2 x3 x4 x5 x6 x7 ((hd + p1) % (8 : Int32)))
def Q_get8 (Z : State) (w_SLIDING : Addr) (w_CALENDAR : Addr) (w_SwitchMap_co : Addr) (o0 : Addr) (p1 : Int32) (ar : Addr) (ka : ClassId) (x0 : Int64) (x1 : Int64) (x2 : Int64) (x3 : Int64) (x4 : Int64) (x5 : Int64) (x6 : Int64) (x7 : Int64) (hd : Int32) (h0 : Heap) (n0 : Nat) (v : Option Value) (h : Heap) (L : List Loc) : Prop := v = some (.long (f_get8 w_SLIDING w_CALENDAR w_SwitchMap_co o0 p1 ar ka x0 x1 x2 x3 x4 x5 x6 x7 hd)) ∧ Fr n0 L ∧ h = h0
set_option maxRecDepth 65536 in
set_option maxHeartbeats 40000000 in
theorem rm_get8 (l : Launch) (Z : State) (a0 : Array Value) (hw : ∀ d ∈ tables_1, d.before a0 Z = true) (ws : List Jvm.Cond) (w_SLIDING : Addr) (w_CALENDAR : Addr) (w_SwitchMap_co : Addr) (o0 : Addr) (p1 : Int32) (ar : Addr) (ka : ClassId) (x0 : Int64) (x1 : Int64) (x2 : Int64) (x3 : Int64) (x4 : Int64) (x5 : Int64) (x6 : Int64) (x7 : Int64) (hd : Int32) (h0 : Heap) (n0 : Nat) (Z0 : n0 ≤ h0.size) (ST : own_St Z w_SLIDING w_CALENDAR w_SwitchMap_co) (O0 : Old Z n0 h0) (Ft : Fld Z h0 o0 cn_0 "times" "[J" (.ref ar)) (Fh : Fld Z h0 o0 cn_0 "head" "I" (.int hd)) (Va : Arv Z h0 ar ka .long (8 : Int32) [(.long x0), (.long x1), (.long x2), (.long x3), (.long x4), (.long x5), (.long x6), (.long x7)] (.long 0)) (hix : ¬ ((hd + p1) % (8 : Int32)) < 0 ∧ ((hd + p1) % (8 : Int32)) < (8 : Int32)) :
    MetFree l y_12 (head1 (Jvm.Cond.code y_12 prog_2_method_3_code 2 (some .long) :: ws) rr_get8) (fun a U => a = #[(.ref o0), (.int p1)] ∧ Z.Warmed39 U.vm ∧ U.heap = h0) (fun _ _ _ _ _ => True) (fun _ U o U' => ∃ v L, o = .returned v ∧ Q_get8 Z w_SLIDING w_CALENDAR w_SwitchMap_co o0 p1 ar ka x0 x1 x2 x3 x4 x5 x6 x7 hd h0 n0 v U'.heap L ∧ FrameEnd U o U' L rr_get8.cells rr_get8.slots) := by
  refine MetFree.of_bodySF (plainFor_of_name pn_3) hisR ?_
  intro p e s m args below meth c s₁ Bd hml0 hP hK
  obtain ⟨rfl, hZ, hh⟩ := hP
  have hx := Bd.exec
  have hby := Bd.bytes
  have hml : c.maxLocals = 2 := hml0
  have hown : s.vm.findClass cn_0 = some m.cls := findClass_of_methodNamed Bd.named
  have hnm := (name_of_methodNamed Bd.named Bd.method).1
  have X0 : Stand p l e rr_get8 s m #[(.ref o0), (.int p1)] below meth c s₁ [] 0 0 := Stand.of_body Bd
  have e0 : s₁.heap = h0 := by rw [← hh, Bd.state]; rfl
  have N0 := Fr.nil n0
  obtain ⟨G, step, ret, fin⟩ := own_open (p := p) (l := l) (e := e) (R := rr_get8) (s := s) (m := m) (args := #[(.ref o0), (.int p1)]) (below := below) (meth := meth) (c := c) (rr_get8.cells) (rr_get8.slots) (Q_get8 Z w_SLIDING w_CALENDAR w_SwitchMap_co o0 p1 ar ka x0 x1 x2 x3 x4 x5 x6 x7 hd h0 n0) Bd.notSynchronized
  refine fin (g := entryFrame m #[(.ref o0), (.int p1)] 2) ?_
  rw [ef_get8 m o0 p1]
  show G s₁ (mkF m 0 #[.val (.ref o0), .val (.int p1)] [])
  refine step (fun t k => XS.aloadN X0.here hx rfl (hb hby d11_0) rfl rfl k) ?_
  show G s₁ (mkF m 1 #[.val (.ref o0), .val (.int p1)] [(.ref o0)])
  obtain ⟨T1, X1, e1, st1⟩ := getF X0 hx hZ hown (host := "") (Or.inl (ww49 hw)) Via.refl e0 Ft (g := (mkF m 1 #[.val (.ref o0), .val (.int p1)] [(.ref o0)])) rfl rfl (hb hby d11_1)
  refine step st1 ?_
  show G T1 (mkF m 4 #[.val (.ref o0), .val (.int p1)] [(.ref ar)])
  refine step (fun t k => XS.aloadN X1.here hx rfl (hb hby d11_4) rfl rfl k) ?_
  show G T1 (mkF m 5 #[.val (.ref o0), .val (.int p1)] [(.ref o0), (.ref ar)])
  obtain ⟨T2, X2, e2, st2⟩ := getF X1 hx hZ hown (host := "") (Or.inl (ww58 hw)) Via.refl e1 Fh (g := (mkF m 5 #[.val (.ref o0), .val (.int p1)] [(.ref o0), (.ref ar)])) rfl rfl (hb hby d11_5)
  refine step st2 ?_
  show G T2 (mkF m 8 #[.val (.ref o0), .val (.int p1)] [(.int hd), (.ref ar)])
  refine step (fun t k => XS.iloadN X2.here hx rfl (hb hby d11_8) rfl k) ?_
  show G T2 (mkF m 9 #[.val (.ref o0), .val (.int p1)] [(.int p1), (.int hd), (.ref ar)])
  refine step (fun t k => XS.iadd X2.here hx rfl (hb hby d11_9) rfl k) ?_
  show G T2 (mkF m 10 #[.val (.ref o0), .val (.int p1)] [(.int (hd + p1)), (.ref ar)])
  refine step (fun t k => XS.aloadN X2.here hx rfl (hb hby d11_10) rfl rfl k) ?_
  show G T2 (mkF m 11 #[.val (.ref o0), .val (.int p1)] [(.ref o0), (.int (hd + p1)), (.ref ar)])
  obtain ⟨T3, X3, e3, st3⟩ := getF X2 hx hZ hown (host := "") (Or.inl (ww49 hw)) Via.refl e2 Ft (g := (mkF m 11 #[.val (.ref o0), .val (.int p1)] [(.ref o0), (.int (hd + p1)), (.ref ar)])) rfl rfl (hb hby d11_11)
  refine step st3 ?_
  show G T3 (mkF m 14 #[.val (.ref o0), .val (.int p1)] [(.ref ar), (.int (hd + p1)), (.ref ar)])
  have q4 := own_len X3 hx hZ e3 Va (g := (mkF m 14 #[.val (.ref o0), .val (.int p1)] [(.ref ar), (.int (hd + p1)), (.ref ar)])) rfl rfl (hb hby d11_14)
  refine step q4 ?_
  show G T3 (mkF m 15 #[.val (.ref o0), .val (.int p1)] [(.int 8), (.int (hd + p1)), (.ref ar)])
  refine step (fun t k => iremM X3 hx rfl (hb hby d11_15) rfl (by decide) k) ?_
  show G T3 (mkF m 16 #[.val (.ref o0), .val (.int p1)] [(.int ((hd + p1) % (8 : Int32))), (.ref ar)])
  have q5 := own_ldJ X3 hx hZ e3 Va (j := ((hd + p1) % (8 : Int32))) (v := .long (own_at8 x0 x1 x2 x3 x4 x5 x6 x7 ((hd + p1) % (8 : Int32)))) hix (own_get8 hix) (g := (mkF m 16 #[.val (.ref o0), .val (.int p1)] [(.int ((hd + p1) % (8 : Int32))), (.ref ar)])) rfl rfl (hb hby d11_16)
  refine step q5 ?_
  show G T3 (mkF m 17 #[.val (.ref o0), .val (.int p1)] [(.long (own_at8 x0 x1 x2 x3 x4 x5 x6 x7 ((hd + p1) % (8 : Int32))))])
  exact ret (v := some (.long (own_at8 x0 x1 x2 x3 x4 x5 x6 x7 ((hd + p1) % (8 : Int32))))) X3 (fun h => by rw [Bd.returns] at h; cases h) (fun fs hr => retL X3 hx Bd.returns (hb hby d11_17) hr) e3 ⟨rfl, N0, rfl⟩ (by decide) (by decide)
abbrev rr_add_8_5 : Room := { frames := 0, cells := 0, slots := 0, locals := 0 }
theorem ef_add_8_5 (m : MethodId) (o0 : Addr) (q1 : Int64) : entryFrame m #[(.ref o0), (.long q1)] 5 = mkF m 0 #[.val (.ref o0), .val (.long q1), .second, .unset, .unset] [] := by first | (simp [entryFrame, mkF, argsToLocals, Value.category]; done) | rfl
def Q_add_8_5 (Z : State) (w_SLIDING : Addr) (w_CALENDAR : Addr) (w_SwitchMap_co : Addr) (o0 : Addr) (q1 : Int64) (ar : Addr) (ka : ClassId) (x0 : Int64) (x1 : Int64) (x2 : Int64) (x3 : Int64) (x4 : Int64) (x5 : Int64) (x6 : Int64) (x7 : Int64) (hd : Int32) (sz : Int32) (sz1 : Int32) (h0 : Heap) (n0 : Nat) (v : Option Value) (h : Heap) (L : List Loc) : Prop := v = none ∧ Fr n0 L ∧ Keep h0 h [o0, ar] ∧ Exa Z h o0 cn_0 ∧ Fld Z h o0 cn_0 "times" "[J" (.ref ar) ∧ Fld Z h o0 cn_0 "head" "I" (.int hd) ∧ Fld Z h o0 cn_0 "size" "I" (.int sz1) ∧ Arv Z h ar ka .long (8 : Int32) [(.long x0), (.long x1), (.long x2), (.long x3), (.long x4), (.long q1), (.long x6), (.long x7)] (.long 0)
set_option maxRecDepth 65536 in
set_option maxHeartbeats 40000000 in
theorem rm_add_8_5 (l : Launch) (Z : State) (a0 : Array Value) (hw : ∀ d ∈ tables_1, d.before a0 Z = true) (ws : List Jvm.Cond) (w_SLIDING : Addr) (w_CALENDAR : Addr) (w_SwitchMap_co : Addr) (o0 : Addr) (q1 : Int64) (ar : Addr) (ka : ClassId) (x0 : Int64) (x1 : Int64) (x2 : Int64) (x3 : Int64) (x4 : Int64) (x5 : Int64) (x6 : Int64) (x7 : Int64) (hd : Int32) (sz : Int32) (sz1 : Int32) (h0 : Heap) (n0 : Nat) (Z0 : n0 ≤ h0.size) (ST : own_St Z w_SLIDING w_CALENDAR w_SwitchMap_co) (O0 : Old Z n0 h0) (Ex : Exa Z h0 o0 cn_0) (geo : n0 ≤ o0) (Ft : Fld Z h0 o0 cn_0 "times" "[J" (.ref ar)) (gea : n0 ≤ ar) (Fh : Fld Z h0 o0 cn_0 "head" "I" (.int hd)) (Fs : Fld Z h0 o0 cn_0 "size" "I" (.int sz)) (Va : Arv Z h0 ar ka .long (8 : Int32) [(.long x0), (.long x1), (.long x2), (.long x3), (.long x4), (.long x5), (.long x6), (.long x7)] (.long 0)) (hne : ¬ (sz = (8 : Int32))) (hs1 : (sz + (1 : Int32)) = sz1) (hix : ((hd + sz) % (8 : Int32)) = (5 : Int32)) :
    MetFree l y_8 (head1 (Jvm.Cond.code y_8 prog_2_method_4_code 5 none :: ws) rr_add_8_5) (fun a U => a = #[(.ref o0), (.long q1)] ∧ Z.Warmed39 U.vm ∧ U.heap = h0) (fun _ _ _ _ _ => True) (fun _ U o U' => ∃ v L, o = .returned v ∧ Q_add_8_5 Z w_SLIDING w_CALENDAR w_SwitchMap_co o0 q1 ar ka x0 x1 x2 x3 x4 x5 x6 x7 hd sz sz1 h0 n0 v U'.heap L ∧ FrameEnd U o U' L rr_add_8_5.cells rr_add_8_5.slots) := by
  refine MetFree.of_bodySF (plainFor_of_name pn_3) hisR ?_
  intro p e s m args below meth c s₁ Bd hml0 hP hK
  obtain ⟨rfl, hZ, hh⟩ := hP
  have hx := Bd.exec
  have hby := Bd.bytes
  have hml : c.maxLocals = 5 := hml0
  have hown : s.vm.findClass cn_0 = some m.cls := findClass_of_methodNamed Bd.named
  have hnm := (name_of_methodNamed Bd.named Bd.method).1
  have X0 : Stand p l e rr_add_8_5 s m #[(.ref o0), (.long q1)] below meth c s₁ [] 0 0 := Stand.of_body Bd
  have e0 : s₁.heap = h0 := by rw [← hh, Bd.state]; rfl
  have N0 := Fr.nil n0
  have K0 : Keep h0 h0 [o0, ar] := Keep.refl _ _
  obtain ⟨G, step, ret, fin⟩ := own_open (p := p) (l := l) (e := e) (R := rr_add_8_5) (s := s) (m := m) (args := #[(.ref o0), (.long q1)]) (below := below) (meth := meth) (c := c) (rr_add_8_5.cells) (rr_add_8_5.slots) (Q_add_8_5 Z w_SLIDING w_CALENDAR w_SwitchMap_co o0 q1 ar ka x0 x1 x2 x3 x4 x5 x6 x7 hd sz sz1 h0 n0) Bd.notSynchronized
  refine fin (g := entryFrame m #[(.ref o0), (.long q1)] 5) ?_
  rw [ef_add_8_5 m o0 q1]
  have ne_o0_ar : o0 ≠ ar := own_ne_arv Ex (ww43 hw) Va
  show G s₁ (mkF m 0 #[.val (.ref o0), .val (.long q1), .second, .unset, .unset] [])
  refine step (fun t k => XS.aloadN X0.here hx rfl (hb hby d8_0) rfl rfl k) ?_
  show G s₁ (mkF m 1 #[.val (.ref o0), .val (.long q1), .second, .unset, .unset] [(.ref o0)])
  obtain ⟨T1, X1, e1, st1⟩ := getF X0 hx hZ hown (host := "") (Or.inl (ww56 hw)) Via.refl e0 Fs (g := (mkF m 1 #[.val (.ref o0), .val (.long q1), .second, .unset, .unset] [(.ref o0)])) rfl rfl (hb hby d8_1)
  refine step st1 ?_
  show G T1 (mkF m 4 #[.val (.ref o0), .val (.long q1), .second, .unset, .unset] [(.int sz)])
  refine step (fun t k => XS.aloadN X1.here hx rfl (hb hby d8_4) rfl rfl k) ?_
  show G T1 (mkF m 5 #[.val (.ref o0), .val (.long q1), .second, .unset, .unset] [(.ref o0), (.int sz)])
  obtain ⟨T2, X2, e2, st2⟩ := getF X1 hx hZ hown (host := "") (Or.inl (ww49 hw)) Via.refl e1 Ft (g := (mkF m 5 #[.val (.ref o0), .val (.long q1), .second, .unset, .unset] [(.ref o0), (.int sz)])) rfl rfl (hb hby d8_5)
  refine step st2 ?_
  show G T2 (mkF m 8 #[.val (.ref o0), .val (.long q1), .second, .unset, .unset] [(.ref ar), (.int sz)])
  have q3 := own_len X2 hx hZ e2 Va (g := (mkF m 8 #[.val (.ref o0), .val (.long q1), .second, .unset, .unset] [(.ref ar), (.int sz)])) rfl rfl (hb hby d8_8)
  refine step q3 ?_
  show G T2 (mkF m 9 #[.val (.ref o0), .val (.long q1), .second, .unset, .unset] [(.int 8), (.int sz)])
  refine step (fun t k => XS.icmpYes X2.here hx rfl (pc0 := 9) (pc' := 72) rfl (hb hby d8_9) rfl (feq hne).2 (by decide) (by decide) k) ?_
  show G T2 (mkF m 72 #[.val (.ref o0), .val (.long q1), .second, .unset, .unset] [])
  refine step (fun t k => XS.aloadN X2.here hx rfl (hb hby d8_72) rfl rfl k) ?_
  show G T2 (mkF m 73 #[.val (.ref o0), .val (.long q1), .second, .unset, .unset] [(.ref o0)])
  obtain ⟨T4, X4, e4, st4⟩ := getF X2 hx hZ hown (host := "") (Or.inl (ww49 hw)) Via.refl e2 Ft (g := (mkF m 73 #[.val (.ref o0), .val (.long q1), .second, .unset, .unset] [(.ref o0)])) rfl rfl (hb hby d8_73)
  refine step st4 ?_
  show G T4 (mkF m 76 #[.val (.ref o0), .val (.long q1), .second, .unset, .unset] [(.ref ar)])
  refine step (fun t k => XS.aloadN X4.here hx rfl (hb hby d8_76) rfl rfl k) ?_
  show G T4 (mkF m 77 #[.val (.ref o0), .val (.long q1), .second, .unset, .unset] [(.ref o0), (.ref ar)])
  obtain ⟨T5, X5, e5, st5⟩ := getF X4 hx hZ hown (host := "") (Or.inl (ww58 hw)) Via.refl e4 Fh (g := (mkF m 77 #[.val (.ref o0), .val (.long q1), .second, .unset, .unset] [(.ref o0), (.ref ar)])) rfl rfl (hb hby d8_77)
  refine step st5 ?_
  show G T5 (mkF m 80 #[.val (.ref o0), .val (.long q1), .second, .unset, .unset] [(.int hd), (.ref ar)])
  refine step (fun t k => XS.aloadN X5.here hx rfl (hb hby d8_80) rfl rfl k) ?_
  show G T5 (mkF m 81 #[.val (.ref o0), .val (.long q1), .second, .unset, .unset] [(.ref o0), (.int hd), (.ref ar)])
  obtain ⟨T6, X6, e6, st6⟩ := getF X5 hx hZ hown (host := "") (Or.inl (ww56 hw)) Via.refl e5 Fs (g := (mkF m 81 #[.val (.ref o0), .val (.long q1), .second, .unset, .unset] [(.ref o0), (.int hd), (.ref ar)])) rfl rfl (hb hby d8_81)
  refine step st6 ?_
  show G T6 (mkF m 84 #[.val (.ref o0), .val (.long q1), .second, .unset, .unset] [(.int sz), (.int hd), (.ref ar)])
  refine step (fun t k => XS.iadd X6.here hx rfl (hb hby d8_84) rfl k) ?_
  show G T6 (mkF m 85 #[.val (.ref o0), .val (.long q1), .second, .unset, .unset] [(.int (hd + sz)), (.ref ar)])
  refine step (fun t k => XS.aloadN X6.here hx rfl (hb hby d8_85) rfl rfl k) ?_
  show G T6 (mkF m 86 #[.val (.ref o0), .val (.long q1), .second, .unset, .unset] [(.ref o0), (.int (hd + sz)), (.ref ar)])
  obtain ⟨T7, X7, e7, st7⟩ := getF X6 hx hZ hown (host := "") (Or.inl (ww49 hw)) Via.refl e6 Ft (g := (mkF m 86 #[.val (.ref o0), .val (.long q1), .second, .unset, .unset] [(.ref o0), (.int (hd + sz)), (.ref ar)])) rfl rfl (hb hby d8_86)
  refine step st7 ?_
  show G T7 (mkF m 89 #[.val (.ref o0), .val (.long q1), .second, .unset, .unset] [(.ref ar), (.int (hd + sz)), (.ref ar)])
  have q8 := own_len X7 hx hZ e7 Va (g := (mkF m 89 #[.val (.ref o0), .val (.long q1), .second, .unset, .unset] [(.ref ar), (.int (hd + sz)), (.ref ar)])) rfl rfl (hb hby d8_89)
  refine step q8 ?_
  show G T7 (mkF m 90 #[.val (.ref o0), .val (.long q1), .second, .unset, .unset] [(.int 8), (.int (hd + sz)), (.ref ar)])
  refine step (fun t k => iremM X7 hx rfl (hb hby d8_90) rfl (by decide) k) ?_
  show G T7 (mkF m 91 #[.val (.ref o0), .val (.long q1), .second, .unset, .unset] [(.int ((hd + sz) % (8 : Int32))), (.ref ar)])
  rw [hix]
  show G T7 (mkF m 91 #[.val (.ref o0), .val (.long q1), .second, .unset, .unset] [(.int 5), (.ref ar)])
  refine step (fun t k => XS.lloadN X7.here hx rfl (hb hby d8_91) rfl k) ?_
  show G T7 (mkF m 92 #[.val (.ref o0), .val (.long q1), .second, .unset, .unset] [(.long q1), (.int 5), (.ref ar)])
  obtain ⟨T9, h9, X9, e9, W9, V9, st9⟩ := own_stJ X7 hx hZ e7 Va (j := (5 : Int32)) (by decide) (i := 5) rfl (by show 5 < 8; decide) (g := (mkF m 92 #[.val (.ref o0), .val (.long q1), .second, .unset, .unset] [(.long q1), (.int 5), (.ref ar)])) rfl rfl (hb hby d8_92)
  replace V9 : Arv Z h9 ar ka .long (8 : Int32) [(.long x0), (.long x1), (.long x2), (.long x3), (.long x4), (.long q1), (.long x6), (.long x7)] (.long 0) := V9
  have N9 := Fr.snoc X9 N0 gea
  obtain ⟨lc9, X9, N9⟩ := own_gen X9 N9
  have O9 := O0.wr W9 gea
  have K9 : Keep h0 h9 [o0, ar] := K0.wr W9 (Or.inl (List.mem_of_getElem? (i := 1) rfl))
  refine step st9 ?_
  show G T9 (mkF m 93 #[.val (.ref o0), .val (.long q1), .second, .unset, .unset] [])
  refine step (fun t k => XS.aloadN X9.here hx rfl (hb hby d8_93) rfl rfl k) ?_
  show G T9 (mkF m 94 #[.val (.ref o0), .val (.long q1), .second, .unset, .unset] [(.ref o0)])
  refine step (fun t k => XS.dup X9.here hx rfl (hb hby d8_94) rfl rfl k) ?_
  show G T9 (mkF m 95 #[.val (.ref o0), .val (.long q1), .second, .unset, .unset] [(.ref o0), (.ref o0)])
  have f11 := (Fld.other W9 Fs (Or.inl ne_o0_ar))
  obtain ⟨T10, X10, e10, st10⟩ := getF X9 hx hZ hown (host := "") (Or.inl (ww56 hw)) Via.refl e9 f11 (g := (mkF m 95 #[.val (.ref o0), .val (.long q1), .second, .unset, .unset] [(.ref o0), (.ref o0)])) rfl rfl (hb hby d8_95)
  refine step st10 ?_
  show G T10 (mkF m 98 #[.val (.ref o0), .val (.long q1), .second, .unset, .unset] [(.int sz), (.ref o0)])
  refine step (fun t k => XS.iconst X10.here hx rfl (hb hby d8_98) k) ?_
  show G T10 (mkF m 99 #[.val (.ref o0), .val (.long q1), .second, .unset, .unset] [(.int 1), (.int sz), (.ref o0)])
  refine step (fun t k => XS.iadd X10.here hx rfl (hb hby d8_99) rfl k) ?_
  show G T10 (mkF m 100 #[.val (.ref o0), .val (.long q1), .second, .unset, .unset] [(.int (sz + (1 : Int32))), (.ref o0)])
  rw [hs1]
  show G T10 (mkF m 100 #[.val (.ref o0), .val (.long q1), .second, .unset, .unset] [(.int sz1), (.ref o0)])
  have f13 := (Exa.wr W9 Ex)
  obtain ⟨T12, h12, X12, e12, W12, st12⟩ := putF X10 hx hZ hown (host := "") (Or.inl (ww56 hw)) Via.refl e10 f11 f13 (Or.inl (ww57 hw)) (ww43 hw) (ty := .int) (by decide) rfl rfl (g := (mkF m 100 #[.val (.ref o0), .val (.long q1), .second, .unset, .unset] [(.int sz1), (.ref o0)])) rfl rfl (hb hby d8_100)
  have F12 : Fld Z h12 o0 cn_0 "size" "I" (.int sz1) := Fld.same W12 f11
  have N12 := Fr.snoc X12 N9 geo
  obtain ⟨lc12, X12, N12⟩ := own_gen X12 N12
  have O12 := O9.wr W12 geo
  have K12 : Keep h0 h12 [o0, ar] := K9.wr W12 (Or.inl (List.mem_of_getElem? (i := 0) rfl))
  refine step st12 ?_
  show G T12 (mkF m 103 #[.val (.ref o0), .val (.long q1), .second, .unset, .unset] [])
  have f14 := (Exa.wr W12 f13)
  have f15 := (Fld.other W12 (Fld.other W9 Ft (Or.inl ne_o0_ar)) (Or.inr (slot_ne (Or.inl (ww50 hw)) (Or.inl (ww57 hw)) (by decide) (t := (.array .long)) (t' := .int) (by decide) (by decide))))
  have f16 := (Fld.other W12 (Fld.other W9 Fh (Or.inl ne_o0_ar)) (Or.inr (slot_ne (Or.inl (ww59 hw)) (Or.inl (ww57 hw)) (by decide) (t := .int) (t' := .int) (by decide) (by decide))))
  have f17 := (Arv.other V9 W12 (Ne.symm ne_o0_ar))
  exact ret (v := none) X12 (fun _ => rfl) (fun fs hr => X12.returnOut hx Bd.returns (hb hby d8_103) hr) e12 ⟨rfl, N12, K12, f14, f15, f16, F12, f17⟩ (by decide) (by decide)
theorem d9_21 : decode prog_2_method_5_code 21 = .ok (.aload_n 0, 1) := by decide +kernel
theorem d9_22 : decode prog_2_method_5_code 22 = .ok (.aload_n 0, 1) := by decide +kernel
theorem d9_23 : decode prog_2_method_5_code 23 = .ok (.getfield 47, 3) := by decide +kernel
theorem d9_26 : decode prog_2_method_5_code 26 = .ok (.iconst 1, 1) := by decide +kernel
theorem d9_27 : decode prog_2_method_5_code 27 = .ok (.iadd, 1) := by decide +kernel
theorem d9_28 : decode prog_2_method_5_code 28 = .ok (.aload_n 0, 1) := by decide +kernel
theorem d9_29 : decode prog_2_method_5_code 29 = .ok (.getfield 7, 3) := by decide +kernel
theorem d9_32 : decode prog_2_method_5_code 32 = .ok (.arraylength, 1) := by decide +kernel
theorem d9_33 : decode prog_2_method_5_code 33 = .ok (.irem, 1) := by decide +kernel
theorem d9_34 : decode prog_2_method_5_code 34 = .ok (.putfield 47, 3) := by decide +kernel
theorem d9_37 : decode prog_2_method_5_code 37 = .ok (.aload_n 0, 1) := by decide +kernel
theorem d9_38 : decode prog_2_method_5_code 38 = .ok (.dup, 1) := by decide +kernel
theorem d9_39 : decode prog_2_method_5_code 39 = .ok (.getfield 43, 3) := by decide +kernel
theorem d9_42 : decode prog_2_method_5_code 42 = .ok (.iconst 1, 1) := by decide +kernel
theorem d9_43 : decode prog_2_method_5_code 43 = .ok (.isub, 1) := by decide +kernel
theorem d9_44 : decode prog_2_method_5_code 44 = .ok (.putfield 43, 3) := by decide +kernel
theorem d9_47 : decode prog_2_method_5_code 47 = .ok (.goto (-47), 3) := by decide +kernel
abbrev rr_for_4_0_4_1 : Room := { frames := 0, cells := 0, slots := 0, locals := 0 }
theorem ef_for_4_0_4_1 (m : MethodId) (o0 : Addr) (q1 : Int64) : entryFrame m #[(.ref o0), (.long q1)] 3 = mkF m 0 #[.val (.ref o0), .val (.long q1), .second] [] := by first | (simp [entryFrame, mkF, argsToLocals, Value.category]; done) | rfl
def Q_for_4_0_4_1 (Z : State) (w_SLIDING : Addr) (w_CALENDAR : Addr) (w_SwitchMap_co : Addr) (o0 : Addr) (q1 : Int64) (ar : Addr) (ka : ClassId) (x0 : Int64) (x1 : Int64) (x2 : Int64) (x3 : Int64) (h0 : Heap) (n0 : Nat) (v : Option Value) (h : Heap) (L : List Loc) : Prop := v = none ∧ Fr n0 L ∧ Keep h0 h [o0] ∧ Exa Z h o0 cn_0 ∧ Fld Z h o0 cn_0 "times" "[J" (.ref ar) ∧ Fld Z h o0 cn_0 "head" "I" (.int 1) ∧ Fld Z h o0 cn_0 "size" "I" (.int 3)
set_option maxRecDepth 65536 in
set_option maxHeartbeats 40000000 in
theorem rm_for_4_0_4_1 (l : Launch) (Z : State) (a0 : Array Value) (hw : ∀ d ∈ tables_1, d.before a0 Z = true) (ws : List Jvm.Cond) (w_SLIDING : Addr) (w_CALENDAR : Addr) (w_SwitchMap_co : Addr) (o0 : Addr) (q1 : Int64) (ar : Addr) (ka : ClassId) (x0 : Int64) (x1 : Int64) (x2 : Int64) (x3 : Int64) (h0 : Heap) (n0 : Nat) (Z0 : n0 ≤ h0.size) (ST : own_St Z w_SLIDING w_CALENDAR w_SwitchMap_co) (O0 : Old Z n0 h0) (Ex : Exa Z h0 o0 cn_0) (geo : n0 ≤ o0) (Ft : Fld Z h0 o0 cn_0 "times" "[J" (.ref ar)) (gea : n0 ≤ ar) (Fh : Fld Z h0 o0 cn_0 "head" "I" (.int 0)) (Fs : Fld Z h0 o0 cn_0 "size" "I" (.int 4)) (Va : Arv Z h0 ar ka .long (4 : Int32) [(.long x0), (.long x1), (.long x2), (.long x3)] (.long 0)) (hp0 : ¬ (q1 < x0)) (hp1 : q1 < x1) :
    MetFree l y_9 (head1 (Jvm.Cond.code y_9 prog_2_method_5_code 3 none :: ws) rr_for_4_0_4_1) (fun a U => a = #[(.ref o0), (.long q1)] ∧ Z.Warmed39 U.vm ∧ U.heap = h0) (fun _ _ _ _ _ => True) (fun _ U o U' => ∃ v L, o = .returned v ∧ Q_for_4_0_4_1 Z w_SLIDING w_CALENDAR w_SwitchMap_co o0 q1 ar ka x0 x1 x2 x3 h0 n0 v U'.heap L ∧ FrameEnd U o U' L rr_for_4_0_4_1.cells rr_for_4_0_4_1.slots) := by
  refine MetFree.of_bodySF (plainFor_of_name pn_3) hisR ?_
  intro p e s m args below meth c s₁ Bd hml0 hP hK
  obtain ⟨rfl, hZ, hh⟩ := hP
  have hx := Bd.exec
  have hby := Bd.bytes
  have hml : c.maxLocals = 3 := hml0
  have hown : s.vm.findClass cn_0 = some m.cls := findClass_of_methodNamed Bd.named
  have hnm := (name_of_methodNamed Bd.named Bd.method).1
  have X0 : Stand p l e rr_for_4_0_4_1 s m #[(.ref o0), (.long q1)] below meth c s₁ [] 0 0 := Stand.of_body Bd
  have e0 : s₁.heap = h0 := by rw [← hh, Bd.state]; rfl
  have N0 := Fr.nil n0
  have K0 : Keep h0 h0 [o0] := Keep.refl _ _
  obtain ⟨G, step, ret, fin⟩ := own_open (p := p) (l := l) (e := e) (R := rr_for_4_0_4_1) (s := s) (m := m) (args := #[(.ref o0), (.long q1)]) (below := below) (meth := meth) (c := c) (rr_for_4_0_4_1.cells) (rr_for_4_0_4_1.slots) (Q_for_4_0_4_1 Z w_SLIDING w_CALENDAR w_SwitchMap_co o0 q1 ar ka x0 x1 x2 x3 h0 n0) Bd.notSynchronized
  refine fin (g := entryFrame m #[(.ref o0), (.long q1)] 3) ?_
  rw [ef_for_4_0_4_1 m o0 q1]
  have ne_o0_ar : o0 ≠ ar := own_ne_arv Ex (ww43 hw) Va
  show G s₁ (mkF m 0 #[.val (.ref o0), .val (.long q1), .second] [])
  refine step (fun t k => XS.aloadN X0.here hx rfl (hb hby d9_0) rfl rfl k) ?_
  show G s₁ (mkF m 1 #[.val (.ref o0), .val (.long q1), .second] [(.ref o0)])
  obtain ⟨T1, X1, e1, st1⟩ := getF X0 hx hZ hown (host := "") (Or.inl (ww56 hw)) Via.refl e0 Fs (g := (mkF m 1 #[.val (.ref o0), .val (.long q1), .second] [(.ref o0)])) rfl rfl (hb hby d9_1)
  refine step st1 ?_
  show G T1 (mkF m 4 #[.val (.ref o0), .val (.long q1), .second] [(.int 4)])
  refine step (fun t k => XS.ifNo X1.here hx rfl (hb hby d9_4) rfl ((if0 _ _).trans (tlt (by decide : (0 : Int32) < (4 : Int32))).2.2.2) k) ?_
  show G T1 (mkF m 7 #[.val (.ref o0), .val (.long q1), .second] [])
  refine step (fun t k => XS.aloadN X1.here hx rfl (hb hby d9_7) rfl rfl k) ?_
  show G T1 (mkF m 8 #[.val (.ref o0), .val (.long q1), .second] [(.ref o0)])
  obtain ⟨T2, X2, e2, st2⟩ := getF X1 hx hZ hown (host := "") (Or.inl (ww49 hw)) Via.refl e1 Ft (g := (mkF m 8 #[.val (.ref o0), .val (.long q1), .second] [(.ref o0)])) rfl rfl (hb hby d9_8)
  refine step st2 ?_
  show G T2 (mkF m 11 #[.val (.ref o0), .val (.long q1), .second] [(.ref ar)])
  refine step (fun t k => XS.aloadN X2.here hx rfl (hb hby d9_11) rfl rfl k) ?_
  show G T2 (mkF m 12 #[.val (.ref o0), .val (.long q1), .second] [(.ref o0), (.ref ar)])
  obtain ⟨T3, X3, e3, st3⟩ := getF X2 hx hZ hown (host := "") (Or.inl (ww58 hw)) Via.refl e2 Fh (g := (mkF m 12 #[.val (.ref o0), .val (.long q1), .second] [(.ref o0), (.ref ar)])) rfl rfl (hb hby d9_12)
  refine step st3 ?_
  show G T3 (mkF m 15 #[.val (.ref o0), .val (.long q1), .second] [(.int 0), (.ref ar)])
  have q4 := own_ldJ X3 hx hZ e3 Va (j := (0 : Int32)) (v := (.long x0)) (by decide) (own_at (i := 0) rfl rfl) (g := (mkF m 15 #[.val (.ref o0), .val (.long q1), .second] [(.int 0), (.ref ar)])) rfl rfl (hb hby d9_15)
  refine step q4 ?_
  show G T3 (mkF m 16 #[.val (.ref o0), .val (.long q1), .second] [(.long x0)])
  refine step (fun t k => XS.lloadN X3.here hx rfl (hb hby d9_16) rfl k) ?_
  show G T3 (mkF m 17 #[.val (.ref o0), .val (.long q1), .second] [(.long q1), (.long x0)])
  refine step (fun t k => XS.lcmp X3.here hx rfl (hb hby d9_17) rfl k) ?_
  show G T3 (mkF m 18 #[.val (.ref o0), .val (.long q1), .second] [(.int (lcmpW x0 q1))])
  refine step (fun t k => XS.ifNo X3.here hx rfl (hb hby d9_18) rfl ((if0 _ _).trans (flt (fun q => hp0 ((lw_gt _ _).mp q))).2.2.1) k) ?_
  show G T3 (mkF m 21 #[.val (.ref o0), .val (.long q1), .second] [])
  refine step (fun t k => XS.aloadN X3.here hx rfl (hb hby d9_21) rfl rfl k) ?_
  show G T3 (mkF m 22 #[.val (.ref o0), .val (.long q1), .second] [(.ref o0)])
  refine step (fun t k => XS.aloadN X3.here hx rfl (hb hby d9_22) rfl rfl k) ?_
  show G T3 (mkF m 23 #[.val (.ref o0), .val (.long q1), .second] [(.ref o0), (.ref o0)])
  obtain ⟨T5, X5, e5, st5⟩ := getF X3 hx hZ hown (host := "") (Or.inl (ww58 hw)) Via.refl e3 Fh (g := (mkF m 23 #[.val (.ref o0), .val (.long q1), .second] [(.ref o0), (.ref o0)])) rfl rfl (hb hby d9_23)
  refine step st5 ?_
  show G T5 (mkF m 26 #[.val (.ref o0), .val (.long q1), .second] [(.int 0), (.ref o0)])
  refine step (fun t k => XS.iconst X5.here hx rfl (hb hby d9_26) k) ?_
  show G T5 (mkF m 27 #[.val (.ref o0), .val (.long q1), .second] [(.int 1), (.int 0), (.ref o0)])
  refine step (fun t k => XS.iadd X5.here hx rfl (hb hby d9_27) rfl k) ?_
  show G T5 (mkF m 28 #[.val (.ref o0), .val (.long q1), .second] [(.int ((0 : Int32) + (1 : Int32))), (.ref o0)])
  rw [(by decide : ((0 : Int32) + (1 : Int32)) = (1 : Int32))]
  show G T5 (mkF m 28 #[.val (.ref o0), .val (.long q1), .second] [(.int 1), (.ref o0)])
  refine step (fun t k => XS.aloadN X5.here hx rfl (hb hby d9_28) rfl rfl k) ?_
  show G T5 (mkF m 29 #[.val (.ref o0), .val (.long q1), .second] [(.ref o0), (.int 1), (.ref o0)])
  obtain ⟨T6, X6, e6, st6⟩ := getF X5 hx hZ hown (host := "") (Or.inl (ww49 hw)) Via.refl e5 Ft (g := (mkF m 29 #[.val (.ref o0), .val (.long q1), .second] [(.ref o0), (.int 1), (.ref o0)])) rfl rfl (hb hby d9_29)
  refine step st6 ?_
  show G T6 (mkF m 32 #[.val (.ref o0), .val (.long q1), .second] [(.ref ar), (.int 1), (.ref o0)])
  have q7 := own_len X6 hx hZ e6 Va (g := (mkF m 32 #[.val (.ref o0), .val (.long q1), .second] [(.ref ar), (.int 1), (.ref o0)])) rfl rfl (hb hby d9_32)
  refine step q7 ?_
  show G T6 (mkF m 33 #[.val (.ref o0), .val (.long q1), .second] [(.int 4), (.int 1), (.ref o0)])
  refine step (fun t k => iremM X6 hx rfl (hb hby d9_33) rfl (by decide) k) ?_
  show G T6 (mkF m 34 #[.val (.ref o0), .val (.long q1), .second] [(.int ((1 : Int32) % (4 : Int32))), (.ref o0)])
  rw [(by decide : ((1 : Int32) % (4 : Int32)) = (1 : Int32))]
  show G T6 (mkF m 34 #[.val (.ref o0), .val (.long q1), .second] [(.int 1), (.ref o0)])
  obtain ⟨T8, h8, X8, e8, W8, st8⟩ := putF X6 hx hZ hown (host := "") (Or.inl (ww58 hw)) Via.refl e6 Fh Ex (Or.inl (ww59 hw)) (ww43 hw) (ty := .int) (by decide) rfl rfl (g := (mkF m 34 #[.val (.ref o0), .val (.long q1), .second] [(.int 1), (.ref o0)])) rfl rfl (hb hby d9_34)
  have F8 : Fld Z h8 o0 cn_0 "head" "I" (.int 1) := Fld.same W8 Fh
  have N8 := Fr.snoc X8 N0 geo
  obtain ⟨lc8, X8, N8⟩ := own_gen X8 N8
  have O8 := O0.wr W8 geo
  have K8 : Keep h0 h8 [o0] := K0.wr W8 (Or.inl (List.mem_of_getElem? (i := 0) rfl))
  refine step st8 ?_
  show G T8 (mkF m 37 #[.val (.ref o0), .val (.long q1), .second] [])
  refine step (fun t k => XS.aloadN X8.here hx rfl (hb hby d9_37) rfl rfl k) ?_
  show G T8 (mkF m 38 #[.val (.ref o0), .val (.long q1), .second] [(.ref o0)])
  refine step (fun t k => XS.dup X8.here hx rfl (hb hby d9_38) rfl rfl k) ?_
  show G T8 (mkF m 39 #[.val (.ref o0), .val (.long q1), .second] [(.ref o0), (.ref o0)])
  have f10 := (Fld.other W8 Fs (Or.inr (slot_ne (Or.inl (ww57 hw)) (Or.inl (ww59 hw)) (by decide) (t := .int) (t' := .int) (by decide) (by decide))))
  obtain ⟨T9, X9, e9, st9⟩ := getF X8 hx hZ hown (host := "") (Or.inl (ww56 hw)) Via.refl e8 f10 (g := (mkF m 39 #[.val (.ref o0), .val (.long q1), .second] [(.ref o0), (.ref o0)])) rfl rfl (hb hby d9_39)
  refine step st9 ?_
  show G T9 (mkF m 42 #[.val (.ref o0), .val (.long q1), .second] [(.int 4), (.ref o0)])
  refine step (fun t k => XS.iconst X9.here hx rfl (hb hby d9_42) k) ?_
  show G T9 (mkF m 43 #[.val (.ref o0), .val (.long q1), .second] [(.int 1), (.int 4), (.ref o0)])
  refine step (fun t k => XS.isub X9.here hx rfl (hb hby d9_43) rfl k) ?_
  show G T9 (mkF m 44 #[.val (.ref o0), .val (.long q1), .second] [(.int ((4 : Int32) - (1 : Int32))), (.ref o0)])
  rw [(by decide : ((4 : Int32) - (1 : Int32)) = (3 : Int32))]
  show G T9 (mkF m 44 #[.val (.ref o0), .val (.long q1), .second] [(.int 3), (.ref o0)])
  have f12 := (Exa.wr W8 Ex)
  obtain ⟨T11, h11, X11, e11, W11, st11⟩ := putF X9 hx hZ hown (host := "") (Or.inl (ww56 hw)) Via.refl e9 f10 f12 (Or.inl (ww57 hw)) (ww43 hw) (ty := .int) (by decide) rfl rfl (g := (mkF m 44 #[.val (.ref o0), .val (.long q1), .second] [(.int 3), (.ref o0)])) rfl rfl (hb hby d9_44)
  have F11 : Fld Z h11 o0 cn_0 "size" "I" (.int 3) := Fld.same W11 f10
  have N11 := Fr.snoc X11 N8 geo
  obtain ⟨lc11, X11, N11⟩ := own_gen X11 N11
  have O11 := O8.wr W11 geo
  have K11 : Keep h0 h11 [o0] := K8.wr W11 (Or.inl (List.mem_of_getElem? (i := 0) rfl))
  refine step st11 ?_
  show G T11 (mkF m 47 #[.val (.ref o0), .val (.long q1), .second] [])
  refine step (fun t k => XS.goto X11.here hx rfl (pc0 := 47) (pc' := 0) rfl (hb hby d9_47) (by decide) (by decide) k) ?_
  show G T11 (mkF m 0 #[.val (.ref o0), .val (.long q1), .second] [])
  refine step (fun t k => XS.aloadN X11.here hx rfl (hb hby d9_0) rfl rfl k) ?_
  show G T11 (mkF m 1 #[.val (.ref o0), .val (.long q1), .second] [(.ref o0)])
  obtain ⟨T13, X13, e13, st13⟩ := getF X11 hx hZ hown (host := "") (Or.inl (ww56 hw)) Via.refl e11 F11 (g := (mkF m 1 #[.val (.ref o0), .val (.long q1), .second] [(.ref o0)])) rfl rfl (hb hby d9_1)
  refine step st13 ?_
  show G T13 (mkF m 4 #[.val (.ref o0), .val (.long q1), .second] [(.int 3)])
  refine step (fun t k => XS.ifNo X13.here hx rfl (hb hby d9_4) rfl ((if0 _ _).trans (tlt (by decide : (0 : Int32) < (3 : Int32))).2.2.2) k) ?_
  show G T13 (mkF m 7 #[.val (.ref o0), .val (.long q1), .second] [])
  refine step (fun t k => XS.aloadN X13.here hx rfl (hb hby d9_7) rfl rfl k) ?_
  show G T13 (mkF m 8 #[.val (.ref o0), .val (.long q1), .second] [(.ref o0)])
  have f15 := (Fld.other W11 (Fld.other W8 Ft (Or.inr (slot_ne (Or.inl (ww50 hw)) (Or.inl (ww59 hw)) (by decide) (t := (.array .long)) (t' := .int) (by decide) (by decide)))) (Or.inr (slot_ne (Or.inl (ww50 hw)) (Or.inl (ww57 hw)) (by decide) (t := (.array .long)) (t' := .int) (by decide) (by decide))))
  obtain ⟨T14, X14, e14, st14⟩ := getF X13 hx hZ hown (host := "") (Or.inl (ww49 hw)) Via.refl e13 f15 (g := (mkF m 8 #[.val (.ref o0), .val (.long q1), .second] [(.ref o0)])) rfl rfl (hb hby d9_8)
  refine step st14 ?_
  show G T14 (mkF m 11 #[.val (.ref o0), .val (.long q1), .second] [(.ref ar)])
  refine step (fun t k => XS.aloadN X14.here hx rfl (hb hby d9_11) rfl rfl k) ?_
  show G T14 (mkF m 12 #[.val (.ref o0), .val (.long q1), .second] [(.ref o0), (.ref ar)])
  have f17 := (Fld.other W11 F8 (Or.inr (slot_ne (Or.inl (ww59 hw)) (Or.inl (ww57 hw)) (by decide) (t := .int) (t' := .int) (by decide) (by decide))))
  obtain ⟨T16, X16, e16, st16⟩ := getF X14 hx hZ hown (host := "") (Or.inl (ww58 hw)) Via.refl e14 f17 (g := (mkF m 12 #[.val (.ref o0), .val (.long q1), .second] [(.ref o0), (.ref ar)])) rfl rfl (hb hby d9_12)
  refine step st16 ?_
  show G T16 (mkF m 15 #[.val (.ref o0), .val (.long q1), .second] [(.int 1), (.ref ar)])
  have f18 := (Arv.other (Arv.other Va W8 (Ne.symm ne_o0_ar)) W11 (Ne.symm ne_o0_ar))
  have q19 := own_ldJ X16 hx hZ e16 f18 (j := (1 : Int32)) (v := (.long x1)) (by decide) (own_at (i := 1) rfl rfl) (g := (mkF m 15 #[.val (.ref o0), .val (.long q1), .second] [(.int 1), (.ref ar)])) rfl rfl (hb hby d9_15)
  refine step q19 ?_
  show G T16 (mkF m 16 #[.val (.ref o0), .val (.long q1), .second] [(.long x1)])
  refine step (fun t k => XS.lloadN X16.here hx rfl (hb hby d9_16) rfl k) ?_
  show G T16 (mkF m 17 #[.val (.ref o0), .val (.long q1), .second] [(.long q1), (.long x1)])
  refine step (fun t k => XS.lcmp X16.here hx rfl (hb hby d9_17) rfl k) ?_
  show G T16 (mkF m 18 #[.val (.ref o0), .val (.long q1), .second] [(.int (lcmpW x1 q1))])
  refine step (fun t k => XS.ifYes X16.here hx rfl (pc0 := 18) (pc' := 50) rfl (hb hby d9_18) rfl ((if0 _ _).trans (tlt ((lw_gt _ _).mpr hp1)).2.2.1) (by decide) (by decide) k) ?_
  show G T16 (mkF m 50 #[.val (.ref o0), .val (.long q1), .second] [])
  have f20 := (Exa.wr W11 f12)
  exact ret (v := none) X16 (fun _ => rfl) (fun fs hr => X16.returnOut hx Bd.returns (hb hby d9_50) hr) e16 ⟨rfl, N11, K11, f20, f15, f17, F11⟩ (by decide) (by decide)
abbrev rr_cnt_4_0_4_1 : Room := { frames := 1, cells := 0, slots := 0, locals := 15 }
theorem ef_cnt_4_0_4_1 (m : MethodId) (o0 : Addr) (o1 : Addr) (q2 : Int64) : entryFrame m #[(.ref o0), (.ref o1), (.long q2)] 4 = mkF m 0 #[.val (.ref o0), .val (.ref o1), .val (.long q2), .second] [] := by first | (simp [entryFrame, mkF, argsToLocals, Value.category]; done) | rfl
def Q_cnt_4_0_4_1 (Z : State) (w_SLIDING : Addr) (w_CALENDAR : Addr) (w_SwitchMap_co : Addr) (o0 : Addr) (o1 : Addr) (q2 : Int64) (ar : Addr) (ka : ClassId) (x0 : Int64) (x1 : Int64) (x2 : Int64) (x3 : Int64) (mm : Int64) (h0 : Heap) (n0 : Nat) (v : Option Value) (h : Heap) (L : List Loc) : Prop := v = some (.int 3) ∧ Fr n0 L ∧ Keep h0 h [o0] ∧ Exa Z h o0 cn_0 ∧ Fld Z h o0 cn_0 "times" "[J" (.ref ar) ∧ Fld Z h o0 cn_0 "head" "I" (.int 1) ∧ Fld Z h o0 cn_0 "size" "I" (.int 3)
set_option maxRecDepth 65536 in
set_option maxHeartbeats 40000000 in
theorem rm_cnt_4_0_4_1 (l : Launch) (Z : State) (a0 : Array Value) (hw : ∀ d ∈ tables_1, d.before a0 Z = true) (ws : List Jvm.Cond) (w_SLIDING : Addr) (w_CALENDAR : Addr) (w_SwitchMap_co : Addr) (o0 : Addr) (o1 : Addr) (q2 : Int64) (ar : Addr) (ka : ClassId) (x0 : Int64) (x1 : Int64) (x2 : Int64) (x3 : Int64) (mm : Int64) (h0 : Heap) (n0 : Nat) (Z0 : n0 ≤ h0.size) (ST : own_St Z w_SLIDING w_CALENDAR w_SwitchMap_co) (O0 : Old Z n0 h0) (Ex : Exa Z h0 o0 cn_0) (geo : n0 ≤ o0) (Ft : Fld Z h0 o0 cn_0 "times" "[J" (.ref ar)) (gea : n0 ≤ ar) (Fh : Fld Z h0 o0 cn_0 "head" "I" (.int 0)) (Fs : Fld Z h0 o0 cn_0 "size" "I" (.int 4)) (Va : Arv Z h0 ar ka .long (4 : Int32) [(.long x0), (.long x1), (.long x2), (.long x3)] (.long 0)) (Ew : Exa Z h0 o1 cn_1) (Fwt : Fld Z h0 o1 cn_1 "type" cn_3 (.ref w_SLIDING)) (Fwm : Fld Z h0 o1 cn_1 "millis" "J" (.long mm)) (hp0 : ¬ ((q2 - mm) < x0)) (hp1 : (q2 - mm) < x1) :
    MetFree l y_11 (head1 (Jvm.Cond.code y_11 prog_2_method_2_code 4 (some .int) :: ws) rr_cnt_4_0_4_1) (fun a U => a = #[(.ref o0), (.ref o1), (.long q2)] ∧ Z.Warmed39 U.vm ∧ U.heap = h0) (fun _ _ _ _ _ => True) (fun _ U o U' => ∃ v L, o = .returned v ∧ Q_cnt_4_0_4_1 Z w_SLIDING w_CALENDAR w_SwitchMap_co o0 o1 q2 ar ka x0 x1 x2 x3 mm h0 n0 v U'.heap L ∧ FrameEnd U o U' L rr_cnt_4_0_4_1.cells rr_cnt_4_0_4_1.slots) := by
  refine MetFree.of_bodySF (plainFor_of_name pn_3) hisR ?_
  intro p e s m args below meth c s₁ Bd hml0 hP hK
  obtain ⟨rfl, hZ, hh⟩ := hP
  have hx := Bd.exec
  have hby := Bd.bytes
  have hml : c.maxLocals = 4 := hml0
  have hown : s.vm.findClass cn_0 = some m.cls := findClass_of_methodNamed Bd.named
  have hnm := (name_of_methodNamed Bd.named Bd.method).1
  have X0 : Stand p l e rr_cnt_4_0_4_1 s m #[(.ref o0), (.ref o1), (.long q2)] below meth c s₁ [] 0 0 := Stand.of_body Bd
  have e0 : s₁.heap = h0 := by rw [← hh, Bd.state]; rfl
  have N0 := Fr.nil n0
  have K0 : Keep h0 h0 [o0] := Keep.refl _ _
  obtain ⟨G, step, ret, fin⟩ := own_open (p := p) (l := l) (e := e) (R := rr_cnt_4_0_4_1) (s := s) (m := m) (args := #[(.ref o0), (.ref o1), (.long q2)]) (below := below) (meth := meth) (c := c) (rr_cnt_4_0_4_1.cells) (rr_cnt_4_0_4_1.slots) (Q_cnt_4_0_4_1 Z w_SLIDING w_CALENDAR w_SwitchMap_co o0 o1 q2 ar ka x0 x1 x2 x3 mm h0 n0) Bd.notSynchronized
  refine fin (g := entryFrame m #[(.ref o0), (.ref o1), (.long q2)] 4) ?_
  rw [ef_cnt_4_0_4_1 m o0 o1 q2]
  have ne_o0_o1 : o0 ≠ o1 := ne_exa Ex Ew (by decide)
  have ne_o0_ar : o0 ≠ ar := own_ne_arv Ex (ww43 hw) Va
  have ne_o1_ar : o1 ≠ ar := own_ne_arv Ew (ww7 hw) Va
  show G s₁ (mkF m 0 #[.val (.ref o0), .val (.ref o1), .val (.long q2), .second] [])
  obtain ⟨T1, X1, e1, st1⟩ := getS2 X0 hx hZ hown (host := "") (Or.inl (ww65 hw)) Via.refl e0 (Sta.ext O0.2 ST.k6) (g := (mkF m 0 #[.val (.ref o0), .val (.ref o1), .val (.long q2), .second] [])) rfl (hb hby d10_0)
  refine step st1 ?_
  show G T1 (mkF m 3 #[.val (.ref o0), .val (.ref o1), .val (.long q2), .second] [(.ref w_SwitchMap_co)])
  refine step (fun t k => XS.aloadN X1.here hx rfl (hb hby d10_3) rfl rfl k) ?_
  show G T1 (mkF m 4 #[.val (.ref o0), .val (.ref o1), .val (.long q2), .second] [(.ref o1), (.ref w_SwitchMap_co)])
  have hK2 := (backOf (R := rr_cnt_4_0_4_1) (p := p) (e := e) (below := below) (s := s) (args := #[(.ref o0), (.ref o1), (.long q2)]) (len := 3) (W := 1) (rm_ty l Z a0 hw [] w_SLIDING w_CALENDAR w_SwitchMap_co o1 w_SLIDING h0 n0 (own_old_le O0) ST O0 Fwt) hZ (ww72 hw) (ww4 hw) (by decide) (by decide))
  obtain ⟨cq2, kq2, q2a, q2b, q2c⟩ := isOf hZ e1 Ew
  obtain ⟨_, _, ⟨T2, L2, k2, n2⟩, -, X2, ⟨Lc2, hQ2, l2, y2, z2⟩, st2⟩ := X1.virtualBack hx (y := y_5) (z := y_5) hown (mvT hZ (ww68 hw)) (mvT hZ (ww69 hw)) (notFace_of_selects (args := #[]) (mvT hZ (ww71 hw))) (mvT hZ (ww71 hw)) (mvT hZ (ww70 hw)) (by decide) hK2 q2a q2c (g := (mkF m 4 #[.val (.ref o0), .val (.ref o1), .val (.long q2), .second] [(.ref o1), (.ref w_SwitchMap_co)])) rfl (by rw [hml]; rfl) (Steps.refl _) (argsL := []) (rest := [(.ref w_SwitchMap_co)]) (lenOf pd_5 rfl) rfl (by show 2 * 0 + _ ≤ _; exact Nat.le_of_eq rfl) (hb hby d10_4) (fun _ _ => ⟨rfl, e1, (by decide : 0 + 0 ≤ _), (by decide : 0 + 0 ≤ _)⟩)
  dsimp only [Pt.U, Pt.locs, Pt.cells, Pt.slots] at X2 l2 y2 z2 st2 hQ2
  subst l2 y2 z2
  obtain ⟨rfl, N2q, e2⟩ := hQ2
  have N2 := Fr.app N0 N2q
  obtain ⟨lc2, X2, N2⟩ := own_gen X2 N2
  refine step (fun t k => st2.trans k) ?_
  show G T2 (mkF m 7 #[.val (.ref o0), .val (.ref o1), .val (.long q2), .second] [(.ref (f_ty w_SLIDING w_CALENDAR w_SwitchMap_co o1 w_SLIDING)), (.ref w_SwitchMap_co)])
  have r3 : (f_ty w_SLIDING w_CALENDAR w_SwitchMap_co o1 w_SLIDING) = w_SLIDING := rfl
  rw [r3]
  show G T2 (mkF m 7 #[.val (.ref o0), .val (.ref o1), .val (.long q2), .second] [(.ref w_SLIDING), (.ref w_SwitchMap_co)])
  have hK4 := (backOf (R := rr_cnt_4_0_4_1) (p := p) (e := e) (below := below) (s := s) (args := #[(.ref o0), (.ref o1), (.long q2)]) (len := 3) (W := 1) (rm_od l Z a0 hw [] w_SLIDING w_CALENDAR w_SwitchMap_co w_SLIDING (0 : Int32) h0 n0 (own_old_le O0) ST O0 (Fld.ext O0.2 ST.k4)) hZ (ww79 hw) (ww78 hw) (by decide) (by decide))
  obtain ⟨cq4, kq4, q4a, q4b, q4c⟩ := isOf hZ e2 (Exa.ext O0.2 ST.k1)
  obtain ⟨_, _, ⟨T4, L4, k4, n4⟩, -, X4, ⟨Lc4, hQ4, l4, y4, z4⟩, st4⟩ := X2.virtualBackUp hx (x := y_10) (y := y_7) (owner := cn_7) hown (mvT hZ (ww73 hw)) (mvT hZ (ww74 hw)) (mvT hZ (ww75 hw)) (by decide) (mvT hZ (ww77 hw)) (mvT hZ (ww76 hw)) hK4 q4a q4c (g := (mkF m 7 #[.val (.ref o0), .val (.ref o1), .val (.long q2), .second] [(.ref w_SLIDING), (.ref w_SwitchMap_co)])) rfl (by rw [hml]; rfl) (Steps.refl _) (argsL := []) (rest := [(.ref w_SwitchMap_co)]) (lenOf pd_6 rfl) rfl (by show 2 * 0 + _ ≤ _; exact Nat.le_of_eq rfl) (hb hby d10_7) (fun _ _ => ⟨rfl, e2, (by decide : 0 + 0 ≤ _), (by decide : 0 + 0 ≤ _)⟩)
  dsimp only [Pt.U, Pt.locs, Pt.cells, Pt.slots] at X4 l4 y4 z4 st4 hQ4
  subst l4 y4 z4
  obtain ⟨rfl, N4q, e4⟩ := hQ4
  have N4 := Fr.app N2 N4q
  obtain ⟨lc4, X4, N4⟩ := own_gen X4 N4
  refine step (fun t k => st4.trans k) ?_
  show G T4 (mkF m 10 #[.val (.ref o0), .val (.ref o1), .val (.long q2), .second] [(.int (f_od w_SLIDING w_CALENDAR w_SwitchMap_co w_SLIDING (0 : Int32))), (.ref w_SwitchMap_co)])
  have r5 : (f_od w_SLIDING w_CALENDAR w_SwitchMap_co w_SLIDING (0 : Int32)) = (0 : Int32) := rfl
  rw [r5]
  show G T4 (mkF m 10 #[.val (.ref o0), .val (.ref o1), .val (.long q2), .second] [(.int 0), (.ref w_SwitchMap_co)])
  obtain ⟨kw6, Vw6⟩ := ST.k7
  have q7 := own_ldI X4 hx hZ e4 (Arv.ext Vw6 O0.2) (j := (0 : Int32)) (v := (.int 1)) (by decide) (own_at (i := 0) rfl rfl) (g := (mkF m 10 #[.val (.ref o0), .val (.ref o1), .val (.long q2), .second] [(.int 0), (.ref w_SwitchMap_co)])) rfl rfl (hb hby d10_10)
  refine step q7 ?_
  show G T4 (mkF m 11 #[.val (.ref o0), .val (.ref o1), .val (.long q2), .second] [(.int 1)])
  refine step (fun t k => XS.tswIn X4.here hx rfl (pc0 := 11) (pc' := 36) rfl (hb hby d10_11) rfl (by decide) rfl (by decide) (by decide) k) ?_
  show G T4 (mkF m 36 #[.val (.ref o0), .val (.ref o1), .val (.long q2), .second] [])
  refine step (fun t k => XS.aloadN X4.here hx rfl (hb hby d10_36) rfl rfl k) ?_
  show G T4 (mkF m 37 #[.val (.ref o0), .val (.ref o1), .val (.long q2), .second] [(.ref o0)])
  refine step (fun t k => XS.lloadN X4.here hx rfl (hb hby d10_37) rfl k) ?_
  show G T4 (mkF m 38 #[.val (.ref o0), .val (.ref o1), .val (.long q2), .second] [(.long q2), (.ref o0)])
  refine step (fun t k => XS.aloadN X4.here hx rfl (hb hby d10_38) rfl rfl k) ?_
  show G T4 (mkF m 39 #[.val (.ref o0), .val (.ref o1), .val (.long q2), .second] [(.ref o1), (.long q2), (.ref o0)])
  have hK8 := (backOf (R := rr_cnt_4_0_4_1) (p := p) (e := e) (below := below) (s := s) (args := #[(.ref o0), (.ref o1), (.long q2)]) (len := 3) (W := 3) (rm_mi l Z a0 hw [] w_SLIDING w_CALENDAR w_SwitchMap_co o1 mm h0 n0 (own_old_le O0) ST O0 Fwm) hZ (ww86 hw) (ww4 hw) (by decide) (by decide))
  obtain ⟨cq8, kq8, q8a, q8b, q8c⟩ := isOf hZ e4 Ew
  obtain ⟨_, _, ⟨T8, L8, k8, n8⟩, -, X8, ⟨Lc8, hQ8, l8, y8, z8⟩, st8⟩ := X4.virtualBack hx (y := y_6) (z := y_6) hown (mvT hZ (ww82 hw)) (mvT hZ (ww83 hw)) (notFace_of_selects (args := #[]) (mvT hZ (ww85 hw))) (mvT hZ (ww85 hw)) (mvT hZ (ww84 hw)) (by decide) hK8 q8a q8c (g := (mkF m 39 #[.val (.ref o0), .val (.ref o1), .val (.long q2), .second] [(.ref o1), (.long q2), (.ref o0)])) rfl (by rw [hml]; rfl) (Steps.refl _) (argsL := []) (rest := [(.long q2), (.ref o0)]) (lenOf pd_7 rfl) rfl (by show 2 * 0 + _ ≤ _; exact Nat.le_of_eq rfl) (hb hby d10_39) (fun _ _ => ⟨rfl, e4, (by decide : 0 + 0 ≤ _), (by decide : 0 + 0 ≤ _)⟩)
  dsimp only [Pt.U, Pt.locs, Pt.cells, Pt.slots] at X8 l8 y8 z8 st8 hQ8
  subst l8 y8 z8
  obtain ⟨rfl, N8q, e8⟩ := hQ8
  have N8 := Fr.app N4 N8q
  obtain ⟨lc8, X8, N8⟩ := own_gen X8 N8
  refine step (fun t k => st8.trans k) ?_
  show G T8 (mkF m 42 #[.val (.ref o0), .val (.ref o1), .val (.long q2), .second] [(.long (f_mi w_SLIDING w_CALENDAR w_SwitchMap_co o1 mm)), (.long q2), (.ref o0)])
  have r9 : (f_mi w_SLIDING w_CALENDAR w_SwitchMap_co o1 mm) = mm := rfl
  rw [r9]
  show G T8 (mkF m 42 #[.val (.ref o0), .val (.ref o1), .val (.long q2), .second] [(.long mm), (.long q2), (.ref o0)])
  refine step (fun t k => XS.lsub X8.here hx rfl (hb hby d10_42) rfl k) ?_
  show G T8 (mkF m 43 #[.val (.ref o0), .val (.ref o1), .val (.long q2), .second] [(.long (q2 - mm)), (.ref o0)])
  have hK10 := (backOf (R := rr_cnt_4_0_4_1) (p := p) (e := e) (below := below) (s := s) (args := #[(.ref o0), (.ref o1), (.long q2)]) (len := 3) (W := 0) (rm_for_4_0_4_1 l Z a0 hw [] w_SLIDING w_CALENDAR w_SwitchMap_co o0 (q2 - mm) ar ka x0 x1 x2 x3 h0 n0 (own_old_le O0) ST O0 Ex geo Ft gea Fh Fs Va (hp0 : ¬ ((q2 - mm) < x0)) (hp1 : (q2 - mm) < x1)) hZ (ww90 hw) (ww44 hw) (by decide) (by decide))
  obtain ⟨cq10, q10, q10'⟩ := (Ex).cell
  obtain ⟨_, _, ⟨T10, L10, k10, n10⟩, -, X10, ⟨Lc10, hQ10, l10, y10, z10⟩, st10⟩ := X8.privateBack hx (y := y_9) hown (mvT hZ (ww87 hw)) (mvT hZ (ww88 hw)) (own_selpriv hZ (ww89 hw) (ww88 hw) (ww43 hw) (by decide)) (Cond.privateMethod_at (mvP hZ (ww89 hw) (args := #[]))) (mvT hZ (ww90 hw)) (by decide) hK10 (g := (mkF m 43 #[.val (.ref o0), .val (.ref o1), .val (.long q2), .second] [(.long (q2 - mm)), (.ref o0)])) rfl (by rw [hml]; rfl) (Steps.refl _) (a := o0) (by rw [e8]; exact q10) q10' (argsL := [(.long (q2 - mm))]) (rest := []) (lenOf pd_4 rfl) rfl (by show 2 * 0 + _ ≤ _; exact Nat.le_of_eq rfl) (hb hby d10_43) (fun _ _ => ⟨rfl, e8, (by decide : 0 + 0 ≤ _), (by decide : 0 + 0 ≤ _)⟩)
  dsimp only [Pt.U, Pt.locs, Pt.cells, Pt.slots] at X10 l10 y10 z10 st10 hQ10
  subst l10 y10 z10
  obtain ⟨rfl, N10q, K10q, Y10_0, Y10_1, Y10_2, Y10_3⟩ := hQ10
  have N10 := Fr.app N8 N10q
  obtain ⟨lc10, X10, N10⟩ := own_gen X10 N10
  have O10 := O0.keep K10q (allS geo all0)
  have K10 : Keep h0 T10.heap [o0] := K0.trans K10q (allS (Or.inl (List.mem_of_getElem? (i := 0) rfl)) all0)
  refine step (fun t k => st10.trans k) ?_
  show G T10 (mkF m 46 #[.val (.ref o0), .val (.ref o1), .val (.long q2), .second] [])
  refine step (fun t k => XS.goto X10.here hx rfl (pc0 := 46) (pc' := 132) rfl (hb hby d10_46) (by decide) (by decide) k) ?_
  show G T10 (mkF m 132 #[.val (.ref o0), .val (.ref o1), .val (.long q2), .second] [])
  refine step (fun t k => XS.aloadN X10.here hx rfl (hb hby d10_132) rfl rfl k) ?_
  show G T10 (mkF m 133 #[.val (.ref o0), .val (.ref o1), .val (.long q2), .second] [(.ref o0)])
  obtain ⟨T11, X11, e11, st11⟩ := getF X10 hx hZ hown (host := "") (Or.inl (ww56 hw)) Via.refl rfl Y10_3 (g := (mkF m 133 #[.val (.ref o0), .val (.ref o1), .val (.long q2), .second] [(.ref o0)])) rfl rfl (hb hby d10_133)
  refine step st11 ?_
  show G T11 (mkF m 136 #[.val (.ref o0), .val (.ref o1), .val (.long q2), .second] [(.int 3)])
  exact ret (v := some (.int 3)) X11 (fun h => by rw [Bd.returns] at h; cases h) (fun fs hr => retI X11 hx Bd.returns (hb hby d10_136) hr) e11 ⟨rfl, N10, K10, Y10_0, Y10_1, Y10_2, Y10_3⟩ (by decide) (by decide)
abbrev rr_addg_4_1 : Room := { frames := 0, cells := 1, slots := 8, locals := 0 }
theorem ef_addg_4_1 (m : MethodId) (o0 : Addr) (q1 : Int64) : entryFrame m #[(.ref o0), (.long q1)] 5 = mkF m 0 #[.val (.ref o0), .val (.long q1), .second, .unset, .unset] [] := by first | (simp [entryFrame, mkF, argsToLocals, Value.category]; done) | rfl
def Q_addg_4_1 (Z : State) (w_SLIDING : Addr) (w_CALENDAR : Addr) (w_SwitchMap_co : Addr) (o0 : Addr) (q1 : Int64) (ar : Addr) (ka : ClassId) (x0 : Int64) (x1 : Int64) (x2 : Int64) (x3 : Int64) (h0 : Heap) (n0 : Nat) (v : Option Value) (h : Heap) (L : List Loc) : Prop := ∃ b : Addr, ∃ kb : ClassId, v = none ∧ Fr n0 L ∧ Keep h0 h [o0] ∧ h0.size ≤ b ∧ Exa Z h o0 cn_0 ∧ Fld Z h o0 cn_0 "times" "[J" (.ref b) ∧ Fld Z h o0 cn_0 "head" "I" (.int 0) ∧ Fld Z h o0 cn_0 "size" "I" (.int 5) ∧ Arv Z h b kb .long (8 : Int32) [(.long x1), (.long x2), (.long x3), (.long x0), (.long q1), (.long 0), (.long 0), (.long 0)] (.long 0)
set_option maxRecDepth 65536 in
set_option maxHeartbeats 40000000 in
theorem rm_addg_4_1 (l : Launch) (Z : State) (a0 : Array Value) (hw : ∀ d ∈ tables_1, d.before a0 Z = true) (ws : List Jvm.Cond) (w_SLIDING : Addr) (w_CALENDAR : Addr) (w_SwitchMap_co : Addr) (o0 : Addr) (q1 : Int64) (ar : Addr) (ka : ClassId) (x0 : Int64) (x1 : Int64) (x2 : Int64) (x3 : Int64) (h0 : Heap) (n0 : Nat) (Z0 : n0 ≤ h0.size) (ST : own_St Z w_SLIDING w_CALENDAR w_SwitchMap_co) (O0 : Old Z n0 h0) (Ex : Exa Z h0 o0 cn_0) (geo : n0 ≤ o0) (Ft : Fld Z h0 o0 cn_0 "times" "[J" (.ref ar)) (gea : n0 ≤ ar) (Fh : Fld Z h0 o0 cn_0 "head" "I" (.int 1)) (Fs : Fld Z h0 o0 cn_0 "size" "I" (.int 4)) (Va : Arv Z h0 ar ka .long (4 : Int32) [(.long x0), (.long x1), (.long x2), (.long x3)] (.long 0)) :
    MetFree l y_8 (head1 (Jvm.Cond.code y_8 prog_2_method_4_code 5 none :: ws) rr_addg_4_1) (fun a U => a = #[(.ref o0), (.long q1)] ∧ Z.Warmed39 U.vm ∧ U.heap = h0) (fun _ _ _ _ _ => True) (fun _ U o U' => ∃ v L, o = .returned v ∧ Q_addg_4_1 Z w_SLIDING w_CALENDAR w_SwitchMap_co o0 q1 ar ka x0 x1 x2 x3 h0 n0 v U'.heap L ∧ FrameEnd U o U' L rr_addg_4_1.cells rr_addg_4_1.slots) := by
  refine MetFree.of_bodySF (plainFor_of_name pn_3) hisR ?_
  intro p e s m args below meth c s₁ Bd hml0 hP hK
  obtain ⟨rfl, hZ, hh⟩ := hP
  have hx := Bd.exec
  have hby := Bd.bytes
  have hml : c.maxLocals = 5 := hml0
  have hown : s.vm.findClass cn_0 = some m.cls := findClass_of_methodNamed Bd.named
  have hnm := (name_of_methodNamed Bd.named Bd.method).1
  have X0 : Stand p l e rr_addg_4_1 s m #[(.ref o0), (.long q1)] below meth c s₁ [] 0 0 := Stand.of_body Bd
  have e0 : s₁.heap = h0 := by rw [← hh, Bd.state]; rfl
  have N0 := Fr.nil n0
  have K0 : Keep h0 h0 [o0] := Keep.refl _ _
  obtain ⟨G, step, ret, fin⟩ := own_open (p := p) (l := l) (e := e) (R := rr_addg_4_1) (s := s) (m := m) (args := #[(.ref o0), (.long q1)]) (below := below) (meth := meth) (c := c) (rr_addg_4_1.cells) (rr_addg_4_1.slots) (Q_addg_4_1 Z w_SLIDING w_CALENDAR w_SwitchMap_co o0 q1 ar ka x0 x1 x2 x3 h0 n0) Bd.notSynchronized
  refine fin (g := entryFrame m #[(.ref o0), (.long q1)] 5) ?_
  rw [ef_addg_4_1 m o0 q1]
  have ne_o0_ar : o0 ≠ ar := own_ne_arv Ex (ww43 hw) Va
  show G s₁ (mkF m 0 #[.val (.ref o0), .val (.long q1), .second, .unset, .unset] [])
  refine step (fun t k => XS.aloadN X0.here hx rfl (hb hby d8_0) rfl rfl k) ?_
  show G s₁ (mkF m 1 #[.val (.ref o0), .val (.long q1), .second, .unset, .unset] [(.ref o0)])
  obtain ⟨T1, X1, e1, st1⟩ := getF X0 hx hZ hown (host := "") (Or.inl (ww56 hw)) Via.refl e0 Fs (g := (mkF m 1 #[.val (.ref o0), .val (.long q1), .second, .unset, .unset] [(.ref o0)])) rfl rfl (hb hby d8_1)
  refine step st1 ?_
  show G T1 (mkF m 4 #[.val (.ref o0), .val (.long q1), .second, .unset, .unset] [(.int 4)])
  refine step (fun t k => XS.aloadN X1.here hx rfl (hb hby d8_4) rfl rfl k) ?_
  show G T1 (mkF m 5 #[.val (.ref o0), .val (.long q1), .second, .unset, .unset] [(.ref o0), (.int 4)])
  obtain ⟨T2, X2, e2, st2⟩ := getF X1 hx hZ hown (host := "") (Or.inl (ww49 hw)) Via.refl e1 Ft (g := (mkF m 5 #[.val (.ref o0), .val (.long q1), .second, .unset, .unset] [(.ref o0), (.int 4)])) rfl rfl (hb hby d8_5)
  refine step st2 ?_
  show G T2 (mkF m 8 #[.val (.ref o0), .val (.long q1), .second, .unset, .unset] [(.ref ar), (.int 4)])
  have q3 := own_len X2 hx hZ e2 Va (g := (mkF m 8 #[.val (.ref o0), .val (.long q1), .second, .unset, .unset] [(.ref ar), (.int 4)])) rfl rfl (hb hby d8_8)
  refine step q3 ?_
  show G T2 (mkF m 9 #[.val (.ref o0), .val (.long q1), .second, .unset, .unset] [(.int 4), (.int 4)])
  refine step (fun t k => XS.icmpNo X2.here hx rfl (hb hby d8_9) rfl (teq (by decide : (4 : Int32) = (4 : Int32))).2 k) ?_
  show G T2 (mkF m 12 #[.val (.ref o0), .val (.long q1), .second, .unset, .unset] [])
  refine step (fun t k => XS.aloadN X2.here hx rfl (hb hby d8_12) rfl rfl k) ?_
  show G T2 (mkF m 13 #[.val (.ref o0), .val (.long q1), .second, .unset, .unset] [(.ref o0)])
  obtain ⟨T4, X4, e4, st4⟩ := getF X2 hx hZ hown (host := "") (Or.inl (ww49 hw)) Via.refl e2 Ft (g := (mkF m 13 #[.val (.ref o0), .val (.long q1), .second, .unset, .unset] [(.ref o0)])) rfl rfl (hb hby d8_13)
  refine step st4 ?_
  show G T4 (mkF m 16 #[.val (.ref o0), .val (.long q1), .second, .unset, .unset] [(.ref ar)])
  have q5 := own_len X4 hx hZ e4 Va (g := (mkF m 16 #[.val (.ref o0), .val (.long q1), .second, .unset, .unset] [(.ref ar)])) rfl rfl (hb hby d8_16)
  refine step q5 ?_
  show G T4 (mkF m 17 #[.val (.ref o0), .val (.long q1), .second, .unset, .unset] [(.int 4)])
  refine step (fun t k => XS.iconst X4.here hx rfl (hb hby d8_17) k) ?_
  show G T4 (mkF m 18 #[.val (.ref o0), .val (.long q1), .second, .unset, .unset] [(.int 2), (.int 4)])
  refine step (fun t k => XS.imul X4.here hx rfl (hb hby d8_18) rfl k) ?_
  show G T4 (mkF m 19 #[.val (.ref o0), .val (.long q1), .second, .unset, .unset] [(.int ((4 : Int32) * (2 : Int32)))])
  rw [(by decide : ((4 : Int32) * (2 : Int32)) = (8 : Int32))]
  show G T4 (mkF m 19 #[.val (.ref o0), .val (.long q1), .second, .unset, .unset] [(.int 8)])
  obtain ⟨T6, h6, k6, X6, e6, E6, A6, B6, st6⟩ := newPE (aty := .long) X4 hx hZ (ww1 hw) e4 (g := (mkF m 19 #[.val (.ref o0), .val (.long q1), .second, .unset, .unset] [(.int 8)])) rfl (hb hby d8_19) rfl (by decide) (cap := 8) (by decide) (by decide) (by decide) (by decide) (ad := "[J") (by decide)
  obtain ⟨b6, g6⟩ : ∃ z, z = h0.size := ⟨_, rfl⟩
  rw [← g6] at A6 B6 st6
  have V6 : Arv Z h6 b6 k6 .long (8 : Int32) [(.long 0), (.long 0), (.long 0), (.long 0), (.long 0), (.long 0), (.long 0), (.long 0)] (.long 0) := (Arv.new A6 (by decide)).pad (pad_rep [] (.long 0) 8)
  have ge_b6 : n0 ≤ b6 := Nat.le_trans (own_old_le O0) (Nat.le_of_eq g6.symm)
  have sz_b6 : h0.size ≤ b6 := Nat.le_trans K0.1 (Nat.le_of_eq g6.symm)
  have lt_ar_b6 : ar < b6 := Nat.lt_of_lt_of_le Va.lt (Nat.le_of_eq g6.symm)
  have lt_o0_b6 : o0 < b6 := Nat.lt_of_lt_of_le Ex.lt (Nat.le_of_eq g6.symm)
  have O6 := O0.ext E6
  have K6 : Keep h0 h6 [o0] := K0.ext E6
  refine step st6 ?_
  show G T6 (mkF m 21 #[.val (.ref o0), .val (.long q1), .second, .unset, .unset] [(.ref b6)])
  refine step (fun t k => XS.astoreN X6.here hx rfl (hb hby d8_21) rfl rfl (l' := #[.val (.ref o0), .val (.long q1), .second, .val (.ref b6), .unset]) rfl k) ?_
  show G T6 (mkF m 22 #[.val (.ref o0), .val (.long q1), .second, .val (.ref b6), .unset] [])
  refine step (fun t k => XS.iconst X6.here hx rfl (hb hby d8_22) k) ?_
  show G T6 (mkF m 23 #[.val (.ref o0), .val (.long q1), .second, .val (.ref b6), .unset] [(.int 0)])
  refine step (fun t k => XS.istore X6.here hx rfl (hb hby d8_23) rfl (l' := #[.val (.ref o0), .val (.long q1), .second, .val (.ref b6), .val (.int 0)]) rfl k) ?_
  show G T6 (mkF m 25 #[.val (.ref o0), .val (.long q1), .second, .val (.ref b6), .val (.int 0)] [])
  refine step (fun t k => XS.iload X6.here hx rfl (hb hby d8_25) rfl k) ?_
  show G T6 (mkF m 27 #[.val (.ref o0), .val (.long q1), .second, .val (.ref b6), .val (.int 0)] [(.int 0)])
  refine step (fun t k => XS.aloadN X6.here hx rfl (hb hby d8_27) rfl rfl k) ?_
  show G T6 (mkF m 28 #[.val (.ref o0), .val (.long q1), .second, .val (.ref b6), .val (.int 0)] [(.ref o0), (.int 0)])
  have f8 := (Fld.ext E6 Fs)
  obtain ⟨T7, X7, e7, st7⟩ := getF X6 hx hZ hown (host := "") (Or.inl (ww56 hw)) Via.refl e6 f8 (g := (mkF m 28 #[.val (.ref o0), .val (.long q1), .second, .val (.ref b6), .val (.int 0)] [(.ref o0), (.int 0)])) rfl rfl (hb hby d8_28)
  refine step st7 ?_
  show G T7 (mkF m 31 #[.val (.ref o0), .val (.long q1), .second, .val (.ref b6), .val (.int 0)] [(.int 4), (.int 0)])
  refine step (fun t k => XS.icmpNo X7.here hx rfl (hb hby d8_31) rfl (tlt (by decide : (0 : Int32) < (4 : Int32))).2.1 k) ?_
  show G T7 (mkF m 34 #[.val (.ref o0), .val (.long q1), .second, .val (.ref b6), .val (.int 0)] [])
  refine step (fun t k => XS.aloadN X7.here hx rfl (hb hby d8_34) rfl rfl k) ?_
  show G T7 (mkF m 35 #[.val (.ref o0), .val (.long q1), .second, .val (.ref b6), .val (.int 0)] [(.ref b6)])
  refine step (fun t k => XS.iload X7.here hx rfl (hb hby d8_35) rfl k) ?_
  show G T7 (mkF m 37 #[.val (.ref o0), .val (.long q1), .second, .val (.ref b6), .val (.int 0)] [(.int 0), (.ref b6)])
  refine step (fun t k => XS.aloadN X7.here hx rfl (hb hby d8_37) rfl rfl k) ?_
  show G T7 (mkF m 38 #[.val (.ref o0), .val (.long q1), .second, .val (.ref b6), .val (.int 0)] [(.ref o0), (.int 0), (.ref b6)])
  have f10 := (Fld.ext E6 Ft)
  obtain ⟨T9, X9, e9, st9⟩ := getF X7 hx hZ hown (host := "") (Or.inl (ww49 hw)) Via.refl e7 f10 (g := (mkF m 38 #[.val (.ref o0), .val (.long q1), .second, .val (.ref b6), .val (.int 0)] [(.ref o0), (.int 0), (.ref b6)])) rfl rfl (hb hby d8_38)
  refine step st9 ?_
  show G T9 (mkF m 41 #[.val (.ref o0), .val (.long q1), .second, .val (.ref b6), .val (.int 0)] [(.ref ar), (.int 0), (.ref b6)])
  refine step (fun t k => XS.aloadN X9.here hx rfl (hb hby d8_41) rfl rfl k) ?_
  show G T9 (mkF m 42 #[.val (.ref o0), .val (.long q1), .second, .val (.ref b6), .val (.int 0)] [(.ref o0), (.ref ar), (.int 0), (.ref b6)])
  have f12 := (Fld.ext E6 Fh)
  obtain ⟨T11, X11, e11, st11⟩ := getF X9 hx hZ hown (host := "") (Or.inl (ww58 hw)) Via.refl e9 f12 (g := (mkF m 42 #[.val (.ref o0), .val (.long q1), .second, .val (.ref b6), .val (.int 0)] [(.ref o0), (.ref ar), (.int 0), (.ref b6)])) rfl rfl (hb hby d8_42)
  refine step st11 ?_
  show G T11 (mkF m 45 #[.val (.ref o0), .val (.long q1), .second, .val (.ref b6), .val (.int 0)] [(.int 1), (.ref ar), (.int 0), (.ref b6)])
  refine step (fun t k => XS.iload X11.here hx rfl (hb hby d8_45) rfl k) ?_
  show G T11 (mkF m 47 #[.val (.ref o0), .val (.long q1), .second, .val (.ref b6), .val (.int 0)] [(.int 0), (.int 1), (.ref ar), (.int 0), (.ref b6)])
  refine step (fun t k => XS.iadd X11.here hx rfl (hb hby d8_47) rfl k) ?_
  show G T11 (mkF m 48 #[.val (.ref o0), .val (.long q1), .second, .val (.ref b6), .val (.int 0)] [(.int ((1 : Int32) + (0 : Int32))), (.ref ar), (.int 0), (.ref b6)])
  rw [(by decide : ((1 : Int32) + (0 : Int32)) = (1 : Int32))]
  show G T11 (mkF m 48 #[.val (.ref o0), .val (.long q1), .second, .val (.ref b6), .val (.int 0)] [(.int 1), (.ref ar), (.int 0), (.ref b6)])
  refine step (fun t k => XS.aloadN X11.here hx rfl (hb hby d8_48) rfl rfl k) ?_
  show G T11 (mkF m 49 #[.val (.ref o0), .val (.long q1), .second, .val (.ref b6), .val (.int 0)] [(.ref o0), (.int 1), (.ref ar), (.int 0), (.ref b6)])
  obtain ⟨T13, X13, e13, st13⟩ := getF X11 hx hZ hown (host := "") (Or.inl (ww49 hw)) Via.refl e11 f10 (g := (mkF m 49 #[.val (.ref o0), .val (.long q1), .second, .val (.ref b6), .val (.int 0)] [(.ref o0), (.int 1), (.ref ar), (.int 0), (.ref b6)])) rfl rfl (hb hby d8_49)
  refine step st13 ?_
  show G T13 (mkF m 52 #[.val (.ref o0), .val (.long q1), .second, .val (.ref b6), .val (.int 0)] [(.ref ar), (.int 1), (.ref ar), (.int 0), (.ref b6)])
  have f14 := (Va.ext E6)
  have q15 := own_len X13 hx hZ e13 f14 (g := (mkF m 52 #[.val (.ref o0), .val (.long q1), .second, .val (.ref b6), .val (.int 0)] [(.ref ar), (.int 1), (.ref ar), (.int 0), (.ref b6)])) rfl rfl (hb hby d8_52)
  refine step q15 ?_
  show G T13 (mkF m 53 #[.val (.ref o0), .val (.long q1), .second, .val (.ref b6), .val (.int 0)] [(.int 4), (.int 1), (.ref ar), (.int 0), (.ref b6)])
  refine step (fun t k => iremM X13 hx rfl (hb hby d8_53) rfl (by decide) k) ?_
  show G T13 (mkF m 54 #[.val (.ref o0), .val (.long q1), .second, .val (.ref b6), .val (.int 0)] [(.int ((1 : Int32) % (4 : Int32))), (.ref ar), (.int 0), (.ref b6)])
  rw [(by decide : ((1 : Int32) % (4 : Int32)) = (1 : Int32))]
  show G T13 (mkF m 54 #[.val (.ref o0), .val (.long q1), .second, .val (.ref b6), .val (.int 0)] [(.int 1), (.ref ar), (.int 0), (.ref b6)])
  have q16 := own_ldJ X13 hx hZ e13 f14 (j := (1 : Int32)) (v := (.long x1)) (by decide) (own_at (i := 1) rfl rfl) (g := (mkF m 54 #[.val (.ref o0), .val (.long q1), .second, .val (.ref b6), .val (.int 0)] [(.int 1), (.ref ar), (.int 0), (.ref b6)])) rfl rfl (hb hby d8_54)
  refine step q16 ?_
  show G T13 (mkF m 55 #[.val (.ref o0), .val (.long q1), .second, .val (.ref b6), .val (.int 0)] [(.long x1), (.int 0), (.ref b6)])
  obtain ⟨T17, h17, X17, e17, W17, V17, st17⟩ := own_stJ X13 hx hZ e13 V6 (j := (0 : Int32)) (by decide) (i := 0) rfl (by show 0 < 8; decide) (g := (mkF m 55 #[.val (.ref o0), .val (.long q1), .second, .val (.ref b6), .val (.int 0)] [(.long x1), (.int 0), (.ref b6)])) rfl rfl (hb hby d8_55)
  replace V17 : Arv Z h17 b6 k6 .long (8 : Int32) [(.long x1), (.long 0), (.long 0), (.long 0), (.long 0), (.long 0), (.long 0), (.long 0)] (.long 0) := V17
  have N17 := Fr.snoc X17 N0 ge_b6
  obtain ⟨lc17, X17, N17⟩ := own_gen X17 N17
  have O17 := O6.wr W17 ge_b6
  have K17 : Keep h0 h17 [o0] := K6.wr W17 (Or.inr sz_b6)
  refine step st17 ?_
  show G T17 (mkF m 56 #[.val (.ref o0), .val (.long q1), .second, .val (.ref b6), .val (.int 0)] [])
  refine step (fun t k => XS.iinc X17.here hx rfl (hb hby d8_56) rfl (l' := #[.val (.ref o0), .val (.long q1), .second, .val (.ref b6), .val (.int ((0 : Int32) + (1 : Int32)))]) rfl k) ?_
  show G T17 (mkF m 59 #[.val (.ref o0), .val (.long q1), .second, .val (.ref b6), .val (.int ((0 : Int32) + (1 : Int32)))] [])
  rw [(by decide : ((0 : Int32) + (1 : Int32)) = (1 : Int32))]
  show G T17 (mkF m 59 #[.val (.ref o0), .val (.long q1), .second, .val (.ref b6), .val (.int 1)] [])
  refine step (fun t k => XS.goto X17.here hx rfl (pc0 := 59) (pc' := 25) rfl (hb hby d8_59) (by decide) (by decide) k) ?_
  show G T17 (mkF m 25 #[.val (.ref o0), .val (.long q1), .second, .val (.ref b6), .val (.int 1)] [])
  refine step (fun t k => XS.iload X17.here hx rfl (hb hby d8_25) rfl k) ?_
  show G T17 (mkF m 27 #[.val (.ref o0), .val (.long q1), .second, .val (.ref b6), .val (.int 1)] [(.int 1)])
  refine step (fun t k => XS.aloadN X17.here hx rfl (hb hby d8_27) rfl rfl k) ?_
  show G T17 (mkF m 28 #[.val (.ref o0), .val (.long q1), .second, .val (.ref b6), .val (.int 1)] [(.ref o0), (.int 1)])
  have f19 := (Fld.other W17 f8 (Or.inl (Nat.ne_of_lt lt_o0_b6)))
  obtain ⟨T18, X18, e18, st18⟩ := getF X17 hx hZ hown (host := "") (Or.inl (ww56 hw)) Via.refl e17 f19 (g := (mkF m 28 #[.val (.ref o0), .val (.long q1), .second, .val (.ref b6), .val (.int 1)] [(.ref o0), (.int 1)])) rfl rfl (hb hby d8_28)
  refine step st18 ?_
  show G T18 (mkF m 31 #[.val (.ref o0), .val (.long q1), .second, .val (.ref b6), .val (.int 1)] [(.int 4), (.int 1)])
  refine step (fun t k => XS.icmpNo X18.here hx rfl (hb hby d8_31) rfl (tlt (by decide : (1 : Int32) < (4 : Int32))).2.1 k) ?_
  show G T18 (mkF m 34 #[.val (.ref o0), .val (.long q1), .second, .val (.ref b6), .val (.int 1)] [])
  refine step (fun t k => XS.aloadN X18.here hx rfl (hb hby d8_34) rfl rfl k) ?_
  show G T18 (mkF m 35 #[.val (.ref o0), .val (.long q1), .second, .val (.ref b6), .val (.int 1)] [(.ref b6)])
  refine step (fun t k => XS.iload X18.here hx rfl (hb hby d8_35) rfl k) ?_
  show G T18 (mkF m 37 #[.val (.ref o0), .val (.long q1), .second, .val (.ref b6), .val (.int 1)] [(.int 1), (.ref b6)])
  refine step (fun t k => XS.aloadN X18.here hx rfl (hb hby d8_37) rfl rfl k) ?_
  show G T18 (mkF m 38 #[.val (.ref o0), .val (.long q1), .second, .val (.ref b6), .val (.int 1)] [(.ref o0), (.int 1), (.ref b6)])
  have f21 := (Fld.other W17 f10 (Or.inl (Nat.ne_of_lt lt_o0_b6)))
  obtain ⟨T20, X20, e20, st20⟩ := getF X18 hx hZ hown (host := "") (Or.inl (ww49 hw)) Via.refl e18 f21 (g := (mkF m 38 #[.val (.ref o0), .val (.long q1), .second, .val (.ref b6), .val (.int 1)] [(.ref o0), (.int 1), (.ref b6)])) rfl rfl (hb hby d8_38)
  refine step st20 ?_
  show G T20 (mkF m 41 #[.val (.ref o0), .val (.long q1), .second, .val (.ref b6), .val (.int 1)] [(.ref ar), (.int 1), (.ref b6)])
  refine step (fun t k => XS.aloadN X20.here hx rfl (hb hby d8_41) rfl rfl k) ?_
  show G T20 (mkF m 42 #[.val (.ref o0), .val (.long q1), .second, .val (.ref b6), .val (.int 1)] [(.ref o0), (.ref ar), (.int 1), (.ref b6)])
  have f23 := (Fld.other W17 f12 (Or.inl (Nat.ne_of_lt lt_o0_b6)))
  obtain ⟨T22, X22, e22, st22⟩ := getF X20 hx hZ hown (host := "") (Or.inl (ww58 hw)) Via.refl e20 f23 (g := (mkF m 42 #[.val (.ref o0), .val (.long q1), .second, .val (.ref b6), .val (.int 1)] [(.ref o0), (.ref ar), (.int 1), (.ref b6)])) rfl rfl (hb hby d8_42)
  refine step st22 ?_
  show G T22 (mkF m 45 #[.val (.ref o0), .val (.long q1), .second, .val (.ref b6), .val (.int 1)] [(.int 1), (.ref ar), (.int 1), (.ref b6)])
  refine step (fun t k => XS.iload X22.here hx rfl (hb hby d8_45) rfl k) ?_
  show G T22 (mkF m 47 #[.val (.ref o0), .val (.long q1), .second, .val (.ref b6), .val (.int 1)] [(.int 1), (.int 1), (.ref ar), (.int 1), (.ref b6)])
  refine step (fun t k => XS.iadd X22.here hx rfl (hb hby d8_47) rfl k) ?_
  show G T22 (mkF m 48 #[.val (.ref o0), .val (.long q1), .second, .val (.ref b6), .val (.int 1)] [(.int ((1 : Int32) + (1 : Int32))), (.ref ar), (.int 1), (.ref b6)])
  rw [(by decide : ((1 : Int32) + (1 : Int32)) = (2 : Int32))]
  show G T22 (mkF m 48 #[.val (.ref o0), .val (.long q1), .second, .val (.ref b6), .val (.int 1)] [(.int 2), (.ref ar), (.int 1), (.ref b6)])
  refine step (fun t k => XS.aloadN X22.here hx rfl (hb hby d8_48) rfl rfl k) ?_
  show G T22 (mkF m 49 #[.val (.ref o0), .val (.long q1), .second, .val (.ref b6), .val (.int 1)] [(.ref o0), (.int 2), (.ref ar), (.int 1), (.ref b6)])
  obtain ⟨T24, X24, e24, st24⟩ := getF X22 hx hZ hown (host := "") (Or.inl (ww49 hw)) Via.refl e22 f21 (g := (mkF m 49 #[.val (.ref o0), .val (.long q1), .second, .val (.ref b6), .val (.int 1)] [(.ref o0), (.int 2), (.ref ar), (.int 1), (.ref b6)])) rfl rfl (hb hby d8_49)
  refine step st24 ?_
  show G T24 (mkF m 52 #[.val (.ref o0), .val (.long q1), .second, .val (.ref b6), .val (.int 1)] [(.ref ar), (.int 2), (.ref ar), (.int 1), (.ref b6)])
  have f25 := (Arv.other f14 W17 (Nat.ne_of_lt lt_ar_b6))
  have q26 := own_len X24 hx hZ e24 f25 (g := (mkF m 52 #[.val (.ref o0), .val (.long q1), .second, .val (.ref b6), .val (.int 1)] [(.ref ar), (.int 2), (.ref ar), (.int 1), (.ref b6)])) rfl rfl (hb hby d8_52)
  refine step q26 ?_
  show G T24 (mkF m 53 #[.val (.ref o0), .val (.long q1), .second, .val (.ref b6), .val (.int 1)] [(.int 4), (.int 2), (.ref ar), (.int 1), (.ref b6)])
  refine step (fun t k => iremM X24 hx rfl (hb hby d8_53) rfl (by decide) k) ?_
  show G T24 (mkF m 54 #[.val (.ref o0), .val (.long q1), .second, .val (.ref b6), .val (.int 1)] [(.int ((2 : Int32) % (4 : Int32))), (.ref ar), (.int 1), (.ref b6)])
  rw [(by decide : ((2 : Int32) % (4 : Int32)) = (2 : Int32))]
  show G T24 (mkF m 54 #[.val (.ref o0), .val (.long q1), .second, .val (.ref b6), .val (.int 1)] [(.int 2), (.ref ar), (.int 1), (.ref b6)])
  have q27 := own_ldJ X24 hx hZ e24 f25 (j := (2 : Int32)) (v := (.long x2)) (by decide) (own_at (i := 2) rfl rfl) (g := (mkF m 54 #[.val (.ref o0), .val (.long q1), .second, .val (.ref b6), .val (.int 1)] [(.int 2), (.ref ar), (.int 1), (.ref b6)])) rfl rfl (hb hby d8_54)
  refine step q27 ?_
  show G T24 (mkF m 55 #[.val (.ref o0), .val (.long q1), .second, .val (.ref b6), .val (.int 1)] [(.long x2), (.int 1), (.ref b6)])
  obtain ⟨T28, h28, X28, e28, W28, V28, st28⟩ := own_stJ X24 hx hZ e24 V17 (j := (1 : Int32)) (by decide) (i := 1) rfl (by show 1 < 8; decide) (g := (mkF m 55 #[.val (.ref o0), .val (.long q1), .second, .val (.ref b6), .val (.int 1)] [(.long x2), (.int 1), (.ref b6)])) rfl rfl (hb hby d8_55)
  replace V28 : Arv Z h28 b6 k6 .long (8 : Int32) [(.long x1), (.long x2), (.long 0), (.long 0), (.long 0), (.long 0), (.long 0), (.long 0)] (.long 0) := V28
  have N28 := Fr.snoc X28 N17 ge_b6
  obtain ⟨lc28, X28, N28⟩ := own_gen X28 N28
  have O28 := O17.wr W28 ge_b6
  have K28 : Keep h0 h28 [o0] := K17.wr W28 (Or.inr sz_b6)
  refine step st28 ?_
  show G T28 (mkF m 56 #[.val (.ref o0), .val (.long q1), .second, .val (.ref b6), .val (.int 1)] [])
  refine step (fun t k => XS.iinc X28.here hx rfl (hb hby d8_56) rfl (l' := #[.val (.ref o0), .val (.long q1), .second, .val (.ref b6), .val (.int ((1 : Int32) + (1 : Int32)))]) rfl k) ?_
  show G T28 (mkF m 59 #[.val (.ref o0), .val (.long q1), .second, .val (.ref b6), .val (.int ((1 : Int32) + (1 : Int32)))] [])
  rw [(by decide : ((1 : Int32) + (1 : Int32)) = (2 : Int32))]
  show G T28 (mkF m 59 #[.val (.ref o0), .val (.long q1), .second, .val (.ref b6), .val (.int 2)] [])
  refine step (fun t k => XS.goto X28.here hx rfl (pc0 := 59) (pc' := 25) rfl (hb hby d8_59) (by decide) (by decide) k) ?_
  show G T28 (mkF m 25 #[.val (.ref o0), .val (.long q1), .second, .val (.ref b6), .val (.int 2)] [])
  refine step (fun t k => XS.iload X28.here hx rfl (hb hby d8_25) rfl k) ?_
  show G T28 (mkF m 27 #[.val (.ref o0), .val (.long q1), .second, .val (.ref b6), .val (.int 2)] [(.int 2)])
  refine step (fun t k => XS.aloadN X28.here hx rfl (hb hby d8_27) rfl rfl k) ?_
  show G T28 (mkF m 28 #[.val (.ref o0), .val (.long q1), .second, .val (.ref b6), .val (.int 2)] [(.ref o0), (.int 2)])
  have f30 := (Fld.other W28 f19 (Or.inl (Nat.ne_of_lt lt_o0_b6)))
  obtain ⟨T29, X29, e29, st29⟩ := getF X28 hx hZ hown (host := "") (Or.inl (ww56 hw)) Via.refl e28 f30 (g := (mkF m 28 #[.val (.ref o0), .val (.long q1), .second, .val (.ref b6), .val (.int 2)] [(.ref o0), (.int 2)])) rfl rfl (hb hby d8_28)
  refine step st29 ?_
  show G T29 (mkF m 31 #[.val (.ref o0), .val (.long q1), .second, .val (.ref b6), .val (.int 2)] [(.int 4), (.int 2)])
  refine step (fun t k => XS.icmpNo X29.here hx rfl (hb hby d8_31) rfl (tlt (by decide : (2 : Int32) < (4 : Int32))).2.1 k) ?_
  show G T29 (mkF m 34 #[.val (.ref o0), .val (.long q1), .second, .val (.ref b6), .val (.int 2)] [])
  refine step (fun t k => XS.aloadN X29.here hx rfl (hb hby d8_34) rfl rfl k) ?_
  show G T29 (mkF m 35 #[.val (.ref o0), .val (.long q1), .second, .val (.ref b6), .val (.int 2)] [(.ref b6)])
  refine step (fun t k => XS.iload X29.here hx rfl (hb hby d8_35) rfl k) ?_
  show G T29 (mkF m 37 #[.val (.ref o0), .val (.long q1), .second, .val (.ref b6), .val (.int 2)] [(.int 2), (.ref b6)])
  refine step (fun t k => XS.aloadN X29.here hx rfl (hb hby d8_37) rfl rfl k) ?_
  show G T29 (mkF m 38 #[.val (.ref o0), .val (.long q1), .second, .val (.ref b6), .val (.int 2)] [(.ref o0), (.int 2), (.ref b6)])
  have f32 := (Fld.other W28 f21 (Or.inl (Nat.ne_of_lt lt_o0_b6)))
  obtain ⟨T31, X31, e31, st31⟩ := getF X29 hx hZ hown (host := "") (Or.inl (ww49 hw)) Via.refl e29 f32 (g := (mkF m 38 #[.val (.ref o0), .val (.long q1), .second, .val (.ref b6), .val (.int 2)] [(.ref o0), (.int 2), (.ref b6)])) rfl rfl (hb hby d8_38)
  refine step st31 ?_
  show G T31 (mkF m 41 #[.val (.ref o0), .val (.long q1), .second, .val (.ref b6), .val (.int 2)] [(.ref ar), (.int 2), (.ref b6)])
  refine step (fun t k => XS.aloadN X31.here hx rfl (hb hby d8_41) rfl rfl k) ?_
  show G T31 (mkF m 42 #[.val (.ref o0), .val (.long q1), .second, .val (.ref b6), .val (.int 2)] [(.ref o0), (.ref ar), (.int 2), (.ref b6)])
  have f34 := (Fld.other W28 f23 (Or.inl (Nat.ne_of_lt lt_o0_b6)))
  obtain ⟨T33, X33, e33, st33⟩ := getF X31 hx hZ hown (host := "") (Or.inl (ww58 hw)) Via.refl e31 f34 (g := (mkF m 42 #[.val (.ref o0), .val (.long q1), .second, .val (.ref b6), .val (.int 2)] [(.ref o0), (.ref ar), (.int 2), (.ref b6)])) rfl rfl (hb hby d8_42)
  refine step st33 ?_
  show G T33 (mkF m 45 #[.val (.ref o0), .val (.long q1), .second, .val (.ref b6), .val (.int 2)] [(.int 1), (.ref ar), (.int 2), (.ref b6)])
  refine step (fun t k => XS.iload X33.here hx rfl (hb hby d8_45) rfl k) ?_
  show G T33 (mkF m 47 #[.val (.ref o0), .val (.long q1), .second, .val (.ref b6), .val (.int 2)] [(.int 2), (.int 1), (.ref ar), (.int 2), (.ref b6)])
  refine step (fun t k => XS.iadd X33.here hx rfl (hb hby d8_47) rfl k) ?_
  show G T33 (mkF m 48 #[.val (.ref o0), .val (.long q1), .second, .val (.ref b6), .val (.int 2)] [(.int ((1 : Int32) + (2 : Int32))), (.ref ar), (.int 2), (.ref b6)])
  rw [(by decide : ((1 : Int32) + (2 : Int32)) = (3 : Int32))]
  show G T33 (mkF m 48 #[.val (.ref o0), .val (.long q1), .second, .val (.ref b6), .val (.int 2)] [(.int 3), (.ref ar), (.int 2), (.ref b6)])
  refine step (fun t k => XS.aloadN X33.here hx rfl (hb hby d8_48) rfl rfl k) ?_
  show G T33 (mkF m 49 #[.val (.ref o0), .val (.long q1), .second, .val (.ref b6), .val (.int 2)] [(.ref o0), (.int 3), (.ref ar), (.int 2), (.ref b6)])
  obtain ⟨T35, X35, e35, st35⟩ := getF X33 hx hZ hown (host := "") (Or.inl (ww49 hw)) Via.refl e33 f32 (g := (mkF m 49 #[.val (.ref o0), .val (.long q1), .second, .val (.ref b6), .val (.int 2)] [(.ref o0), (.int 3), (.ref ar), (.int 2), (.ref b6)])) rfl rfl (hb hby d8_49)
  refine step st35 ?_
  show G T35 (mkF m 52 #[.val (.ref o0), .val (.long q1), .second, .val (.ref b6), .val (.int 2)] [(.ref ar), (.int 3), (.ref ar), (.int 2), (.ref b6)])
  have f36 := (Arv.other f25 W28 (Nat.ne_of_lt lt_ar_b6))
  have q37 := own_len X35 hx hZ e35 f36 (g := (mkF m 52 #[.val (.ref o0), .val (.long q1), .second, .val (.ref b6), .val (.int 2)] [(.ref ar), (.int 3), (.ref ar), (.int 2), (.ref b6)])) rfl rfl (hb hby d8_52)
  refine step q37 ?_
  show G T35 (mkF m 53 #[.val (.ref o0), .val (.long q1), .second, .val (.ref b6), .val (.int 2)] [(.int 4), (.int 3), (.ref ar), (.int 2), (.ref b6)])
  refine step (fun t k => iremM X35 hx rfl (hb hby d8_53) rfl (by decide) k) ?_
  show G T35 (mkF m 54 #[.val (.ref o0), .val (.long q1), .second, .val (.ref b6), .val (.int 2)] [(.int ((3 : Int32) % (4 : Int32))), (.ref ar), (.int 2), (.ref b6)])
  rw [(by decide : ((3 : Int32) % (4 : Int32)) = (3 : Int32))]
  show G T35 (mkF m 54 #[.val (.ref o0), .val (.long q1), .second, .val (.ref b6), .val (.int 2)] [(.int 3), (.ref ar), (.int 2), (.ref b6)])
  have q38 := own_ldJ X35 hx hZ e35 f36 (j := (3 : Int32)) (v := (.long x3)) (by decide) (own_at (i := 3) rfl rfl) (g := (mkF m 54 #[.val (.ref o0), .val (.long q1), .second, .val (.ref b6), .val (.int 2)] [(.int 3), (.ref ar), (.int 2), (.ref b6)])) rfl rfl (hb hby d8_54)
  refine step q38 ?_
  show G T35 (mkF m 55 #[.val (.ref o0), .val (.long q1), .second, .val (.ref b6), .val (.int 2)] [(.long x3), (.int 2), (.ref b6)])
  obtain ⟨T39, h39, X39, e39, W39, V39, st39⟩ := own_stJ X35 hx hZ e35 V28 (j := (2 : Int32)) (by decide) (i := 2) rfl (by show 2 < 8; decide) (g := (mkF m 55 #[.val (.ref o0), .val (.long q1), .second, .val (.ref b6), .val (.int 2)] [(.long x3), (.int 2), (.ref b6)])) rfl rfl (hb hby d8_55)
  replace V39 : Arv Z h39 b6 k6 .long (8 : Int32) [(.long x1), (.long x2), (.long x3), (.long 0), (.long 0), (.long 0), (.long 0), (.long 0)] (.long 0) := V39
  have N39 := Fr.snoc X39 N28 ge_b6
  obtain ⟨lc39, X39, N39⟩ := own_gen X39 N39
  have O39 := O28.wr W39 ge_b6
  have K39 : Keep h0 h39 [o0] := K28.wr W39 (Or.inr sz_b6)
  refine step st39 ?_
  show G T39 (mkF m 56 #[.val (.ref o0), .val (.long q1), .second, .val (.ref b6), .val (.int 2)] [])
  refine step (fun t k => XS.iinc X39.here hx rfl (hb hby d8_56) rfl (l' := #[.val (.ref o0), .val (.long q1), .second, .val (.ref b6), .val (.int ((2 : Int32) + (1 : Int32)))]) rfl k) ?_
  show G T39 (mkF m 59 #[.val (.ref o0), .val (.long q1), .second, .val (.ref b6), .val (.int ((2 : Int32) + (1 : Int32)))] [])
  rw [(by decide : ((2 : Int32) + (1 : Int32)) = (3 : Int32))]
  show G T39 (mkF m 59 #[.val (.ref o0), .val (.long q1), .second, .val (.ref b6), .val (.int 3)] [])
  refine step (fun t k => XS.goto X39.here hx rfl (pc0 := 59) (pc' := 25) rfl (hb hby d8_59) (by decide) (by decide) k) ?_
  show G T39 (mkF m 25 #[.val (.ref o0), .val (.long q1), .second, .val (.ref b6), .val (.int 3)] [])
  refine step (fun t k => XS.iload X39.here hx rfl (hb hby d8_25) rfl k) ?_
  show G T39 (mkF m 27 #[.val (.ref o0), .val (.long q1), .second, .val (.ref b6), .val (.int 3)] [(.int 3)])
  refine step (fun t k => XS.aloadN X39.here hx rfl (hb hby d8_27) rfl rfl k) ?_
  show G T39 (mkF m 28 #[.val (.ref o0), .val (.long q1), .second, .val (.ref b6), .val (.int 3)] [(.ref o0), (.int 3)])
  have f41 := (Fld.other W39 f30 (Or.inl (Nat.ne_of_lt lt_o0_b6)))
  obtain ⟨T40, X40, e40, st40⟩ := getF X39 hx hZ hown (host := "") (Or.inl (ww56 hw)) Via.refl e39 f41 (g := (mkF m 28 #[.val (.ref o0), .val (.long q1), .second, .val (.ref b6), .val (.int 3)] [(.ref o0), (.int 3)])) rfl rfl (hb hby d8_28)
  refine step st40 ?_
  show G T40 (mkF m 31 #[.val (.ref o0), .val (.long q1), .second, .val (.ref b6), .val (.int 3)] [(.int 4), (.int 3)])
  refine step (fun t k => XS.icmpNo X40.here hx rfl (hb hby d8_31) rfl (tlt (by decide : (3 : Int32) < (4 : Int32))).2.1 k) ?_
  show G T40 (mkF m 34 #[.val (.ref o0), .val (.long q1), .second, .val (.ref b6), .val (.int 3)] [])
  refine step (fun t k => XS.aloadN X40.here hx rfl (hb hby d8_34) rfl rfl k) ?_
  show G T40 (mkF m 35 #[.val (.ref o0), .val (.long q1), .second, .val (.ref b6), .val (.int 3)] [(.ref b6)])
  refine step (fun t k => XS.iload X40.here hx rfl (hb hby d8_35) rfl k) ?_
  show G T40 (mkF m 37 #[.val (.ref o0), .val (.long q1), .second, .val (.ref b6), .val (.int 3)] [(.int 3), (.ref b6)])
  refine step (fun t k => XS.aloadN X40.here hx rfl (hb hby d8_37) rfl rfl k) ?_
  show G T40 (mkF m 38 #[.val (.ref o0), .val (.long q1), .second, .val (.ref b6), .val (.int 3)] [(.ref o0), (.int 3), (.ref b6)])
  have f43 := (Fld.other W39 f32 (Or.inl (Nat.ne_of_lt lt_o0_b6)))
  obtain ⟨T42, X42, e42, st42⟩ := getF X40 hx hZ hown (host := "") (Or.inl (ww49 hw)) Via.refl e40 f43 (g := (mkF m 38 #[.val (.ref o0), .val (.long q1), .second, .val (.ref b6), .val (.int 3)] [(.ref o0), (.int 3), (.ref b6)])) rfl rfl (hb hby d8_38)
  refine step st42 ?_
  show G T42 (mkF m 41 #[.val (.ref o0), .val (.long q1), .second, .val (.ref b6), .val (.int 3)] [(.ref ar), (.int 3), (.ref b6)])
  refine step (fun t k => XS.aloadN X42.here hx rfl (hb hby d8_41) rfl rfl k) ?_
  show G T42 (mkF m 42 #[.val (.ref o0), .val (.long q1), .second, .val (.ref b6), .val (.int 3)] [(.ref o0), (.ref ar), (.int 3), (.ref b6)])
  have f45 := (Fld.other W39 f34 (Or.inl (Nat.ne_of_lt lt_o0_b6)))
  obtain ⟨T44, X44, e44, st44⟩ := getF X42 hx hZ hown (host := "") (Or.inl (ww58 hw)) Via.refl e42 f45 (g := (mkF m 42 #[.val (.ref o0), .val (.long q1), .second, .val (.ref b6), .val (.int 3)] [(.ref o0), (.ref ar), (.int 3), (.ref b6)])) rfl rfl (hb hby d8_42)
  refine step st44 ?_
  show G T44 (mkF m 45 #[.val (.ref o0), .val (.long q1), .second, .val (.ref b6), .val (.int 3)] [(.int 1), (.ref ar), (.int 3), (.ref b6)])
  refine step (fun t k => XS.iload X44.here hx rfl (hb hby d8_45) rfl k) ?_
  show G T44 (mkF m 47 #[.val (.ref o0), .val (.long q1), .second, .val (.ref b6), .val (.int 3)] [(.int 3), (.int 1), (.ref ar), (.int 3), (.ref b6)])
  refine step (fun t k => XS.iadd X44.here hx rfl (hb hby d8_47) rfl k) ?_
  show G T44 (mkF m 48 #[.val (.ref o0), .val (.long q1), .second, .val (.ref b6), .val (.int 3)] [(.int ((1 : Int32) + (3 : Int32))), (.ref ar), (.int 3), (.ref b6)])
  rw [(by decide : ((1 : Int32) + (3 : Int32)) = (4 : Int32))]
  show G T44 (mkF m 48 #[.val (.ref o0), .val (.long q1), .second, .val (.ref b6), .val (.int 3)] [(.int 4), (.ref ar), (.int 3), (.ref b6)])
  refine step (fun t k => XS.aloadN X44.here hx rfl (hb hby d8_48) rfl rfl k) ?_
  show G T44 (mkF m 49 #[.val (.ref o0), .val (.long q1), .second, .val (.ref b6), .val (.int 3)] [(.ref o0), (.int 4), (.ref ar), (.int 3), (.ref b6)])
  obtain ⟨T46, X46, e46, st46⟩ := getF X44 hx hZ hown (host := "") (Or.inl (ww49 hw)) Via.refl e44 f43 (g := (mkF m 49 #[.val (.ref o0), .val (.long q1), .second, .val (.ref b6), .val (.int 3)] [(.ref o0), (.int 4), (.ref ar), (.int 3), (.ref b6)])) rfl rfl (hb hby d8_49)
  refine step st46 ?_
  show G T46 (mkF m 52 #[.val (.ref o0), .val (.long q1), .second, .val (.ref b6), .val (.int 3)] [(.ref ar), (.int 4), (.ref ar), (.int 3), (.ref b6)])
  have f47 := (Arv.other f36 W39 (Nat.ne_of_lt lt_ar_b6))
  have q48 := own_len X46 hx hZ e46 f47 (g := (mkF m 52 #[.val (.ref o0), .val (.long q1), .second, .val (.ref b6), .val (.int 3)] [(.ref ar), (.int 4), (.ref ar), (.int 3), (.ref b6)])) rfl rfl (hb hby d8_52)
  refine step q48 ?_
  show G T46 (mkF m 53 #[.val (.ref o0), .val (.long q1), .second, .val (.ref b6), .val (.int 3)] [(.int 4), (.int 4), (.ref ar), (.int 3), (.ref b6)])
  refine step (fun t k => iremM X46 hx rfl (hb hby d8_53) rfl (by decide) k) ?_
  show G T46 (mkF m 54 #[.val (.ref o0), .val (.long q1), .second, .val (.ref b6), .val (.int 3)] [(.int ((4 : Int32) % (4 : Int32))), (.ref ar), (.int 3), (.ref b6)])
  rw [(by decide : ((4 : Int32) % (4 : Int32)) = (0 : Int32))]
  show G T46 (mkF m 54 #[.val (.ref o0), .val (.long q1), .second, .val (.ref b6), .val (.int 3)] [(.int 0), (.ref ar), (.int 3), (.ref b6)])
  have q49 := own_ldJ X46 hx hZ e46 f47 (j := (0 : Int32)) (v := (.long x0)) (by decide) (own_at (i := 0) rfl rfl) (g := (mkF m 54 #[.val (.ref o0), .val (.long q1), .second, .val (.ref b6), .val (.int 3)] [(.int 0), (.ref ar), (.int 3), (.ref b6)])) rfl rfl (hb hby d8_54)
  refine step q49 ?_
  show G T46 (mkF m 55 #[.val (.ref o0), .val (.long q1), .second, .val (.ref b6), .val (.int 3)] [(.long x0), (.int 3), (.ref b6)])
  obtain ⟨T50, h50, X50, e50, W50, V50, st50⟩ := own_stJ X46 hx hZ e46 V39 (j := (3 : Int32)) (by decide) (i := 3) rfl (by show 3 < 8; decide) (g := (mkF m 55 #[.val (.ref o0), .val (.long q1), .second, .val (.ref b6), .val (.int 3)] [(.long x0), (.int 3), (.ref b6)])) rfl rfl (hb hby d8_55)
  replace V50 : Arv Z h50 b6 k6 .long (8 : Int32) [(.long x1), (.long x2), (.long x3), (.long x0), (.long 0), (.long 0), (.long 0), (.long 0)] (.long 0) := V50
  have N50 := Fr.snoc X50 N39 ge_b6
  obtain ⟨lc50, X50, N50⟩ := own_gen X50 N50
  have O50 := O39.wr W50 ge_b6
  have K50 : Keep h0 h50 [o0] := K39.wr W50 (Or.inr sz_b6)
  refine step st50 ?_
  show G T50 (mkF m 56 #[.val (.ref o0), .val (.long q1), .second, .val (.ref b6), .val (.int 3)] [])
  refine step (fun t k => XS.iinc X50.here hx rfl (hb hby d8_56) rfl (l' := #[.val (.ref o0), .val (.long q1), .second, .val (.ref b6), .val (.int ((3 : Int32) + (1 : Int32)))]) rfl k) ?_
  show G T50 (mkF m 59 #[.val (.ref o0), .val (.long q1), .second, .val (.ref b6), .val (.int ((3 : Int32) + (1 : Int32)))] [])
  rw [(by decide : ((3 : Int32) + (1 : Int32)) = (4 : Int32))]
  show G T50 (mkF m 59 #[.val (.ref o0), .val (.long q1), .second, .val (.ref b6), .val (.int 4)] [])
  refine step (fun t k => XS.goto X50.here hx rfl (pc0 := 59) (pc' := 25) rfl (hb hby d8_59) (by decide) (by decide) k) ?_
  show G T50 (mkF m 25 #[.val (.ref o0), .val (.long q1), .second, .val (.ref b6), .val (.int 4)] [])
  refine step (fun t k => XS.iload X50.here hx rfl (hb hby d8_25) rfl k) ?_
  show G T50 (mkF m 27 #[.val (.ref o0), .val (.long q1), .second, .val (.ref b6), .val (.int 4)] [(.int 4)])
  refine step (fun t k => XS.aloadN X50.here hx rfl (hb hby d8_27) rfl rfl k) ?_
  show G T50 (mkF m 28 #[.val (.ref o0), .val (.long q1), .second, .val (.ref b6), .val (.int 4)] [(.ref o0), (.int 4)])
  have f52 := (Fld.other W50 f41 (Or.inl (Nat.ne_of_lt lt_o0_b6)))
  obtain ⟨T51, X51, e51, st51⟩ := getF X50 hx hZ hown (host := "") (Or.inl (ww56 hw)) Via.refl e50 f52 (g := (mkF m 28 #[.val (.ref o0), .val (.long q1), .second, .val (.ref b6), .val (.int 4)] [(.ref o0), (.int 4)])) rfl rfl (hb hby d8_28)
  refine step st51 ?_
  show G T51 (mkF m 31 #[.val (.ref o0), .val (.long q1), .second, .val (.ref b6), .val (.int 4)] [(.int 4), (.int 4)])
  refine step (fun t k => XS.icmpYes X51.here hx rfl (pc0 := 31) (pc' := 62) rfl (hb hby d8_31) rfl (flt (by decide : ¬ ((4 : Int32) < (4 : Int32)))).2.1 (by decide) (by decide) k) ?_
  show G T51 (mkF m 62 #[.val (.ref o0), .val (.long q1), .second, .val (.ref b6), .val (.int 4)] [])
  refine step (fun t k => XS.aloadN X51.here hx rfl (hb hby d8_62) rfl rfl k) ?_
  show G T51 (mkF m 63 #[.val (.ref o0), .val (.long q1), .second, .val (.ref b6), .val (.int 4)] [(.ref o0)])
  refine step (fun t k => XS.aloadN X51.here hx rfl (hb hby d8_63) rfl rfl k) ?_
  show G T51 (mkF m 64 #[.val (.ref o0), .val (.long q1), .second, .val (.ref b6), .val (.int 4)] [(.ref b6), (.ref o0)])
  have f54 := (Fld.other W50 f43 (Or.inl (Nat.ne_of_lt lt_o0_b6)))
  have f55 := (Exa.wr W50 (Exa.wr W39 (Exa.wr W28 (Exa.wr W17 (Exa.ext E6 Ex)))))
  obtain ⟨T53, h53, X53, e53, W53, st53⟩ := putF X51 hx hZ hown (host := "") (Or.inl (ww49 hw)) Via.refl e51 f54 f55 (Or.inl (ww50 hw)) (ww43 hw) (ty := (.array .long)) (by decide) rfl rfl (g := (mkF m 64 #[.val (.ref o0), .val (.long q1), .second, .val (.ref b6), .val (.int 4)] [(.ref b6), (.ref o0)])) rfl rfl (hb hby d8_64)
  have F53 : Fld Z h53 o0 cn_0 "times" "[J" (.ref b6) := Fld.same W53 f54
  have N53 := Fr.snoc X53 N50 geo
  obtain ⟨lc53, X53, N53⟩ := own_gen X53 N53
  have O53 := O50.wr W53 geo
  have K53 : Keep h0 h53 [o0] := K50.wr W53 (Or.inl (List.mem_of_getElem? (i := 0) rfl))
  refine step st53 ?_
  show G T53 (mkF m 67 #[.val (.ref o0), .val (.long q1), .second, .val (.ref b6), .val (.int 4)] [])
  refine step (fun t k => XS.aloadN X53.here hx rfl (hb hby d8_67) rfl rfl k) ?_
  show G T53 (mkF m 68 #[.val (.ref o0), .val (.long q1), .second, .val (.ref b6), .val (.int 4)] [(.ref o0)])
  refine step (fun t k => XS.iconst X53.here hx rfl (hb hby d8_68) k) ?_
  show G T53 (mkF m 69 #[.val (.ref o0), .val (.long q1), .second, .val (.ref b6), .val (.int 4)] [(.int 0), (.ref o0)])
  have f57 := (Fld.other W53 (Fld.other W50 f45 (Or.inl (Nat.ne_of_lt lt_o0_b6))) (Or.inr (slot_ne (Or.inl (ww59 hw)) (Or.inl (ww50 hw)) (by decide) (t := .int) (t' := (.array .long)) (by decide) (by decide))))
  have f58 := (Exa.wr W53 f55)
  obtain ⟨T56, h56, X56, e56, W56, st56⟩ := putF X53 hx hZ hown (host := "") (Or.inl (ww58 hw)) Via.refl e53 f57 f58 (Or.inl (ww59 hw)) (ww43 hw) (ty := .int) (by decide) rfl rfl (g := (mkF m 69 #[.val (.ref o0), .val (.long q1), .second, .val (.ref b6), .val (.int 4)] [(.int 0), (.ref o0)])) rfl rfl (hb hby d8_69)
  have F56 : Fld Z h56 o0 cn_0 "head" "I" (.int 0) := Fld.same W56 f57
  have N56 := Fr.snoc X56 N53 geo
  obtain ⟨lc56, X56, N56⟩ := own_gen X56 N56
  have O56 := O53.wr W56 geo
  have K56 : Keep h0 h56 [o0] := K53.wr W56 (Or.inl (List.mem_of_getElem? (i := 0) rfl))
  refine step st56 ?_
  show G T56 (mkF m 72 #[.val (.ref o0), .val (.long q1), .second, .val (.ref b6), .val (.int 4)] [])
  refine step (fun t k => XS.aloadN X56.here hx rfl (hb hby d8_72) rfl rfl k) ?_
  show G T56 (mkF m 73 #[.val (.ref o0), .val (.long q1), .second, .val (.ref b6), .val (.int 4)] [(.ref o0)])
  have f60 := (Fld.other W56 F53 (Or.inr (slot_ne (Or.inl (ww50 hw)) (Or.inl (ww59 hw)) (by decide) (t := (.array .long)) (t' := .int) (by decide) (by decide))))
  obtain ⟨T59, X59, e59, st59⟩ := getF X56 hx hZ hown (host := "") (Or.inl (ww49 hw)) Via.refl e56 f60 (g := (mkF m 73 #[.val (.ref o0), .val (.long q1), .second, .val (.ref b6), .val (.int 4)] [(.ref o0)])) rfl rfl (hb hby d8_73)
  refine step st59 ?_
  show G T59 (mkF m 76 #[.val (.ref o0), .val (.long q1), .second, .val (.ref b6), .val (.int 4)] [(.ref b6)])
  refine step (fun t k => XS.aloadN X59.here hx rfl (hb hby d8_76) rfl rfl k) ?_
  show G T59 (mkF m 77 #[.val (.ref o0), .val (.long q1), .second, .val (.ref b6), .val (.int 4)] [(.ref o0), (.ref b6)])
  obtain ⟨T61, X61, e61, st61⟩ := getF X59 hx hZ hown (host := "") (Or.inl (ww58 hw)) Via.refl e59 F56 (g := (mkF m 77 #[.val (.ref o0), .val (.long q1), .second, .val (.ref b6), .val (.int 4)] [(.ref o0), (.ref b6)])) rfl rfl (hb hby d8_77)
  refine step st61 ?_
  show G T61 (mkF m 80 #[.val (.ref o0), .val (.long q1), .second, .val (.ref b6), .val (.int 4)] [(.int 0), (.ref b6)])
  refine step (fun t k => XS.aloadN X61.here hx rfl (hb hby d8_80) rfl rfl k) ?_
  show G T61 (mkF m 81 #[.val (.ref o0), .val (.long q1), .second, .val (.ref b6), .val (.int 4)] [(.ref o0), (.int 0), (.ref b6)])
  have f63 := (Fld.other W56 (Fld.other W53 f52 (Or.inr (slot_ne (Or.inl (ww57 hw)) (Or.inl (ww50 hw)) (by decide) (t := .int) (t' := (.array .long)) (by decide) (by decide)))) (Or.inr (slot_ne (Or.inl (ww57 hw)) (Or.inl (ww59 hw)) (by decide) (t := .int) (t' := .int) (by decide) (by decide))))
  obtain ⟨T62, X62, e62, st62⟩ := getF X61 hx hZ hown (host := "") (Or.inl (ww56 hw)) Via.refl e61 f63 (g := (mkF m 81 #[.val (.ref o0), .val (.long q1), .second, .val (.ref b6), .val (.int 4)] [(.ref o0), (.int 0), (.ref b6)])) rfl rfl (hb hby d8_81)
  refine step st62 ?_
  show G T62 (mkF m 84 #[.val (.ref o0), .val (.long q1), .second, .val (.ref b6), .val (.int 4)] [(.int 4), (.int 0), (.ref b6)])
  refine step (fun t k => XS.iadd X62.here hx rfl (hb hby d8_84) rfl k) ?_
  show G T62 (mkF m 85 #[.val (.ref o0), .val (.long q1), .second, .val (.ref b6), .val (.int 4)] [(.int ((0 : Int32) + (4 : Int32))), (.ref b6)])
  rw [(by decide : ((0 : Int32) + (4 : Int32)) = (4 : Int32))]
  show G T62 (mkF m 85 #[.val (.ref o0), .val (.long q1), .second, .val (.ref b6), .val (.int 4)] [(.int 4), (.ref b6)])
  refine step (fun t k => XS.aloadN X62.here hx rfl (hb hby d8_85) rfl rfl k) ?_
  show G T62 (mkF m 86 #[.val (.ref o0), .val (.long q1), .second, .val (.ref b6), .val (.int 4)] [(.ref o0), (.int 4), (.ref b6)])
  obtain ⟨T64, X64, e64, st64⟩ := getF X62 hx hZ hown (host := "") (Or.inl (ww49 hw)) Via.refl e62 f60 (g := (mkF m 86 #[.val (.ref o0), .val (.long q1), .second, .val (.ref b6), .val (.int 4)] [(.ref o0), (.int 4), (.ref b6)])) rfl rfl (hb hby d8_86)
  refine step st64 ?_
  show G T64 (mkF m 89 #[.val (.ref o0), .val (.long q1), .second, .val (.ref b6), .val (.int 4)] [(.ref b6), (.int 4), (.ref b6)])
  have f65 := (Arv.other (Arv.other V50 W53 (Nat.ne_of_gt lt_o0_b6)) W56 (Nat.ne_of_gt lt_o0_b6))
  have q66 := own_len X64 hx hZ e64 f65 (g := (mkF m 89 #[.val (.ref o0), .val (.long q1), .second, .val (.ref b6), .val (.int 4)] [(.ref b6), (.int 4), (.ref b6)])) rfl rfl (hb hby d8_89)
  refine step q66 ?_
  show G T64 (mkF m 90 #[.val (.ref o0), .val (.long q1), .second, .val (.ref b6), .val (.int 4)] [(.int 8), (.int 4), (.ref b6)])
  refine step (fun t k => iremM X64 hx rfl (hb hby d8_90) rfl (by decide) k) ?_
  show G T64 (mkF m 91 #[.val (.ref o0), .val (.long q1), .second, .val (.ref b6), .val (.int 4)] [(.int ((4 : Int32) % (8 : Int32))), (.ref b6)])
  rw [(by decide : ((4 : Int32) % (8 : Int32)) = (4 : Int32))]
  show G T64 (mkF m 91 #[.val (.ref o0), .val (.long q1), .second, .val (.ref b6), .val (.int 4)] [(.int 4), (.ref b6)])
  refine step (fun t k => XS.lloadN X64.here hx rfl (hb hby d8_91) rfl k) ?_
  show G T64 (mkF m 92 #[.val (.ref o0), .val (.long q1), .second, .val (.ref b6), .val (.int 4)] [(.long q1), (.int 4), (.ref b6)])
  obtain ⟨T67, h67, X67, e67, W67, V67, st67⟩ := own_stJ X64 hx hZ e64 f65 (j := (4 : Int32)) (by decide) (i := 4) rfl (by show 4 < 8; decide) (g := (mkF m 92 #[.val (.ref o0), .val (.long q1), .second, .val (.ref b6), .val (.int 4)] [(.long q1), (.int 4), (.ref b6)])) rfl rfl (hb hby d8_92)
  replace V67 : Arv Z h67 b6 k6 .long (8 : Int32) [(.long x1), (.long x2), (.long x3), (.long x0), (.long q1), (.long 0), (.long 0), (.long 0)] (.long 0) := V67
  have N67 := Fr.snoc X67 N56 ge_b6
  obtain ⟨lc67, X67, N67⟩ := own_gen X67 N67
  have O67 := O56.wr W67 ge_b6
  have K67 : Keep h0 h67 [o0] := K56.wr W67 (Or.inr sz_b6)
  refine step st67 ?_
  show G T67 (mkF m 93 #[.val (.ref o0), .val (.long q1), .second, .val (.ref b6), .val (.int 4)] [])
  refine step (fun t k => XS.aloadN X67.here hx rfl (hb hby d8_93) rfl rfl k) ?_
  show G T67 (mkF m 94 #[.val (.ref o0), .val (.long q1), .second, .val (.ref b6), .val (.int 4)] [(.ref o0)])
  refine step (fun t k => XS.dup X67.here hx rfl (hb hby d8_94) rfl rfl k) ?_
  show G T67 (mkF m 95 #[.val (.ref o0), .val (.long q1), .second, .val (.ref b6), .val (.int 4)] [(.ref o0), (.ref o0)])
  have f69 := (Fld.other W67 f63 (Or.inl (Nat.ne_of_lt lt_o0_b6)))
  obtain ⟨T68, X68, e68, st68⟩ := getF X67 hx hZ hown (host := "") (Or.inl (ww56 hw)) Via.refl e67 f69 (g := (mkF m 95 #[.val (.ref o0), .val (.long q1), .second, .val (.ref b6), .val (.int 4)] [(.ref o0), (.ref o0)])) rfl rfl (hb hby d8_95)
  refine step st68 ?_
  show G T68 (mkF m 98 #[.val (.ref o0), .val (.long q1), .second, .val (.ref b6), .val (.int 4)] [(.int 4), (.ref o0)])
  refine step (fun t k => XS.iconst X68.here hx rfl (hb hby d8_98) k) ?_
  show G T68 (mkF m 99 #[.val (.ref o0), .val (.long q1), .second, .val (.ref b6), .val (.int 4)] [(.int 1), (.int 4), (.ref o0)])
  refine step (fun t k => XS.iadd X68.here hx rfl (hb hby d8_99) rfl k) ?_
  show G T68 (mkF m 100 #[.val (.ref o0), .val (.long q1), .second, .val (.ref b6), .val (.int 4)] [(.int ((4 : Int32) + (1 : Int32))), (.ref o0)])
  rw [(by decide : ((4 : Int32) + (1 : Int32)) = (5 : Int32))]
  show G T68 (mkF m 100 #[.val (.ref o0), .val (.long q1), .second, .val (.ref b6), .val (.int 4)] [(.int 5), (.ref o0)])
  have f71 := (Exa.wr W67 (Exa.wr W56 f58))
  obtain ⟨T70, h70, X70, e70, W70, st70⟩ := putF X68 hx hZ hown (host := "") (Or.inl (ww56 hw)) Via.refl e68 f69 f71 (Or.inl (ww57 hw)) (ww43 hw) (ty := .int) (by decide) rfl rfl (g := (mkF m 100 #[.val (.ref o0), .val (.long q1), .second, .val (.ref b6), .val (.int 4)] [(.int 5), (.ref o0)])) rfl rfl (hb hby d8_100)
  have F70 : Fld Z h70 o0 cn_0 "size" "I" (.int 5) := Fld.same W70 f69
  have N70 := Fr.snoc X70 N67 geo
  obtain ⟨lc70, X70, N70⟩ := own_gen X70 N70
  have O70 := O67.wr W70 geo
  have K70 : Keep h0 h70 [o0] := K67.wr W70 (Or.inl (List.mem_of_getElem? (i := 0) rfl))
  refine step st70 ?_
  show G T70 (mkF m 103 #[.val (.ref o0), .val (.long q1), .second, .val (.ref b6), .val (.int 4)] [])
  have f72 := (Exa.wr W70 f71)
  have f73 := (Fld.other W70 (Fld.other W67 f60 (Or.inl (Nat.ne_of_lt lt_o0_b6))) (Or.inr (slot_ne (Or.inl (ww50 hw)) (Or.inl (ww57 hw)) (by decide) (t := (.array .long)) (t' := .int) (by decide) (by decide))))
  have f74 := (Fld.other W70 (Fld.other W67 F56 (Or.inl (Nat.ne_of_lt lt_o0_b6))) (Or.inr (slot_ne (Or.inl (ww59 hw)) (Or.inl (ww57 hw)) (by decide) (t := .int) (t' := .int) (by decide) (by decide))))
  have f75 := (Arv.other V67 W70 (Nat.ne_of_gt lt_o0_b6))
  exact ret (v := none) X70 (fun _ => rfl) (fun fs hr => X70.returnOut hx Bd.returns (hb hby d8_103) hr) e70 ⟨b6, k6, rfl, N70, K70, sz_b6, f72, f73, f74, F70, f75⟩ (by decide) (by decide)
abbrev rr_for_4_0_4_2 : Room := { frames := 0, cells := 0, slots := 0, locals := 0 }
theorem ef_for_4_0_4_2 (m : MethodId) (o0 : Addr) (q1 : Int64) : entryFrame m #[(.ref o0), (.long q1)] 3 = mkF m 0 #[.val (.ref o0), .val (.long q1), .second] [] := by first | (simp [entryFrame, mkF, argsToLocals, Value.category]; done) | rfl
def Q_for_4_0_4_2 (Z : State) (w_SLIDING : Addr) (w_CALENDAR : Addr) (w_SwitchMap_co : Addr) (o0 : Addr) (q1 : Int64) (ar : Addr) (ka : ClassId) (x0 : Int64) (x1 : Int64) (x2 : Int64) (x3 : Int64) (h0 : Heap) (n0 : Nat) (v : Option Value) (h : Heap) (L : List Loc) : Prop := v = none ∧ Fr n0 L ∧ Keep h0 h [o0] ∧ Exa Z h o0 cn_0 ∧ Fld Z h o0 cn_0 "times" "[J" (.ref ar) ∧ Fld Z h o0 cn_0 "head" "I" (.int 2) ∧ Fld Z h o0 cn_0 "size" "I" (.int 2)
set_option maxRecDepth 65536 in
set_option maxHeartbeats 40000000 in
theorem rm_for_4_0_4_2 (l : Launch) (Z : State) (a0 : Array Value) (hw : ∀ d ∈ tables_1, d.before a0 Z = true) (ws : List Jvm.Cond) (w_SLIDING : Addr) (w_CALENDAR : Addr) (w_SwitchMap_co : Addr) (o0 : Addr) (q1 : Int64) (ar : Addr) (ka : ClassId) (x0 : Int64) (x1 : Int64) (x2 : Int64) (x3 : Int64) (h0 : Heap) (n0 : Nat) (Z0 : n0 ≤ h0.size) (ST : own_St Z w_SLIDING w_CALENDAR w_SwitchMap_co) (O0 : Old Z n0 h0) (Ex : Exa Z h0 o0 cn_0) (geo : n0 ≤ o0) (Ft : Fld Z h0 o0 cn_0 "times" "[J" (.ref ar)) (gea : n0 ≤ ar) (Fh : Fld Z h0 o0 cn_0 "head" "I" (.int 0)) (Fs : Fld Z h0 o0 cn_0 "size" "I" (.int 4)) (Va : Arv Z h0 ar ka .long (4 : Int32) [(.long x0), (.long x1), (.long x2), (.long x3)] (.long 0)) (hp0 : ¬ (q1 < x0)) (hp1 : ¬ (q1 < x1)) (hp2 : q1 < x2) :
    MetFree l y_9 (head1 (Jvm.Cond.code y_9 prog_2_method_5_code 3 none :: ws) rr_for_4_0_4_2) (fun a U => a = #[(.ref o0), (.long q1)] ∧ Z.Warmed39 U.vm ∧ U.heap = h0) (fun _ _ _ _ _ => True) (fun _ U o U' => ∃ v L, o = .returned v ∧ Q_for_4_0_4_2 Z w_SLIDING w_CALENDAR w_SwitchMap_co o0 q1 ar ka x0 x1 x2 x3 h0 n0 v U'.heap L ∧ FrameEnd U o U' L rr_for_4_0_4_2.cells rr_for_4_0_4_2.slots) := by
  refine MetFree.of_bodySF (plainFor_of_name pn_3) hisR ?_
  intro p e s m args below meth c s₁ Bd hml0 hP hK
  obtain ⟨rfl, hZ, hh⟩ := hP
  have hx := Bd.exec
  have hby := Bd.bytes
  have hml : c.maxLocals = 3 := hml0
  have hown : s.vm.findClass cn_0 = some m.cls := findClass_of_methodNamed Bd.named
  have hnm := (name_of_methodNamed Bd.named Bd.method).1
  have X0 : Stand p l e rr_for_4_0_4_2 s m #[(.ref o0), (.long q1)] below meth c s₁ [] 0 0 := Stand.of_body Bd
  have e0 : s₁.heap = h0 := by rw [← hh, Bd.state]; rfl
  have N0 := Fr.nil n0
  have K0 : Keep h0 h0 [o0] := Keep.refl _ _
  obtain ⟨G, step, ret, fin⟩ := own_open (p := p) (l := l) (e := e) (R := rr_for_4_0_4_2) (s := s) (m := m) (args := #[(.ref o0), (.long q1)]) (below := below) (meth := meth) (c := c) (rr_for_4_0_4_2.cells) (rr_for_4_0_4_2.slots) (Q_for_4_0_4_2 Z w_SLIDING w_CALENDAR w_SwitchMap_co o0 q1 ar ka x0 x1 x2 x3 h0 n0) Bd.notSynchronized
  refine fin (g := entryFrame m #[(.ref o0), (.long q1)] 3) ?_
  rw [ef_for_4_0_4_2 m o0 q1]
  have ne_o0_ar : o0 ≠ ar := own_ne_arv Ex (ww43 hw) Va
  show G s₁ (mkF m 0 #[.val (.ref o0), .val (.long q1), .second] [])
  refine step (fun t k => XS.aloadN X0.here hx rfl (hb hby d9_0) rfl rfl k) ?_
  show G s₁ (mkF m 1 #[.val (.ref o0), .val (.long q1), .second] [(.ref o0)])
  obtain ⟨T1, X1, e1, st1⟩ := getF X0 hx hZ hown (host := "") (Or.inl (ww56 hw)) Via.refl e0 Fs (g := (mkF m 1 #[.val (.ref o0), .val (.long q1), .second] [(.ref o0)])) rfl rfl (hb hby d9_1)
  refine step st1 ?_
  show G T1 (mkF m 4 #[.val (.ref o0), .val (.long q1), .second] [(.int 4)])
  refine step (fun t k => XS.ifNo X1.here hx rfl (hb hby d9_4) rfl ((if0 _ _).trans (tlt (by decide : (0 : Int32) < (4 : Int32))).2.2.2) k) ?_
  show G T1 (mkF m 7 #[.val (.ref o0), .val (.long q1), .second] [])
  refine step (fun t k => XS.aloadN X1.here hx rfl (hb hby d9_7) rfl rfl k) ?_
  show G T1 (mkF m 8 #[.val (.ref o0), .val (.long q1), .second] [(.ref o0)])
  obtain ⟨T2, X2, e2, st2⟩ := getF X1 hx hZ hown (host := "") (Or.inl (ww49 hw)) Via.refl e1 Ft (g := (mkF m 8 #[.val (.ref o0), .val (.long q1), .second] [(.ref o0)])) rfl rfl (hb hby d9_8)
  refine step st2 ?_
  show G T2 (mkF m 11 #[.val (.ref o0), .val (.long q1), .second] [(.ref ar)])
  refine step (fun t k => XS.aloadN X2.here hx rfl (hb hby d9_11) rfl rfl k) ?_
  show G T2 (mkF m 12 #[.val (.ref o0), .val (.long q1), .second] [(.ref o0), (.ref ar)])
  obtain ⟨T3, X3, e3, st3⟩ := getF X2 hx hZ hown (host := "") (Or.inl (ww58 hw)) Via.refl e2 Fh (g := (mkF m 12 #[.val (.ref o0), .val (.long q1), .second] [(.ref o0), (.ref ar)])) rfl rfl (hb hby d9_12)
  refine step st3 ?_
  show G T3 (mkF m 15 #[.val (.ref o0), .val (.long q1), .second] [(.int 0), (.ref ar)])
  have q4 := own_ldJ X3 hx hZ e3 Va (j := (0 : Int32)) (v := (.long x0)) (by decide) (own_at (i := 0) rfl rfl) (g := (mkF m 15 #[.val (.ref o0), .val (.long q1), .second] [(.int 0), (.ref ar)])) rfl rfl (hb hby d9_15)
  refine step q4 ?_
  show G T3 (mkF m 16 #[.val (.ref o0), .val (.long q1), .second] [(.long x0)])
  refine step (fun t k => XS.lloadN X3.here hx rfl (hb hby d9_16) rfl k) ?_
  show G T3 (mkF m 17 #[.val (.ref o0), .val (.long q1), .second] [(.long q1), (.long x0)])
  refine step (fun t k => XS.lcmp X3.here hx rfl (hb hby d9_17) rfl k) ?_
  show G T3 (mkF m 18 #[.val (.ref o0), .val (.long q1), .second] [(.int (lcmpW x0 q1))])
  refine step (fun t k => XS.ifNo X3.here hx rfl (hb hby d9_18) rfl ((if0 _ _).trans (flt (fun q => hp0 ((lw_gt _ _).mp q))).2.2.1) k) ?_
  show G T3 (mkF m 21 #[.val (.ref o0), .val (.long q1), .second] [])
  refine step (fun t k => XS.aloadN X3.here hx rfl (hb hby d9_21) rfl rfl k) ?_
  show G T3 (mkF m 22 #[.val (.ref o0), .val (.long q1), .second] [(.ref o0)])
  refine step (fun t k => XS.aloadN X3.here hx rfl (hb hby d9_22) rfl rfl k) ?_
  show G T3 (mkF m 23 #[.val (.ref o0), .val (.long q1), .second] [(.ref o0), (.ref o0)])
  obtain ⟨T5, X5, e5, st5⟩ := getF X3 hx hZ hown (host := "") (Or.inl (ww58 hw)) Via.refl e3 Fh (g := (mkF m 23 #[.val (.ref o0), .val (.long q1), .second] [(.ref o0), (.ref o0)])) rfl rfl (hb hby d9_23)
  refine step st5 ?_
  show G T5 (mkF m 26 #[.val (.ref o0), .val (.long q1), .second] [(.int 0), (.ref o0)])
  refine step (fun t k => XS.iconst X5.here hx rfl (hb hby d9_26) k) ?_
  show G T5 (mkF m 27 #[.val (.ref o0), .val (.long q1), .second] [(.int 1), (.int 0), (.ref o0)])
  refine step (fun t k => XS.iadd X5.here hx rfl (hb hby d9_27) rfl k) ?_
  show G T5 (mkF m 28 #[.val (.ref o0), .val (.long q1), .second] [(.int ((0 : Int32) + (1 : Int32))), (.ref o0)])
  rw [(by decide : ((0 : Int32) + (1 : Int32)) = (1 : Int32))]
  show G T5 (mkF m 28 #[.val (.ref o0), .val (.long q1), .second] [(.int 1), (.ref o0)])
  refine step (fun t k => XS.aloadN X5.here hx rfl (hb hby d9_28) rfl rfl k) ?_
  show G T5 (mkF m 29 #[.val (.ref o0), .val (.long q1), .second] [(.ref o0), (.int 1), (.ref o0)])
  obtain ⟨T6, X6, e6, st6⟩ := getF X5 hx hZ hown (host := "") (Or.inl (ww49 hw)) Via.refl e5 Ft (g := (mkF m 29 #[.val (.ref o0), .val (.long q1), .second] [(.ref o0), (.int 1), (.ref o0)])) rfl rfl (hb hby d9_29)
  refine step st6 ?_
  show G T6 (mkF m 32 #[.val (.ref o0), .val (.long q1), .second] [(.ref ar), (.int 1), (.ref o0)])
  have q7 := own_len X6 hx hZ e6 Va (g := (mkF m 32 #[.val (.ref o0), .val (.long q1), .second] [(.ref ar), (.int 1), (.ref o0)])) rfl rfl (hb hby d9_32)
  refine step q7 ?_
  show G T6 (mkF m 33 #[.val (.ref o0), .val (.long q1), .second] [(.int 4), (.int 1), (.ref o0)])
  refine step (fun t k => iremM X6 hx rfl (hb hby d9_33) rfl (by decide) k) ?_
  show G T6 (mkF m 34 #[.val (.ref o0), .val (.long q1), .second] [(.int ((1 : Int32) % (4 : Int32))), (.ref o0)])
  rw [(by decide : ((1 : Int32) % (4 : Int32)) = (1 : Int32))]
  show G T6 (mkF m 34 #[.val (.ref o0), .val (.long q1), .second] [(.int 1), (.ref o0)])
  obtain ⟨T8, h8, X8, e8, W8, st8⟩ := putF X6 hx hZ hown (host := "") (Or.inl (ww58 hw)) Via.refl e6 Fh Ex (Or.inl (ww59 hw)) (ww43 hw) (ty := .int) (by decide) rfl rfl (g := (mkF m 34 #[.val (.ref o0), .val (.long q1), .second] [(.int 1), (.ref o0)])) rfl rfl (hb hby d9_34)
  have F8 : Fld Z h8 o0 cn_0 "head" "I" (.int 1) := Fld.same W8 Fh
  have N8 := Fr.snoc X8 N0 geo
  obtain ⟨lc8, X8, N8⟩ := own_gen X8 N8
  have O8 := O0.wr W8 geo
  have K8 : Keep h0 h8 [o0] := K0.wr W8 (Or.inl (List.mem_of_getElem? (i := 0) rfl))
  refine step st8 ?_
  show G T8 (mkF m 37 #[.val (.ref o0), .val (.long q1), .second] [])
  refine step (fun t k => XS.aloadN X8.here hx rfl (hb hby d9_37) rfl rfl k) ?_
  show G T8 (mkF m 38 #[.val (.ref o0), .val (.long q1), .second] [(.ref o0)])
  refine step (fun t k => XS.dup X8.here hx rfl (hb hby d9_38) rfl rfl k) ?_
  show G T8 (mkF m 39 #[.val (.ref o0), .val (.long q1), .second] [(.ref o0), (.ref o0)])
  have f10 := (Fld.other W8 Fs (Or.inr (slot_ne (Or.inl (ww57 hw)) (Or.inl (ww59 hw)) (by decide) (t := .int) (t' := .int) (by decide) (by decide))))
  obtain ⟨T9, X9, e9, st9⟩ := getF X8 hx hZ hown (host := "") (Or.inl (ww56 hw)) Via.refl e8 f10 (g := (mkF m 39 #[.val (.ref o0), .val (.long q1), .second] [(.ref o0), (.ref o0)])) rfl rfl (hb hby d9_39)
  refine step st9 ?_
  show G T9 (mkF m 42 #[.val (.ref o0), .val (.long q1), .second] [(.int 4), (.ref o0)])
  refine step (fun t k => XS.iconst X9.here hx rfl (hb hby d9_42) k) ?_
  show G T9 (mkF m 43 #[.val (.ref o0), .val (.long q1), .second] [(.int 1), (.int 4), (.ref o0)])
  refine step (fun t k => XS.isub X9.here hx rfl (hb hby d9_43) rfl k) ?_
  show G T9 (mkF m 44 #[.val (.ref o0), .val (.long q1), .second] [(.int ((4 : Int32) - (1 : Int32))), (.ref o0)])
  rw [(by decide : ((4 : Int32) - (1 : Int32)) = (3 : Int32))]
  show G T9 (mkF m 44 #[.val (.ref o0), .val (.long q1), .second] [(.int 3), (.ref o0)])
  have f12 := (Exa.wr W8 Ex)
  obtain ⟨T11, h11, X11, e11, W11, st11⟩ := putF X9 hx hZ hown (host := "") (Or.inl (ww56 hw)) Via.refl e9 f10 f12 (Or.inl (ww57 hw)) (ww43 hw) (ty := .int) (by decide) rfl rfl (g := (mkF m 44 #[.val (.ref o0), .val (.long q1), .second] [(.int 3), (.ref o0)])) rfl rfl (hb hby d9_44)
  have F11 : Fld Z h11 o0 cn_0 "size" "I" (.int 3) := Fld.same W11 f10
  have N11 := Fr.snoc X11 N8 geo
  obtain ⟨lc11, X11, N11⟩ := own_gen X11 N11
  have O11 := O8.wr W11 geo
  have K11 : Keep h0 h11 [o0] := K8.wr W11 (Or.inl (List.mem_of_getElem? (i := 0) rfl))
  refine step st11 ?_
  show G T11 (mkF m 47 #[.val (.ref o0), .val (.long q1), .second] [])
  refine step (fun t k => XS.goto X11.here hx rfl (pc0 := 47) (pc' := 0) rfl (hb hby d9_47) (by decide) (by decide) k) ?_
  show G T11 (mkF m 0 #[.val (.ref o0), .val (.long q1), .second] [])
  refine step (fun t k => XS.aloadN X11.here hx rfl (hb hby d9_0) rfl rfl k) ?_
  show G T11 (mkF m 1 #[.val (.ref o0), .val (.long q1), .second] [(.ref o0)])
  obtain ⟨T13, X13, e13, st13⟩ := getF X11 hx hZ hown (host := "") (Or.inl (ww56 hw)) Via.refl e11 F11 (g := (mkF m 1 #[.val (.ref o0), .val (.long q1), .second] [(.ref o0)])) rfl rfl (hb hby d9_1)
  refine step st13 ?_
  show G T13 (mkF m 4 #[.val (.ref o0), .val (.long q1), .second] [(.int 3)])
  refine step (fun t k => XS.ifNo X13.here hx rfl (hb hby d9_4) rfl ((if0 _ _).trans (tlt (by decide : (0 : Int32) < (3 : Int32))).2.2.2) k) ?_
  show G T13 (mkF m 7 #[.val (.ref o0), .val (.long q1), .second] [])
  refine step (fun t k => XS.aloadN X13.here hx rfl (hb hby d9_7) rfl rfl k) ?_
  show G T13 (mkF m 8 #[.val (.ref o0), .val (.long q1), .second] [(.ref o0)])
  have f15 := (Fld.other W11 (Fld.other W8 Ft (Or.inr (slot_ne (Or.inl (ww50 hw)) (Or.inl (ww59 hw)) (by decide) (t := (.array .long)) (t' := .int) (by decide) (by decide)))) (Or.inr (slot_ne (Or.inl (ww50 hw)) (Or.inl (ww57 hw)) (by decide) (t := (.array .long)) (t' := .int) (by decide) (by decide))))
  obtain ⟨T14, X14, e14, st14⟩ := getF X13 hx hZ hown (host := "") (Or.inl (ww49 hw)) Via.refl e13 f15 (g := (mkF m 8 #[.val (.ref o0), .val (.long q1), .second] [(.ref o0)])) rfl rfl (hb hby d9_8)
  refine step st14 ?_
  show G T14 (mkF m 11 #[.val (.ref o0), .val (.long q1), .second] [(.ref ar)])
  refine step (fun t k => XS.aloadN X14.here hx rfl (hb hby d9_11) rfl rfl k) ?_
  show G T14 (mkF m 12 #[.val (.ref o0), .val (.long q1), .second] [(.ref o0), (.ref ar)])
  have f17 := (Fld.other W11 F8 (Or.inr (slot_ne (Or.inl (ww59 hw)) (Or.inl (ww57 hw)) (by decide) (t := .int) (t' := .int) (by decide) (by decide))))
  obtain ⟨T16, X16, e16, st16⟩ := getF X14 hx hZ hown (host := "") (Or.inl (ww58 hw)) Via.refl e14 f17 (g := (mkF m 12 #[.val (.ref o0), .val (.long q1), .second] [(.ref o0), (.ref ar)])) rfl rfl (hb hby d9_12)
  refine step st16 ?_
  show G T16 (mkF m 15 #[.val (.ref o0), .val (.long q1), .second] [(.int 1), (.ref ar)])
  have f18 := (Arv.other (Arv.other Va W8 (Ne.symm ne_o0_ar)) W11 (Ne.symm ne_o0_ar))
  have q19 := own_ldJ X16 hx hZ e16 f18 (j := (1 : Int32)) (v := (.long x1)) (by decide) (own_at (i := 1) rfl rfl) (g := (mkF m 15 #[.val (.ref o0), .val (.long q1), .second] [(.int 1), (.ref ar)])) rfl rfl (hb hby d9_15)
  refine step q19 ?_
  show G T16 (mkF m 16 #[.val (.ref o0), .val (.long q1), .second] [(.long x1)])
  refine step (fun t k => XS.lloadN X16.here hx rfl (hb hby d9_16) rfl k) ?_
  show G T16 (mkF m 17 #[.val (.ref o0), .val (.long q1), .second] [(.long q1), (.long x1)])
  refine step (fun t k => XS.lcmp X16.here hx rfl (hb hby d9_17) rfl k) ?_
  show G T16 (mkF m 18 #[.val (.ref o0), .val (.long q1), .second] [(.int (lcmpW x1 q1))])
  refine step (fun t k => XS.ifNo X16.here hx rfl (hb hby d9_18) rfl ((if0 _ _).trans (flt (fun q => hp1 ((lw_gt _ _).mp q))).2.2.1) k) ?_
  show G T16 (mkF m 21 #[.val (.ref o0), .val (.long q1), .second] [])
  refine step (fun t k => XS.aloadN X16.here hx rfl (hb hby d9_21) rfl rfl k) ?_
  show G T16 (mkF m 22 #[.val (.ref o0), .val (.long q1), .second] [(.ref o0)])
  refine step (fun t k => XS.aloadN X16.here hx rfl (hb hby d9_22) rfl rfl k) ?_
  show G T16 (mkF m 23 #[.val (.ref o0), .val (.long q1), .second] [(.ref o0), (.ref o0)])
  obtain ⟨T20, X20, e20, st20⟩ := getF X16 hx hZ hown (host := "") (Or.inl (ww58 hw)) Via.refl e16 f17 (g := (mkF m 23 #[.val (.ref o0), .val (.long q1), .second] [(.ref o0), (.ref o0)])) rfl rfl (hb hby d9_23)
  refine step st20 ?_
  show G T20 (mkF m 26 #[.val (.ref o0), .val (.long q1), .second] [(.int 1), (.ref o0)])
  refine step (fun t k => XS.iconst X20.here hx rfl (hb hby d9_26) k) ?_
  show G T20 (mkF m 27 #[.val (.ref o0), .val (.long q1), .second] [(.int 1), (.int 1), (.ref o0)])
  refine step (fun t k => XS.iadd X20.here hx rfl (hb hby d9_27) rfl k) ?_
  show G T20 (mkF m 28 #[.val (.ref o0), .val (.long q1), .second] [(.int ((1 : Int32) + (1 : Int32))), (.ref o0)])
  rw [(by decide : ((1 : Int32) + (1 : Int32)) = (2 : Int32))]
  show G T20 (mkF m 28 #[.val (.ref o0), .val (.long q1), .second] [(.int 2), (.ref o0)])
  refine step (fun t k => XS.aloadN X20.here hx rfl (hb hby d9_28) rfl rfl k) ?_
  show G T20 (mkF m 29 #[.val (.ref o0), .val (.long q1), .second] [(.ref o0), (.int 2), (.ref o0)])
  obtain ⟨T21, X21, e21, st21⟩ := getF X20 hx hZ hown (host := "") (Or.inl (ww49 hw)) Via.refl e20 f15 (g := (mkF m 29 #[.val (.ref o0), .val (.long q1), .second] [(.ref o0), (.int 2), (.ref o0)])) rfl rfl (hb hby d9_29)
  refine step st21 ?_
  show G T21 (mkF m 32 #[.val (.ref o0), .val (.long q1), .second] [(.ref ar), (.int 2), (.ref o0)])
  have q22 := own_len X21 hx hZ e21 f18 (g := (mkF m 32 #[.val (.ref o0), .val (.long q1), .second] [(.ref ar), (.int 2), (.ref o0)])) rfl rfl (hb hby d9_32)
  refine step q22 ?_
  show G T21 (mkF m 33 #[.val (.ref o0), .val (.long q1), .second] [(.int 4), (.int 2), (.ref o0)])
  refine step (fun t k => iremM X21 hx rfl (hb hby d9_33) rfl (by decide) k) ?_
  show G T21 (mkF m 34 #[.val (.ref o0), .val (.long q1), .second] [(.int ((2 : Int32) % (4 : Int32))), (.ref o0)])
  rw [(by decide : ((2 : Int32) % (4 : Int32)) = (2 : Int32))]
  show G T21 (mkF m 34 #[.val (.ref o0), .val (.long q1), .second] [(.int 2), (.ref o0)])
  have f24 := (Exa.wr W11 f12)
  obtain ⟨T23, h23, X23, e23, W23, st23⟩ := putF X21 hx hZ hown (host := "") (Or.inl (ww58 hw)) Via.refl e21 f17 f24 (Or.inl (ww59 hw)) (ww43 hw) (ty := .int) (by decide) rfl rfl (g := (mkF m 34 #[.val (.ref o0), .val (.long q1), .second] [(.int 2), (.ref o0)])) rfl rfl (hb hby d9_34)
  have F23 : Fld Z h23 o0 cn_0 "head" "I" (.int 2) := Fld.same W23 f17
  have N23 := Fr.snoc X23 N11 geo
  obtain ⟨lc23, X23, N23⟩ := own_gen X23 N23
  have O23 := O11.wr W23 geo
  have K23 : Keep h0 h23 [o0] := K11.wr W23 (Or.inl (List.mem_of_getElem? (i := 0) rfl))
  refine step st23 ?_
  show G T23 (mkF m 37 #[.val (.ref o0), .val (.long q1), .second] [])
  refine step (fun t k => XS.aloadN X23.here hx rfl (hb hby d9_37) rfl rfl k) ?_
  show G T23 (mkF m 38 #[.val (.ref o0), .val (.long q1), .second] [(.ref o0)])
  refine step (fun t k => XS.dup X23.here hx rfl (hb hby d9_38) rfl rfl k) ?_
  show G T23 (mkF m 39 #[.val (.ref o0), .val (.long q1), .second] [(.ref o0), (.ref o0)])
  have f26 := (Fld.other W23 F11 (Or.inr (slot_ne (Or.inl (ww57 hw)) (Or.inl (ww59 hw)) (by decide) (t := .int) (t' := .int) (by decide) (by decide))))
  obtain ⟨T25, X25, e25, st25⟩ := getF X23 hx hZ hown (host := "") (Or.inl (ww56 hw)) Via.refl e23 f26 (g := (mkF m 39 #[.val (.ref o0), .val (.long q1), .second] [(.ref o0), (.ref o0)])) rfl rfl (hb hby d9_39)
  refine step st25 ?_
  show G T25 (mkF m 42 #[.val (.ref o0), .val (.long q1), .second] [(.int 3), (.ref o0)])
  refine step (fun t k => XS.iconst X25.here hx rfl (hb hby d9_42) k) ?_
  show G T25 (mkF m 43 #[.val (.ref o0), .val (.long q1), .second] [(.int 1), (.int 3), (.ref o0)])
  refine step (fun t k => XS.isub X25.here hx rfl (hb hby d9_43) rfl k) ?_
  show G T25 (mkF m 44 #[.val (.ref o0), .val (.long q1), .second] [(.int ((3 : Int32) - (1 : Int32))), (.ref o0)])
  rw [(by decide : ((3 : Int32) - (1 : Int32)) = (2 : Int32))]
  show G T25 (mkF m 44 #[.val (.ref o0), .val (.long q1), .second] [(.int 2), (.ref o0)])
  have f28 := (Exa.wr W23 f24)
  obtain ⟨T27, h27, X27, e27, W27, st27⟩ := putF X25 hx hZ hown (host := "") (Or.inl (ww56 hw)) Via.refl e25 f26 f28 (Or.inl (ww57 hw)) (ww43 hw) (ty := .int) (by decide) rfl rfl (g := (mkF m 44 #[.val (.ref o0), .val (.long q1), .second] [(.int 2), (.ref o0)])) rfl rfl (hb hby d9_44)
  have F27 : Fld Z h27 o0 cn_0 "size" "I" (.int 2) := Fld.same W27 f26
  have N27 := Fr.snoc X27 N23 geo
  obtain ⟨lc27, X27, N27⟩ := own_gen X27 N27
  have O27 := O23.wr W27 geo
  have K27 : Keep h0 h27 [o0] := K23.wr W27 (Or.inl (List.mem_of_getElem? (i := 0) rfl))
  refine step st27 ?_
  show G T27 (mkF m 47 #[.val (.ref o0), .val (.long q1), .second] [])
  refine step (fun t k => XS.goto X27.here hx rfl (pc0 := 47) (pc' := 0) rfl (hb hby d9_47) (by decide) (by decide) k) ?_
  show G T27 (mkF m 0 #[.val (.ref o0), .val (.long q1), .second] [])
  refine step (fun t k => XS.aloadN X27.here hx rfl (hb hby d9_0) rfl rfl k) ?_
  show G T27 (mkF m 1 #[.val (.ref o0), .val (.long q1), .second] [(.ref o0)])
  obtain ⟨T29, X29, e29, st29⟩ := getF X27 hx hZ hown (host := "") (Or.inl (ww56 hw)) Via.refl e27 F27 (g := (mkF m 1 #[.val (.ref o0), .val (.long q1), .second] [(.ref o0)])) rfl rfl (hb hby d9_1)
  refine step st29 ?_
  show G T29 (mkF m 4 #[.val (.ref o0), .val (.long q1), .second] [(.int 2)])
  refine step (fun t k => XS.ifNo X29.here hx rfl (hb hby d9_4) rfl ((if0 _ _).trans (tlt (by decide : (0 : Int32) < (2 : Int32))).2.2.2) k) ?_
  show G T29 (mkF m 7 #[.val (.ref o0), .val (.long q1), .second] [])
  refine step (fun t k => XS.aloadN X29.here hx rfl (hb hby d9_7) rfl rfl k) ?_
  show G T29 (mkF m 8 #[.val (.ref o0), .val (.long q1), .second] [(.ref o0)])
  have f31 := (Fld.other W27 (Fld.other W23 f15 (Or.inr (slot_ne (Or.inl (ww50 hw)) (Or.inl (ww59 hw)) (by decide) (t := (.array .long)) (t' := .int) (by decide) (by decide)))) (Or.inr (slot_ne (Or.inl (ww50 hw)) (Or.inl (ww57 hw)) (by decide) (t := (.array .long)) (t' := .int) (by decide) (by decide))))
  obtain ⟨T30, X30, e30, st30⟩ := getF X29 hx hZ hown (host := "") (Or.inl (ww49 hw)) Via.refl e29 f31 (g := (mkF m 8 #[.val (.ref o0), .val (.long q1), .second] [(.ref o0)])) rfl rfl (hb hby d9_8)
  refine step st30 ?_
  show G T30 (mkF m 11 #[.val (.ref o0), .val (.long q1), .second] [(.ref ar)])
  refine step (fun t k => XS.aloadN X30.here hx rfl (hb hby d9_11) rfl rfl k) ?_
  show G T30 (mkF m 12 #[.val (.ref o0), .val (.long q1), .second] [(.ref o0), (.ref ar)])
  have f33 := (Fld.other W27 F23 (Or.inr (slot_ne (Or.inl (ww59 hw)) (Or.inl (ww57 hw)) (by decide) (t := .int) (t' := .int) (by decide) (by decide))))
  obtain ⟨T32, X32, e32, st32⟩ := getF X30 hx hZ hown (host := "") (Or.inl (ww58 hw)) Via.refl e30 f33 (g := (mkF m 12 #[.val (.ref o0), .val (.long q1), .second] [(.ref o0), (.ref ar)])) rfl rfl (hb hby d9_12)
  refine step st32 ?_
  show G T32 (mkF m 15 #[.val (.ref o0), .val (.long q1), .second] [(.int 2), (.ref ar)])
  have f34 := (Arv.other (Arv.other f18 W23 (Ne.symm ne_o0_ar)) W27 (Ne.symm ne_o0_ar))
  have q35 := own_ldJ X32 hx hZ e32 f34 (j := (2 : Int32)) (v := (.long x2)) (by decide) (own_at (i := 2) rfl rfl) (g := (mkF m 15 #[.val (.ref o0), .val (.long q1), .second] [(.int 2), (.ref ar)])) rfl rfl (hb hby d9_15)
  refine step q35 ?_
  show G T32 (mkF m 16 #[.val (.ref o0), .val (.long q1), .second] [(.long x2)])
  refine step (fun t k => XS.lloadN X32.here hx rfl (hb hby d9_16) rfl k) ?_
  show G T32 (mkF m 17 #[.val (.ref o0), .val (.long q1), .second] [(.long q1), (.long x2)])
  refine step (fun t k => XS.lcmp X32.here hx rfl (hb hby d9_17) rfl k) ?_
  show G T32 (mkF m 18 #[.val (.ref o0), .val (.long q1), .second] [(.int (lcmpW x2 q1))])
  refine step (fun t k => XS.ifYes X32.here hx rfl (pc0 := 18) (pc' := 50) rfl (hb hby d9_18) rfl ((if0 _ _).trans (tlt ((lw_gt _ _).mpr hp2)).2.2.1) (by decide) (by decide) k) ?_
  show G T32 (mkF m 50 #[.val (.ref o0), .val (.long q1), .second] [])
  have f36 := (Exa.wr W27 f28)
  exact ret (v := none) X32 (fun _ => rfl) (fun fs hr => X32.returnOut hx Bd.returns (hb hby d9_50) hr) e32 ⟨rfl, N27, K27, f36, f31, f33, F27⟩ (by decide) (by decide)
abbrev rr_cnt_4_0_4_2 : Room := { frames := 1, cells := 0, slots := 0, locals := 15 }
theorem ef_cnt_4_0_4_2 (m : MethodId) (o0 : Addr) (o1 : Addr) (q2 : Int64) : entryFrame m #[(.ref o0), (.ref o1), (.long q2)] 4 = mkF m 0 #[.val (.ref o0), .val (.ref o1), .val (.long q2), .second] [] := by first | (simp [entryFrame, mkF, argsToLocals, Value.category]; done) | rfl
def Q_cnt_4_0_4_2 (Z : State) (w_SLIDING : Addr) (w_CALENDAR : Addr) (w_SwitchMap_co : Addr) (o0 : Addr) (o1 : Addr) (q2 : Int64) (ar : Addr) (ka : ClassId) (x0 : Int64) (x1 : Int64) (x2 : Int64) (x3 : Int64) (mm : Int64) (h0 : Heap) (n0 : Nat) (v : Option Value) (h : Heap) (L : List Loc) : Prop := v = some (.int 2) ∧ Fr n0 L ∧ Keep h0 h [o0] ∧ Exa Z h o0 cn_0 ∧ Fld Z h o0 cn_0 "times" "[J" (.ref ar) ∧ Fld Z h o0 cn_0 "head" "I" (.int 2) ∧ Fld Z h o0 cn_0 "size" "I" (.int 2)
set_option maxRecDepth 65536 in
set_option maxHeartbeats 40000000 in
theorem rm_cnt_4_0_4_2 (l : Launch) (Z : State) (a0 : Array Value) (hw : ∀ d ∈ tables_1, d.before a0 Z = true) (ws : List Jvm.Cond) (w_SLIDING : Addr) (w_CALENDAR : Addr) (w_SwitchMap_co : Addr) (o0 : Addr) (o1 : Addr) (q2 : Int64) (ar : Addr) (ka : ClassId) (x0 : Int64) (x1 : Int64) (x2 : Int64) (x3 : Int64) (mm : Int64) (h0 : Heap) (n0 : Nat) (Z0 : n0 ≤ h0.size) (ST : own_St Z w_SLIDING w_CALENDAR w_SwitchMap_co) (O0 : Old Z n0 h0) (Ex : Exa Z h0 o0 cn_0) (geo : n0 ≤ o0) (Ft : Fld Z h0 o0 cn_0 "times" "[J" (.ref ar)) (gea : n0 ≤ ar) (Fh : Fld Z h0 o0 cn_0 "head" "I" (.int 0)) (Fs : Fld Z h0 o0 cn_0 "size" "I" (.int 4)) (Va : Arv Z h0 ar ka .long (4 : Int32) [(.long x0), (.long x1), (.long x2), (.long x3)] (.long 0)) (Ew : Exa Z h0 o1 cn_1) (Fwt : Fld Z h0 o1 cn_1 "type" cn_3 (.ref w_SLIDING)) (Fwm : Fld Z h0 o1 cn_1 "millis" "J" (.long mm)) (hp0 : ¬ ((q2 - mm) < x0)) (hp1 : ¬ ((q2 - mm) < x1)) (hp2 : (q2 - mm) < x2) :
    MetFree l y_11 (head1 (Jvm.Cond.code y_11 prog_2_method_2_code 4 (some .int) :: ws) rr_cnt_4_0_4_2) (fun a U => a = #[(.ref o0), (.ref o1), (.long q2)] ∧ Z.Warmed39 U.vm ∧ U.heap = h0) (fun _ _ _ _ _ => True) (fun _ U o U' => ∃ v L, o = .returned v ∧ Q_cnt_4_0_4_2 Z w_SLIDING w_CALENDAR w_SwitchMap_co o0 o1 q2 ar ka x0 x1 x2 x3 mm h0 n0 v U'.heap L ∧ FrameEnd U o U' L rr_cnt_4_0_4_2.cells rr_cnt_4_0_4_2.slots) := by
  refine MetFree.of_bodySF (plainFor_of_name pn_3) hisR ?_
  intro p e s m args below meth c s₁ Bd hml0 hP hK
  obtain ⟨rfl, hZ, hh⟩ := hP
  have hx := Bd.exec
  have hby := Bd.bytes
  have hml : c.maxLocals = 4 := hml0
  have hown : s.vm.findClass cn_0 = some m.cls := findClass_of_methodNamed Bd.named
  have hnm := (name_of_methodNamed Bd.named Bd.method).1
  have X0 : Stand p l e rr_cnt_4_0_4_2 s m #[(.ref o0), (.ref o1), (.long q2)] below meth c s₁ [] 0 0 := Stand.of_body Bd
  have e0 : s₁.heap = h0 := by rw [← hh, Bd.state]; rfl
  have N0 := Fr.nil n0
  have K0 : Keep h0 h0 [o0] := Keep.refl _ _
  obtain ⟨G, step, ret, fin⟩ := own_open (p := p) (l := l) (e := e) (R := rr_cnt_4_0_4_2) (s := s) (m := m) (args := #[(.ref o0), (.ref o1), (.long q2)]) (below := below) (meth := meth) (c := c) (rr_cnt_4_0_4_2.cells) (rr_cnt_4_0_4_2.slots) (Q_cnt_4_0_4_2 Z w_SLIDING w_CALENDAR w_SwitchMap_co o0 o1 q2 ar ka x0 x1 x2 x3 mm h0 n0) Bd.notSynchronized
  refine fin (g := entryFrame m #[(.ref o0), (.ref o1), (.long q2)] 4) ?_
  rw [ef_cnt_4_0_4_2 m o0 o1 q2]
  have ne_o0_o1 : o0 ≠ o1 := ne_exa Ex Ew (by decide)
  have ne_o0_ar : o0 ≠ ar := own_ne_arv Ex (ww43 hw) Va
  have ne_o1_ar : o1 ≠ ar := own_ne_arv Ew (ww7 hw) Va
  show G s₁ (mkF m 0 #[.val (.ref o0), .val (.ref o1), .val (.long q2), .second] [])
  obtain ⟨T1, X1, e1, st1⟩ := getS2 X0 hx hZ hown (host := "") (Or.inl (ww65 hw)) Via.refl e0 (Sta.ext O0.2 ST.k6) (g := (mkF m 0 #[.val (.ref o0), .val (.ref o1), .val (.long q2), .second] [])) rfl (hb hby d10_0)
  refine step st1 ?_
  show G T1 (mkF m 3 #[.val (.ref o0), .val (.ref o1), .val (.long q2), .second] [(.ref w_SwitchMap_co)])
  refine step (fun t k => XS.aloadN X1.here hx rfl (hb hby d10_3) rfl rfl k) ?_
  show G T1 (mkF m 4 #[.val (.ref o0), .val (.ref o1), .val (.long q2), .second] [(.ref o1), (.ref w_SwitchMap_co)])
  have hK2 := (backOf (R := rr_cnt_4_0_4_2) (p := p) (e := e) (below := below) (s := s) (args := #[(.ref o0), (.ref o1), (.long q2)]) (len := 3) (W := 1) (rm_ty l Z a0 hw [] w_SLIDING w_CALENDAR w_SwitchMap_co o1 w_SLIDING h0 n0 (own_old_le O0) ST O0 Fwt) hZ (ww72 hw) (ww4 hw) (by decide) (by decide))
  obtain ⟨cq2, kq2, q2a, q2b, q2c⟩ := isOf hZ e1 Ew
  obtain ⟨_, _, ⟨T2, L2, k2, n2⟩, -, X2, ⟨Lc2, hQ2, l2, y2, z2⟩, st2⟩ := X1.virtualBack hx (y := y_5) (z := y_5) hown (mvT hZ (ww68 hw)) (mvT hZ (ww69 hw)) (notFace_of_selects (args := #[]) (mvT hZ (ww71 hw))) (mvT hZ (ww71 hw)) (mvT hZ (ww70 hw)) (by decide) hK2 q2a q2c (g := (mkF m 4 #[.val (.ref o0), .val (.ref o1), .val (.long q2), .second] [(.ref o1), (.ref w_SwitchMap_co)])) rfl (by rw [hml]; rfl) (Steps.refl _) (argsL := []) (rest := [(.ref w_SwitchMap_co)]) (lenOf pd_5 rfl) rfl (by show 2 * 0 + _ ≤ _; exact Nat.le_of_eq rfl) (hb hby d10_4) (fun _ _ => ⟨rfl, e1, (by decide : 0 + 0 ≤ _), (by decide : 0 + 0 ≤ _)⟩)
  dsimp only [Pt.U, Pt.locs, Pt.cells, Pt.slots] at X2 l2 y2 z2 st2 hQ2
  subst l2 y2 z2
  obtain ⟨rfl, N2q, e2⟩ := hQ2
  have N2 := Fr.app N0 N2q
  obtain ⟨lc2, X2, N2⟩ := own_gen X2 N2
  refine step (fun t k => st2.trans k) ?_
  show G T2 (mkF m 7 #[.val (.ref o0), .val (.ref o1), .val (.long q2), .second] [(.ref (f_ty w_SLIDING w_CALENDAR w_SwitchMap_co o1 w_SLIDING)), (.ref w_SwitchMap_co)])
  have r3 : (f_ty w_SLIDING w_CALENDAR w_SwitchMap_co o1 w_SLIDING) = w_SLIDING := rfl
  rw [r3]
  show G T2 (mkF m 7 #[.val (.ref o0), .val (.ref o1), .val (.long q2), .second] [(.ref w_SLIDING), (.ref w_SwitchMap_co)])
  have hK4 := (backOf (R := rr_cnt_4_0_4_2) (p := p) (e := e) (below := below) (s := s) (args := #[(.ref o0), (.ref o1), (.long q2)]) (len := 3) (W := 1) (rm_od l Z a0 hw [] w_SLIDING w_CALENDAR w_SwitchMap_co w_SLIDING (0 : Int32) h0 n0 (own_old_le O0) ST O0 (Fld.ext O0.2 ST.k4)) hZ (ww79 hw) (ww78 hw) (by decide) (by decide))
  obtain ⟨cq4, kq4, q4a, q4b, q4c⟩ := isOf hZ e2 (Exa.ext O0.2 ST.k1)
  obtain ⟨_, _, ⟨T4, L4, k4, n4⟩, -, X4, ⟨Lc4, hQ4, l4, y4, z4⟩, st4⟩ := X2.virtualBackUp hx (x := y_10) (y := y_7) (owner := cn_7) hown (mvT hZ (ww73 hw)) (mvT hZ (ww74 hw)) (mvT hZ (ww75 hw)) (by decide) (mvT hZ (ww77 hw)) (mvT hZ (ww76 hw)) hK4 q4a q4c (g := (mkF m 7 #[.val (.ref o0), .val (.ref o1), .val (.long q2), .second] [(.ref w_SLIDING), (.ref w_SwitchMap_co)])) rfl (by rw [hml]; rfl) (Steps.refl _) (argsL := []) (rest := [(.ref w_SwitchMap_co)]) (lenOf pd_6 rfl) rfl (by show 2 * 0 + _ ≤ _; exact Nat.le_of_eq rfl) (hb hby d10_7) (fun _ _ => ⟨rfl, e2, (by decide : 0 + 0 ≤ _), (by decide : 0 + 0 ≤ _)⟩)
  dsimp only [Pt.U, Pt.locs, Pt.cells, Pt.slots] at X4 l4 y4 z4 st4 hQ4
  subst l4 y4 z4
  obtain ⟨rfl, N4q, e4⟩ := hQ4
  have N4 := Fr.app N2 N4q
  obtain ⟨lc4, X4, N4⟩ := own_gen X4 N4
  refine step (fun t k => st4.trans k) ?_
  show G T4 (mkF m 10 #[.val (.ref o0), .val (.ref o1), .val (.long q2), .second] [(.int (f_od w_SLIDING w_CALENDAR w_SwitchMap_co w_SLIDING (0 : Int32))), (.ref w_SwitchMap_co)])
  have r5 : (f_od w_SLIDING w_CALENDAR w_SwitchMap_co w_SLIDING (0 : Int32)) = (0 : Int32) := rfl
  rw [r5]
  show G T4 (mkF m 10 #[.val (.ref o0), .val (.ref o1), .val (.long q2), .second] [(.int 0), (.ref w_SwitchMap_co)])
  obtain ⟨kw6, Vw6⟩ := ST.k7
  have q7 := own_ldI X4 hx hZ e4 (Arv.ext Vw6 O0.2) (j := (0 : Int32)) (v := (.int 1)) (by decide) (own_at (i := 0) rfl rfl) (g := (mkF m 10 #[.val (.ref o0), .val (.ref o1), .val (.long q2), .second] [(.int 0), (.ref w_SwitchMap_co)])) rfl rfl (hb hby d10_10)
  refine step q7 ?_
  show G T4 (mkF m 11 #[.val (.ref o0), .val (.ref o1), .val (.long q2), .second] [(.int 1)])
  refine step (fun t k => XS.tswIn X4.here hx rfl (pc0 := 11) (pc' := 36) rfl (hb hby d10_11) rfl (by decide) rfl (by decide) (by decide) k) ?_
  show G T4 (mkF m 36 #[.val (.ref o0), .val (.ref o1), .val (.long q2), .second] [])
  refine step (fun t k => XS.aloadN X4.here hx rfl (hb hby d10_36) rfl rfl k) ?_
  show G T4 (mkF m 37 #[.val (.ref o0), .val (.ref o1), .val (.long q2), .second] [(.ref o0)])
  refine step (fun t k => XS.lloadN X4.here hx rfl (hb hby d10_37) rfl k) ?_
  show G T4 (mkF m 38 #[.val (.ref o0), .val (.ref o1), .val (.long q2), .second] [(.long q2), (.ref o0)])
  refine step (fun t k => XS.aloadN X4.here hx rfl (hb hby d10_38) rfl rfl k) ?_
  show G T4 (mkF m 39 #[.val (.ref o0), .val (.ref o1), .val (.long q2), .second] [(.ref o1), (.long q2), (.ref o0)])
  have hK8 := (backOf (R := rr_cnt_4_0_4_2) (p := p) (e := e) (below := below) (s := s) (args := #[(.ref o0), (.ref o1), (.long q2)]) (len := 3) (W := 3) (rm_mi l Z a0 hw [] w_SLIDING w_CALENDAR w_SwitchMap_co o1 mm h0 n0 (own_old_le O0) ST O0 Fwm) hZ (ww86 hw) (ww4 hw) (by decide) (by decide))
  obtain ⟨cq8, kq8, q8a, q8b, q8c⟩ := isOf hZ e4 Ew
  obtain ⟨_, _, ⟨T8, L8, k8, n8⟩, -, X8, ⟨Lc8, hQ8, l8, y8, z8⟩, st8⟩ := X4.virtualBack hx (y := y_6) (z := y_6) hown (mvT hZ (ww82 hw)) (mvT hZ (ww83 hw)) (notFace_of_selects (args := #[]) (mvT hZ (ww85 hw))) (mvT hZ (ww85 hw)) (mvT hZ (ww84 hw)) (by decide) hK8 q8a q8c (g := (mkF m 39 #[.val (.ref o0), .val (.ref o1), .val (.long q2), .second] [(.ref o1), (.long q2), (.ref o0)])) rfl (by rw [hml]; rfl) (Steps.refl _) (argsL := []) (rest := [(.long q2), (.ref o0)]) (lenOf pd_7 rfl) rfl (by show 2 * 0 + _ ≤ _; exact Nat.le_of_eq rfl) (hb hby d10_39) (fun _ _ => ⟨rfl, e4, (by decide : 0 + 0 ≤ _), (by decide : 0 + 0 ≤ _)⟩)
  dsimp only [Pt.U, Pt.locs, Pt.cells, Pt.slots] at X8 l8 y8 z8 st8 hQ8
  subst l8 y8 z8
  obtain ⟨rfl, N8q, e8⟩ := hQ8
  have N8 := Fr.app N4 N8q
  obtain ⟨lc8, X8, N8⟩ := own_gen X8 N8
  refine step (fun t k => st8.trans k) ?_
  show G T8 (mkF m 42 #[.val (.ref o0), .val (.ref o1), .val (.long q2), .second] [(.long (f_mi w_SLIDING w_CALENDAR w_SwitchMap_co o1 mm)), (.long q2), (.ref o0)])
  have r9 : (f_mi w_SLIDING w_CALENDAR w_SwitchMap_co o1 mm) = mm := rfl
  rw [r9]
  show G T8 (mkF m 42 #[.val (.ref o0), .val (.ref o1), .val (.long q2), .second] [(.long mm), (.long q2), (.ref o0)])
  refine step (fun t k => XS.lsub X8.here hx rfl (hb hby d10_42) rfl k) ?_
  show G T8 (mkF m 43 #[.val (.ref o0), .val (.ref o1), .val (.long q2), .second] [(.long (q2 - mm)), (.ref o0)])
  have hK10 := (backOf (R := rr_cnt_4_0_4_2) (p := p) (e := e) (below := below) (s := s) (args := #[(.ref o0), (.ref o1), (.long q2)]) (len := 3) (W := 0) (rm_for_4_0_4_2 l Z a0 hw [] w_SLIDING w_CALENDAR w_SwitchMap_co o0 (q2 - mm) ar ka x0 x1 x2 x3 h0 n0 (own_old_le O0) ST O0 Ex geo Ft gea Fh Fs Va (hp0 : ¬ ((q2 - mm) < x0)) (hp1 : ¬ ((q2 - mm) < x1)) (hp2 : (q2 - mm) < x2)) hZ (ww90 hw) (ww44 hw) (by decide) (by decide))
  obtain ⟨cq10, q10, q10'⟩ := (Ex).cell
  obtain ⟨_, _, ⟨T10, L10, k10, n10⟩, -, X10, ⟨Lc10, hQ10, l10, y10, z10⟩, st10⟩ := X8.privateBack hx (y := y_9) hown (mvT hZ (ww87 hw)) (mvT hZ (ww88 hw)) (own_selpriv hZ (ww89 hw) (ww88 hw) (ww43 hw) (by decide)) (Cond.privateMethod_at (mvP hZ (ww89 hw) (args := #[]))) (mvT hZ (ww90 hw)) (by decide) hK10 (g := (mkF m 43 #[.val (.ref o0), .val (.ref o1), .val (.long q2), .second] [(.long (q2 - mm)), (.ref o0)])) rfl (by rw [hml]; rfl) (Steps.refl _) (a := o0) (by rw [e8]; exact q10) q10' (argsL := [(.long (q2 - mm))]) (rest := []) (lenOf pd_4 rfl) rfl (by show 2 * 0 + _ ≤ _; exact Nat.le_of_eq rfl) (hb hby d10_43) (fun _ _ => ⟨rfl, e8, (by decide : 0 + 0 ≤ _), (by decide : 0 + 0 ≤ _)⟩)
  dsimp only [Pt.U, Pt.locs, Pt.cells, Pt.slots] at X10 l10 y10 z10 st10 hQ10
  subst l10 y10 z10
  obtain ⟨rfl, N10q, K10q, Y10_0, Y10_1, Y10_2, Y10_3⟩ := hQ10
  have N10 := Fr.app N8 N10q
  obtain ⟨lc10, X10, N10⟩ := own_gen X10 N10
  have O10 := O0.keep K10q (allS geo all0)
  have K10 : Keep h0 T10.heap [o0] := K0.trans K10q (allS (Or.inl (List.mem_of_getElem? (i := 0) rfl)) all0)
  refine step (fun t k => st10.trans k) ?_
  show G T10 (mkF m 46 #[.val (.ref o0), .val (.ref o1), .val (.long q2), .second] [])
  refine step (fun t k => XS.goto X10.here hx rfl (pc0 := 46) (pc' := 132) rfl (hb hby d10_46) (by decide) (by decide) k) ?_
  show G T10 (mkF m 132 #[.val (.ref o0), .val (.ref o1), .val (.long q2), .second] [])
  refine step (fun t k => XS.aloadN X10.here hx rfl (hb hby d10_132) rfl rfl k) ?_
  show G T10 (mkF m 133 #[.val (.ref o0), .val (.ref o1), .val (.long q2), .second] [(.ref o0)])
  obtain ⟨T11, X11, e11, st11⟩ := getF X10 hx hZ hown (host := "") (Or.inl (ww56 hw)) Via.refl rfl Y10_3 (g := (mkF m 133 #[.val (.ref o0), .val (.ref o1), .val (.long q2), .second] [(.ref o0)])) rfl rfl (hb hby d10_133)
  refine step st11 ?_
  show G T11 (mkF m 136 #[.val (.ref o0), .val (.ref o1), .val (.long q2), .second] [(.int 2)])
  exact ret (v := some (.int 2)) X11 (fun h => by rw [Bd.returns] at h; cases h) (fun fs hr => retI X11 hx Bd.returns (hb hby d10_136) hr) e11 ⟨rfl, N10, K10, Y10_0, Y10_1, Y10_2, Y10_3⟩ (by decide) (by decide)
abbrev rr_for_4_0_4_3 : Room := { frames := 0, cells := 0, slots := 0, locals := 0 }
theorem ef_for_4_0_4_3 (m : MethodId) (o0 : Addr) (q1 : Int64) : entryFrame m #[(.ref o0), (.long q1)] 3 = mkF m 0 #[.val (.ref o0), .val (.long q1), .second] [] := by first | (simp [entryFrame, mkF, argsToLocals, Value.category]; done) | rfl
def Q_for_4_0_4_3 (Z : State) (w_SLIDING : Addr) (w_CALENDAR : Addr) (w_SwitchMap_co : Addr) (o0 : Addr) (q1 : Int64) (ar : Addr) (ka : ClassId) (x0 : Int64) (x1 : Int64) (x2 : Int64) (x3 : Int64) (h0 : Heap) (n0 : Nat) (v : Option Value) (h : Heap) (L : List Loc) : Prop := v = none ∧ Fr n0 L ∧ Keep h0 h [o0] ∧ Exa Z h o0 cn_0 ∧ Fld Z h o0 cn_0 "times" "[J" (.ref ar) ∧ Fld Z h o0 cn_0 "head" "I" (.int 3) ∧ Fld Z h o0 cn_0 "size" "I" (.int 1)
set_option maxRecDepth 65536 in
set_option maxHeartbeats 40000000 in
theorem rm_for_4_0_4_3 (l : Launch) (Z : State) (a0 : Array Value) (hw : ∀ d ∈ tables_1, d.before a0 Z = true) (ws : List Jvm.Cond) (w_SLIDING : Addr) (w_CALENDAR : Addr) (w_SwitchMap_co : Addr) (o0 : Addr) (q1 : Int64) (ar : Addr) (ka : ClassId) (x0 : Int64) (x1 : Int64) (x2 : Int64) (x3 : Int64) (h0 : Heap) (n0 : Nat) (Z0 : n0 ≤ h0.size) (ST : own_St Z w_SLIDING w_CALENDAR w_SwitchMap_co) (O0 : Old Z n0 h0) (Ex : Exa Z h0 o0 cn_0) (geo : n0 ≤ o0) (Ft : Fld Z h0 o0 cn_0 "times" "[J" (.ref ar)) (gea : n0 ≤ ar) (Fh : Fld Z h0 o0 cn_0 "head" "I" (.int 0)) (Fs : Fld Z h0 o0 cn_0 "size" "I" (.int 4)) (Va : Arv Z h0 ar ka .long (4 : Int32) [(.long x0), (.long x1), (.long x2), (.long x3)] (.long 0)) (hp0 : ¬ (q1 < x0)) (hp1 : ¬ (q1 < x1)) (hp2 : ¬ (q1 < x2)) (hp3 : q1 < x3) :
    MetFree l y_9 (head1 (Jvm.Cond.code y_9 prog_2_method_5_code 3 none :: ws) rr_for_4_0_4_3) (fun a U => a = #[(.ref o0), (.long q1)] ∧ Z.Warmed39 U.vm ∧ U.heap = h0) (fun _ _ _ _ _ => True) (fun _ U o U' => ∃ v L, o = .returned v ∧ Q_for_4_0_4_3 Z w_SLIDING w_CALENDAR w_SwitchMap_co o0 q1 ar ka x0 x1 x2 x3 h0 n0 v U'.heap L ∧ FrameEnd U o U' L rr_for_4_0_4_3.cells rr_for_4_0_4_3.slots) := by
  refine MetFree.of_bodySF (plainFor_of_name pn_3) hisR ?_
  intro p e s m args below meth c s₁ Bd hml0 hP hK
  obtain ⟨rfl, hZ, hh⟩ := hP
  have hx := Bd.exec
  have hby := Bd.bytes
  have hml : c.maxLocals = 3 := hml0
  have hown : s.vm.findClass cn_0 = some m.cls := findClass_of_methodNamed Bd.named
  have hnm := (name_of_methodNamed Bd.named Bd.method).1
  have X0 : Stand p l e rr_for_4_0_4_3 s m #[(.ref o0), (.long q1)] below meth c s₁ [] 0 0 := Stand.of_body Bd
  have e0 : s₁.heap = h0 := by rw [← hh, Bd.state]; rfl
  have N0 := Fr.nil n0
  have K0 : Keep h0 h0 [o0] := Keep.refl _ _
  obtain ⟨G, step, ret, fin⟩ := own_open (p := p) (l := l) (e := e) (R := rr_for_4_0_4_3) (s := s) (m := m) (args := #[(.ref o0), (.long q1)]) (below := below) (meth := meth) (c := c) (rr_for_4_0_4_3.cells) (rr_for_4_0_4_3.slots) (Q_for_4_0_4_3 Z w_SLIDING w_CALENDAR w_SwitchMap_co o0 q1 ar ka x0 x1 x2 x3 h0 n0) Bd.notSynchronized
  refine fin (g := entryFrame m #[(.ref o0), (.long q1)] 3) ?_
  rw [ef_for_4_0_4_3 m o0 q1]
  have ne_o0_ar : o0 ≠ ar := own_ne_arv Ex (ww43 hw) Va
  show G s₁ (mkF m 0 #[.val (.ref o0), .val (.long q1), .second] [])
  refine step (fun t k => XS.aloadN X0.here hx rfl (hb hby d9_0) rfl rfl k) ?_
  show G s₁ (mkF m 1 #[.val (.ref o0), .val (.long q1), .second] [(.ref o0)])
  obtain ⟨T1, X1, e1, st1⟩ := getF X0 hx hZ hown (host := "") (Or.inl (ww56 hw)) Via.refl e0 Fs (g := (mkF m 1 #[.val (.ref o0), .val (.long q1), .second] [(.ref o0)])) rfl rfl (hb hby d9_1)
  refine step st1 ?_
  show G T1 (mkF m 4 #[.val (.ref o0), .val (.long q1), .second] [(.int 4)])
  refine step (fun t k => XS.ifNo X1.here hx rfl (hb hby d9_4) rfl ((if0 _ _).trans (tlt (by decide : (0 : Int32) < (4 : Int32))).2.2.2) k) ?_
  show G T1 (mkF m 7 #[.val (.ref o0), .val (.long q1), .second] [])
  refine step (fun t k => XS.aloadN X1.here hx rfl (hb hby d9_7) rfl rfl k) ?_
  show G T1 (mkF m 8 #[.val (.ref o0), .val (.long q1), .second] [(.ref o0)])
  obtain ⟨T2, X2, e2, st2⟩ := getF X1 hx hZ hown (host := "") (Or.inl (ww49 hw)) Via.refl e1 Ft (g := (mkF m 8 #[.val (.ref o0), .val (.long q1), .second] [(.ref o0)])) rfl rfl (hb hby d9_8)
  refine step st2 ?_
  show G T2 (mkF m 11 #[.val (.ref o0), .val (.long q1), .second] [(.ref ar)])
  refine step (fun t k => XS.aloadN X2.here hx rfl (hb hby d9_11) rfl rfl k) ?_
  show G T2 (mkF m 12 #[.val (.ref o0), .val (.long q1), .second] [(.ref o0), (.ref ar)])
  obtain ⟨T3, X3, e3, st3⟩ := getF X2 hx hZ hown (host := "") (Or.inl (ww58 hw)) Via.refl e2 Fh (g := (mkF m 12 #[.val (.ref o0), .val (.long q1), .second] [(.ref o0), (.ref ar)])) rfl rfl (hb hby d9_12)
  refine step st3 ?_
  show G T3 (mkF m 15 #[.val (.ref o0), .val (.long q1), .second] [(.int 0), (.ref ar)])
  have q4 := own_ldJ X3 hx hZ e3 Va (j := (0 : Int32)) (v := (.long x0)) (by decide) (own_at (i := 0) rfl rfl) (g := (mkF m 15 #[.val (.ref o0), .val (.long q1), .second] [(.int 0), (.ref ar)])) rfl rfl (hb hby d9_15)
  refine step q4 ?_
  show G T3 (mkF m 16 #[.val (.ref o0), .val (.long q1), .second] [(.long x0)])
  refine step (fun t k => XS.lloadN X3.here hx rfl (hb hby d9_16) rfl k) ?_
  show G T3 (mkF m 17 #[.val (.ref o0), .val (.long q1), .second] [(.long q1), (.long x0)])
  refine step (fun t k => XS.lcmp X3.here hx rfl (hb hby d9_17) rfl k) ?_
  show G T3 (mkF m 18 #[.val (.ref o0), .val (.long q1), .second] [(.int (lcmpW x0 q1))])
  refine step (fun t k => XS.ifNo X3.here hx rfl (hb hby d9_18) rfl ((if0 _ _).trans (flt (fun q => hp0 ((lw_gt _ _).mp q))).2.2.1) k) ?_
  show G T3 (mkF m 21 #[.val (.ref o0), .val (.long q1), .second] [])
  refine step (fun t k => XS.aloadN X3.here hx rfl (hb hby d9_21) rfl rfl k) ?_
  show G T3 (mkF m 22 #[.val (.ref o0), .val (.long q1), .second] [(.ref o0)])
  refine step (fun t k => XS.aloadN X3.here hx rfl (hb hby d9_22) rfl rfl k) ?_
  show G T3 (mkF m 23 #[.val (.ref o0), .val (.long q1), .second] [(.ref o0), (.ref o0)])
  obtain ⟨T5, X5, e5, st5⟩ := getF X3 hx hZ hown (host := "") (Or.inl (ww58 hw)) Via.refl e3 Fh (g := (mkF m 23 #[.val (.ref o0), .val (.long q1), .second] [(.ref o0), (.ref o0)])) rfl rfl (hb hby d9_23)
  refine step st5 ?_
  show G T5 (mkF m 26 #[.val (.ref o0), .val (.long q1), .second] [(.int 0), (.ref o0)])
  refine step (fun t k => XS.iconst X5.here hx rfl (hb hby d9_26) k) ?_
  show G T5 (mkF m 27 #[.val (.ref o0), .val (.long q1), .second] [(.int 1), (.int 0), (.ref o0)])
  refine step (fun t k => XS.iadd X5.here hx rfl (hb hby d9_27) rfl k) ?_
  show G T5 (mkF m 28 #[.val (.ref o0), .val (.long q1), .second] [(.int ((0 : Int32) + (1 : Int32))), (.ref o0)])
  rw [(by decide : ((0 : Int32) + (1 : Int32)) = (1 : Int32))]
  show G T5 (mkF m 28 #[.val (.ref o0), .val (.long q1), .second] [(.int 1), (.ref o0)])
  refine step (fun t k => XS.aloadN X5.here hx rfl (hb hby d9_28) rfl rfl k) ?_
  show G T5 (mkF m 29 #[.val (.ref o0), .val (.long q1), .second] [(.ref o0), (.int 1), (.ref o0)])
  obtain ⟨T6, X6, e6, st6⟩ := getF X5 hx hZ hown (host := "") (Or.inl (ww49 hw)) Via.refl e5 Ft (g := (mkF m 29 #[.val (.ref o0), .val (.long q1), .second] [(.ref o0), (.int 1), (.ref o0)])) rfl rfl (hb hby d9_29)
  refine step st6 ?_
  show G T6 (mkF m 32 #[.val (.ref o0), .val (.long q1), .second] [(.ref ar), (.int 1), (.ref o0)])
  have q7 := own_len X6 hx hZ e6 Va (g := (mkF m 32 #[.val (.ref o0), .val (.long q1), .second] [(.ref ar), (.int 1), (.ref o0)])) rfl rfl (hb hby d9_32)
  refine step q7 ?_
  show G T6 (mkF m 33 #[.val (.ref o0), .val (.long q1), .second] [(.int 4), (.int 1), (.ref o0)])
  refine step (fun t k => iremM X6 hx rfl (hb hby d9_33) rfl (by decide) k) ?_
  show G T6 (mkF m 34 #[.val (.ref o0), .val (.long q1), .second] [(.int ((1 : Int32) % (4 : Int32))), (.ref o0)])
  rw [(by decide : ((1 : Int32) % (4 : Int32)) = (1 : Int32))]
  show G T6 (mkF m 34 #[.val (.ref o0), .val (.long q1), .second] [(.int 1), (.ref o0)])
  obtain ⟨T8, h8, X8, e8, W8, st8⟩ := putF X6 hx hZ hown (host := "") (Or.inl (ww58 hw)) Via.refl e6 Fh Ex (Or.inl (ww59 hw)) (ww43 hw) (ty := .int) (by decide) rfl rfl (g := (mkF m 34 #[.val (.ref o0), .val (.long q1), .second] [(.int 1), (.ref o0)])) rfl rfl (hb hby d9_34)
  have F8 : Fld Z h8 o0 cn_0 "head" "I" (.int 1) := Fld.same W8 Fh
  have N8 := Fr.snoc X8 N0 geo
  obtain ⟨lc8, X8, N8⟩ := own_gen X8 N8
  have O8 := O0.wr W8 geo
  have K8 : Keep h0 h8 [o0] := K0.wr W8 (Or.inl (List.mem_of_getElem? (i := 0) rfl))
  refine step st8 ?_
  show G T8 (mkF m 37 #[.val (.ref o0), .val (.long q1), .second] [])
  refine step (fun t k => XS.aloadN X8.here hx rfl (hb hby d9_37) rfl rfl k) ?_
  show G T8 (mkF m 38 #[.val (.ref o0), .val (.long q1), .second] [(.ref o0)])
  refine step (fun t k => XS.dup X8.here hx rfl (hb hby d9_38) rfl rfl k) ?_
  show G T8 (mkF m 39 #[.val (.ref o0), .val (.long q1), .second] [(.ref o0), (.ref o0)])
  have f10 := (Fld.other W8 Fs (Or.inr (slot_ne (Or.inl (ww57 hw)) (Or.inl (ww59 hw)) (by decide) (t := .int) (t' := .int) (by decide) (by decide))))
  obtain ⟨T9, X9, e9, st9⟩ := getF X8 hx hZ hown (host := "") (Or.inl (ww56 hw)) Via.refl e8 f10 (g := (mkF m 39 #[.val (.ref o0), .val (.long q1), .second] [(.ref o0), (.ref o0)])) rfl rfl (hb hby d9_39)
  refine step st9 ?_
  show G T9 (mkF m 42 #[.val (.ref o0), .val (.long q1), .second] [(.int 4), (.ref o0)])
  refine step (fun t k => XS.iconst X9.here hx rfl (hb hby d9_42) k) ?_
  show G T9 (mkF m 43 #[.val (.ref o0), .val (.long q1), .second] [(.int 1), (.int 4), (.ref o0)])
  refine step (fun t k => XS.isub X9.here hx rfl (hb hby d9_43) rfl k) ?_
  show G T9 (mkF m 44 #[.val (.ref o0), .val (.long q1), .second] [(.int ((4 : Int32) - (1 : Int32))), (.ref o0)])
  rw [(by decide : ((4 : Int32) - (1 : Int32)) = (3 : Int32))]
  show G T9 (mkF m 44 #[.val (.ref o0), .val (.long q1), .second] [(.int 3), (.ref o0)])
  have f12 := (Exa.wr W8 Ex)
  obtain ⟨T11, h11, X11, e11, W11, st11⟩ := putF X9 hx hZ hown (host := "") (Or.inl (ww56 hw)) Via.refl e9 f10 f12 (Or.inl (ww57 hw)) (ww43 hw) (ty := .int) (by decide) rfl rfl (g := (mkF m 44 #[.val (.ref o0), .val (.long q1), .second] [(.int 3), (.ref o0)])) rfl rfl (hb hby d9_44)
  have F11 : Fld Z h11 o0 cn_0 "size" "I" (.int 3) := Fld.same W11 f10
  have N11 := Fr.snoc X11 N8 geo
  obtain ⟨lc11, X11, N11⟩ := own_gen X11 N11
  have O11 := O8.wr W11 geo
  have K11 : Keep h0 h11 [o0] := K8.wr W11 (Or.inl (List.mem_of_getElem? (i := 0) rfl))
  refine step st11 ?_
  show G T11 (mkF m 47 #[.val (.ref o0), .val (.long q1), .second] [])
  refine step (fun t k => XS.goto X11.here hx rfl (pc0 := 47) (pc' := 0) rfl (hb hby d9_47) (by decide) (by decide) k) ?_
  show G T11 (mkF m 0 #[.val (.ref o0), .val (.long q1), .second] [])
  refine step (fun t k => XS.aloadN X11.here hx rfl (hb hby d9_0) rfl rfl k) ?_
  show G T11 (mkF m 1 #[.val (.ref o0), .val (.long q1), .second] [(.ref o0)])
  obtain ⟨T13, X13, e13, st13⟩ := getF X11 hx hZ hown (host := "") (Or.inl (ww56 hw)) Via.refl e11 F11 (g := (mkF m 1 #[.val (.ref o0), .val (.long q1), .second] [(.ref o0)])) rfl rfl (hb hby d9_1)
  refine step st13 ?_
  show G T13 (mkF m 4 #[.val (.ref o0), .val (.long q1), .second] [(.int 3)])
  refine step (fun t k => XS.ifNo X13.here hx rfl (hb hby d9_4) rfl ((if0 _ _).trans (tlt (by decide : (0 : Int32) < (3 : Int32))).2.2.2) k) ?_
  show G T13 (mkF m 7 #[.val (.ref o0), .val (.long q1), .second] [])
  refine step (fun t k => XS.aloadN X13.here hx rfl (hb hby d9_7) rfl rfl k) ?_
  show G T13 (mkF m 8 #[.val (.ref o0), .val (.long q1), .second] [(.ref o0)])
  have f15 := (Fld.other W11 (Fld.other W8 Ft (Or.inr (slot_ne (Or.inl (ww50 hw)) (Or.inl (ww59 hw)) (by decide) (t := (.array .long)) (t' := .int) (by decide) (by decide)))) (Or.inr (slot_ne (Or.inl (ww50 hw)) (Or.inl (ww57 hw)) (by decide) (t := (.array .long)) (t' := .int) (by decide) (by decide))))
  obtain ⟨T14, X14, e14, st14⟩ := getF X13 hx hZ hown (host := "") (Or.inl (ww49 hw)) Via.refl e13 f15 (g := (mkF m 8 #[.val (.ref o0), .val (.long q1), .second] [(.ref o0)])) rfl rfl (hb hby d9_8)
  refine step st14 ?_
  show G T14 (mkF m 11 #[.val (.ref o0), .val (.long q1), .second] [(.ref ar)])
  refine step (fun t k => XS.aloadN X14.here hx rfl (hb hby d9_11) rfl rfl k) ?_
  show G T14 (mkF m 12 #[.val (.ref o0), .val (.long q1), .second] [(.ref o0), (.ref ar)])
  have f17 := (Fld.other W11 F8 (Or.inr (slot_ne (Or.inl (ww59 hw)) (Or.inl (ww57 hw)) (by decide) (t := .int) (t' := .int) (by decide) (by decide))))
  obtain ⟨T16, X16, e16, st16⟩ := getF X14 hx hZ hown (host := "") (Or.inl (ww58 hw)) Via.refl e14 f17 (g := (mkF m 12 #[.val (.ref o0), .val (.long q1), .second] [(.ref o0), (.ref ar)])) rfl rfl (hb hby d9_12)
  refine step st16 ?_
  show G T16 (mkF m 15 #[.val (.ref o0), .val (.long q1), .second] [(.int 1), (.ref ar)])
  have f18 := (Arv.other (Arv.other Va W8 (Ne.symm ne_o0_ar)) W11 (Ne.symm ne_o0_ar))
  have q19 := own_ldJ X16 hx hZ e16 f18 (j := (1 : Int32)) (v := (.long x1)) (by decide) (own_at (i := 1) rfl rfl) (g := (mkF m 15 #[.val (.ref o0), .val (.long q1), .second] [(.int 1), (.ref ar)])) rfl rfl (hb hby d9_15)
  refine step q19 ?_
  show G T16 (mkF m 16 #[.val (.ref o0), .val (.long q1), .second] [(.long x1)])
  refine step (fun t k => XS.lloadN X16.here hx rfl (hb hby d9_16) rfl k) ?_
  show G T16 (mkF m 17 #[.val (.ref o0), .val (.long q1), .second] [(.long q1), (.long x1)])
  refine step (fun t k => XS.lcmp X16.here hx rfl (hb hby d9_17) rfl k) ?_
  show G T16 (mkF m 18 #[.val (.ref o0), .val (.long q1), .second] [(.int (lcmpW x1 q1))])
  refine step (fun t k => XS.ifNo X16.here hx rfl (hb hby d9_18) rfl ((if0 _ _).trans (flt (fun q => hp1 ((lw_gt _ _).mp q))).2.2.1) k) ?_
  show G T16 (mkF m 21 #[.val (.ref o0), .val (.long q1), .second] [])
  refine step (fun t k => XS.aloadN X16.here hx rfl (hb hby d9_21) rfl rfl k) ?_
  show G T16 (mkF m 22 #[.val (.ref o0), .val (.long q1), .second] [(.ref o0)])
  refine step (fun t k => XS.aloadN X16.here hx rfl (hb hby d9_22) rfl rfl k) ?_
  show G T16 (mkF m 23 #[.val (.ref o0), .val (.long q1), .second] [(.ref o0), (.ref o0)])
  obtain ⟨T20, X20, e20, st20⟩ := getF X16 hx hZ hown (host := "") (Or.inl (ww58 hw)) Via.refl e16 f17 (g := (mkF m 23 #[.val (.ref o0), .val (.long q1), .second] [(.ref o0), (.ref o0)])) rfl rfl (hb hby d9_23)
  refine step st20 ?_
  show G T20 (mkF m 26 #[.val (.ref o0), .val (.long q1), .second] [(.int 1), (.ref o0)])
  refine step (fun t k => XS.iconst X20.here hx rfl (hb hby d9_26) k) ?_
  show G T20 (mkF m 27 #[.val (.ref o0), .val (.long q1), .second] [(.int 1), (.int 1), (.ref o0)])
  refine step (fun t k => XS.iadd X20.here hx rfl (hb hby d9_27) rfl k) ?_
  show G T20 (mkF m 28 #[.val (.ref o0), .val (.long q1), .second] [(.int ((1 : Int32) + (1 : Int32))), (.ref o0)])
  rw [(by decide : ((1 : Int32) + (1 : Int32)) = (2 : Int32))]
  show G T20 (mkF m 28 #[.val (.ref o0), .val (.long q1), .second] [(.int 2), (.ref o0)])
  refine step (fun t k => XS.aloadN X20.here hx rfl (hb hby d9_28) rfl rfl k) ?_
  show G T20 (mkF m 29 #[.val (.ref o0), .val (.long q1), .second] [(.ref o0), (.int 2), (.ref o0)])
  obtain ⟨T21, X21, e21, st21⟩ := getF X20 hx hZ hown (host := "") (Or.inl (ww49 hw)) Via.refl e20 f15 (g := (mkF m 29 #[.val (.ref o0), .val (.long q1), .second] [(.ref o0), (.int 2), (.ref o0)])) rfl rfl (hb hby d9_29)
  refine step st21 ?_
  show G T21 (mkF m 32 #[.val (.ref o0), .val (.long q1), .second] [(.ref ar), (.int 2), (.ref o0)])
  have q22 := own_len X21 hx hZ e21 f18 (g := (mkF m 32 #[.val (.ref o0), .val (.long q1), .second] [(.ref ar), (.int 2), (.ref o0)])) rfl rfl (hb hby d9_32)
  refine step q22 ?_
  show G T21 (mkF m 33 #[.val (.ref o0), .val (.long q1), .second] [(.int 4), (.int 2), (.ref o0)])
  refine step (fun t k => iremM X21 hx rfl (hb hby d9_33) rfl (by decide) k) ?_
  show G T21 (mkF m 34 #[.val (.ref o0), .val (.long q1), .second] [(.int ((2 : Int32) % (4 : Int32))), (.ref o0)])
  rw [(by decide : ((2 : Int32) % (4 : Int32)) = (2 : Int32))]
  show G T21 (mkF m 34 #[.val (.ref o0), .val (.long q1), .second] [(.int 2), (.ref o0)])
  have f24 := (Exa.wr W11 f12)
  obtain ⟨T23, h23, X23, e23, W23, st23⟩ := putF X21 hx hZ hown (host := "") (Or.inl (ww58 hw)) Via.refl e21 f17 f24 (Or.inl (ww59 hw)) (ww43 hw) (ty := .int) (by decide) rfl rfl (g := (mkF m 34 #[.val (.ref o0), .val (.long q1), .second] [(.int 2), (.ref o0)])) rfl rfl (hb hby d9_34)
  have F23 : Fld Z h23 o0 cn_0 "head" "I" (.int 2) := Fld.same W23 f17
  have N23 := Fr.snoc X23 N11 geo
  obtain ⟨lc23, X23, N23⟩ := own_gen X23 N23
  have O23 := O11.wr W23 geo
  have K23 : Keep h0 h23 [o0] := K11.wr W23 (Or.inl (List.mem_of_getElem? (i := 0) rfl))
  refine step st23 ?_
  show G T23 (mkF m 37 #[.val (.ref o0), .val (.long q1), .second] [])
  refine step (fun t k => XS.aloadN X23.here hx rfl (hb hby d9_37) rfl rfl k) ?_
  show G T23 (mkF m 38 #[.val (.ref o0), .val (.long q1), .second] [(.ref o0)])
  refine step (fun t k => XS.dup X23.here hx rfl (hb hby d9_38) rfl rfl k) ?_
  show G T23 (mkF m 39 #[.val (.ref o0), .val (.long q1), .second] [(.ref o0), (.ref o0)])
  have f26 := (Fld.other W23 F11 (Or.inr (slot_ne (Or.inl (ww57 hw)) (Or.inl (ww59 hw)) (by decide) (t := .int) (t' := .int) (by decide) (by decide))))
  obtain ⟨T25, X25, e25, st25⟩ := getF X23 hx hZ hown (host := "") (Or.inl (ww56 hw)) Via.refl e23 f26 (g := (mkF m 39 #[.val (.ref o0), .val (.long q1), .second] [(.ref o0), (.ref o0)])) rfl rfl (hb hby d9_39)
  refine step st25 ?_
  show G T25 (mkF m 42 #[.val (.ref o0), .val (.long q1), .second] [(.int 3), (.ref o0)])
  refine step (fun t k => XS.iconst X25.here hx rfl (hb hby d9_42) k) ?_
  show G T25 (mkF m 43 #[.val (.ref o0), .val (.long q1), .second] [(.int 1), (.int 3), (.ref o0)])
  refine step (fun t k => XS.isub X25.here hx rfl (hb hby d9_43) rfl k) ?_
  show G T25 (mkF m 44 #[.val (.ref o0), .val (.long q1), .second] [(.int ((3 : Int32) - (1 : Int32))), (.ref o0)])
  rw [(by decide : ((3 : Int32) - (1 : Int32)) = (2 : Int32))]
  show G T25 (mkF m 44 #[.val (.ref o0), .val (.long q1), .second] [(.int 2), (.ref o0)])
  have f28 := (Exa.wr W23 f24)
  obtain ⟨T27, h27, X27, e27, W27, st27⟩ := putF X25 hx hZ hown (host := "") (Or.inl (ww56 hw)) Via.refl e25 f26 f28 (Or.inl (ww57 hw)) (ww43 hw) (ty := .int) (by decide) rfl rfl (g := (mkF m 44 #[.val (.ref o0), .val (.long q1), .second] [(.int 2), (.ref o0)])) rfl rfl (hb hby d9_44)
  have F27 : Fld Z h27 o0 cn_0 "size" "I" (.int 2) := Fld.same W27 f26
  have N27 := Fr.snoc X27 N23 geo
  obtain ⟨lc27, X27, N27⟩ := own_gen X27 N27
  have O27 := O23.wr W27 geo
  have K27 : Keep h0 h27 [o0] := K23.wr W27 (Or.inl (List.mem_of_getElem? (i := 0) rfl))
  refine step st27 ?_
  show G T27 (mkF m 47 #[.val (.ref o0), .val (.long q1), .second] [])
  refine step (fun t k => XS.goto X27.here hx rfl (pc0 := 47) (pc' := 0) rfl (hb hby d9_47) (by decide) (by decide) k) ?_
  show G T27 (mkF m 0 #[.val (.ref o0), .val (.long q1), .second] [])
  refine step (fun t k => XS.aloadN X27.here hx rfl (hb hby d9_0) rfl rfl k) ?_
  show G T27 (mkF m 1 #[.val (.ref o0), .val (.long q1), .second] [(.ref o0)])
  obtain ⟨T29, X29, e29, st29⟩ := getF X27 hx hZ hown (host := "") (Or.inl (ww56 hw)) Via.refl e27 F27 (g := (mkF m 1 #[.val (.ref o0), .val (.long q1), .second] [(.ref o0)])) rfl rfl (hb hby d9_1)
  refine step st29 ?_
  show G T29 (mkF m 4 #[.val (.ref o0), .val (.long q1), .second] [(.int 2)])
  refine step (fun t k => XS.ifNo X29.here hx rfl (hb hby d9_4) rfl ((if0 _ _).trans (tlt (by decide : (0 : Int32) < (2 : Int32))).2.2.2) k) ?_
  show G T29 (mkF m 7 #[.val (.ref o0), .val (.long q1), .second] [])
  refine step (fun t k => XS.aloadN X29.here hx rfl (hb hby d9_7) rfl rfl k) ?_
  show G T29 (mkF m 8 #[.val (.ref o0), .val (.long q1), .second] [(.ref o0)])
  have f31 := (Fld.other W27 (Fld.other W23 f15 (Or.inr (slot_ne (Or.inl (ww50 hw)) (Or.inl (ww59 hw)) (by decide) (t := (.array .long)) (t' := .int) (by decide) (by decide)))) (Or.inr (slot_ne (Or.inl (ww50 hw)) (Or.inl (ww57 hw)) (by decide) (t := (.array .long)) (t' := .int) (by decide) (by decide))))
  obtain ⟨T30, X30, e30, st30⟩ := getF X29 hx hZ hown (host := "") (Or.inl (ww49 hw)) Via.refl e29 f31 (g := (mkF m 8 #[.val (.ref o0), .val (.long q1), .second] [(.ref o0)])) rfl rfl (hb hby d9_8)
  refine step st30 ?_
  show G T30 (mkF m 11 #[.val (.ref o0), .val (.long q1), .second] [(.ref ar)])
  refine step (fun t k => XS.aloadN X30.here hx rfl (hb hby d9_11) rfl rfl k) ?_
  show G T30 (mkF m 12 #[.val (.ref o0), .val (.long q1), .second] [(.ref o0), (.ref ar)])
  have f33 := (Fld.other W27 F23 (Or.inr (slot_ne (Or.inl (ww59 hw)) (Or.inl (ww57 hw)) (by decide) (t := .int) (t' := .int) (by decide) (by decide))))
  obtain ⟨T32, X32, e32, st32⟩ := getF X30 hx hZ hown (host := "") (Or.inl (ww58 hw)) Via.refl e30 f33 (g := (mkF m 12 #[.val (.ref o0), .val (.long q1), .second] [(.ref o0), (.ref ar)])) rfl rfl (hb hby d9_12)
  refine step st32 ?_
  show G T32 (mkF m 15 #[.val (.ref o0), .val (.long q1), .second] [(.int 2), (.ref ar)])
  have f34 := (Arv.other (Arv.other f18 W23 (Ne.symm ne_o0_ar)) W27 (Ne.symm ne_o0_ar))
  have q35 := own_ldJ X32 hx hZ e32 f34 (j := (2 : Int32)) (v := (.long x2)) (by decide) (own_at (i := 2) rfl rfl) (g := (mkF m 15 #[.val (.ref o0), .val (.long q1), .second] [(.int 2), (.ref ar)])) rfl rfl (hb hby d9_15)
  refine step q35 ?_
  show G T32 (mkF m 16 #[.val (.ref o0), .val (.long q1), .second] [(.long x2)])
  refine step (fun t k => XS.lloadN X32.here hx rfl (hb hby d9_16) rfl k) ?_
  show G T32 (mkF m 17 #[.val (.ref o0), .val (.long q1), .second] [(.long q1), (.long x2)])
  refine step (fun t k => XS.lcmp X32.here hx rfl (hb hby d9_17) rfl k) ?_
  show G T32 (mkF m 18 #[.val (.ref o0), .val (.long q1), .second] [(.int (lcmpW x2 q1))])
  refine step (fun t k => XS.ifNo X32.here hx rfl (hb hby d9_18) rfl ((if0 _ _).trans (flt (fun q => hp2 ((lw_gt _ _).mp q))).2.2.1) k) ?_
  show G T32 (mkF m 21 #[.val (.ref o0), .val (.long q1), .second] [])
  refine step (fun t k => XS.aloadN X32.here hx rfl (hb hby d9_21) rfl rfl k) ?_
  show G T32 (mkF m 22 #[.val (.ref o0), .val (.long q1), .second] [(.ref o0)])
  refine step (fun t k => XS.aloadN X32.here hx rfl (hb hby d9_22) rfl rfl k) ?_
  show G T32 (mkF m 23 #[.val (.ref o0), .val (.long q1), .second] [(.ref o0), (.ref o0)])
  obtain ⟨T36, X36, e36, st36⟩ := getF X32 hx hZ hown (host := "") (Or.inl (ww58 hw)) Via.refl e32 f33 (g := (mkF m 23 #[.val (.ref o0), .val (.long q1), .second] [(.ref o0), (.ref o0)])) rfl rfl (hb hby d9_23)
  refine step st36 ?_
  show G T36 (mkF m 26 #[.val (.ref o0), .val (.long q1), .second] [(.int 2), (.ref o0)])
  refine step (fun t k => XS.iconst X36.here hx rfl (hb hby d9_26) k) ?_
  show G T36 (mkF m 27 #[.val (.ref o0), .val (.long q1), .second] [(.int 1), (.int 2), (.ref o0)])
  refine step (fun t k => XS.iadd X36.here hx rfl (hb hby d9_27) rfl k) ?_
  show G T36 (mkF m 28 #[.val (.ref o0), .val (.long q1), .second] [(.int ((2 : Int32) + (1 : Int32))), (.ref o0)])
  rw [(by decide : ((2 : Int32) + (1 : Int32)) = (3 : Int32))]
  show G T36 (mkF m 28 #[.val (.ref o0), .val (.long q1), .second] [(.int 3), (.ref o0)])
  refine step (fun t k => XS.aloadN X36.here hx rfl (hb hby d9_28) rfl rfl k) ?_
  show G T36 (mkF m 29 #[.val (.ref o0), .val (.long q1), .second] [(.ref o0), (.int 3), (.ref o0)])
  obtain ⟨T37, X37, e37, st37⟩ := getF X36 hx hZ hown (host := "") (Or.inl (ww49 hw)) Via.refl e36 f31 (g := (mkF m 29 #[.val (.ref o0), .val (.long q1), .second] [(.ref o0), (.int 3), (.ref o0)])) rfl rfl (hb hby d9_29)
  refine step st37 ?_
  show G T37 (mkF m 32 #[.val (.ref o0), .val (.long q1), .second] [(.ref ar), (.int 3), (.ref o0)])
  have q38 := own_len X37 hx hZ e37 f34 (g := (mkF m 32 #[.val (.ref o0), .val (.long q1), .second] [(.ref ar), (.int 3), (.ref o0)])) rfl rfl (hb hby d9_32)
  refine step q38 ?_
  show G T37 (mkF m 33 #[.val (.ref o0), .val (.long q1), .second] [(.int 4), (.int 3), (.ref o0)])
  refine step (fun t k => iremM X37 hx rfl (hb hby d9_33) rfl (by decide) k) ?_
  show G T37 (mkF m 34 #[.val (.ref o0), .val (.long q1), .second] [(.int ((3 : Int32) % (4 : Int32))), (.ref o0)])
  rw [(by decide : ((3 : Int32) % (4 : Int32)) = (3 : Int32))]
  show G T37 (mkF m 34 #[.val (.ref o0), .val (.long q1), .second] [(.int 3), (.ref o0)])
  have f40 := (Exa.wr W27 f28)
  obtain ⟨T39, h39, X39, e39, W39, st39⟩ := putF X37 hx hZ hown (host := "") (Or.inl (ww58 hw)) Via.refl e37 f33 f40 (Or.inl (ww59 hw)) (ww43 hw) (ty := .int) (by decide) rfl rfl (g := (mkF m 34 #[.val (.ref o0), .val (.long q1), .second] [(.int 3), (.ref o0)])) rfl rfl (hb hby d9_34)
  have F39 : Fld Z h39 o0 cn_0 "head" "I" (.int 3) := Fld.same W39 f33
  have N39 := Fr.snoc X39 N27 geo
  obtain ⟨lc39, X39, N39⟩ := own_gen X39 N39
  have O39 := O27.wr W39 geo
  have K39 : Keep h0 h39 [o0] := K27.wr W39 (Or.inl (List.mem_of_getElem? (i := 0) rfl))
  refine step st39 ?_
  show G T39 (mkF m 37 #[.val (.ref o0), .val (.long q1), .second] [])
  refine step (fun t k => XS.aloadN X39.here hx rfl (hb hby d9_37) rfl rfl k) ?_
  show G T39 (mkF m 38 #[.val (.ref o0), .val (.long q1), .second] [(.ref o0)])
  refine step (fun t k => XS.dup X39.here hx rfl (hb hby d9_38) rfl rfl k) ?_
  show G T39 (mkF m 39 #[.val (.ref o0), .val (.long q1), .second] [(.ref o0), (.ref o0)])
  have f42 := (Fld.other W39 F27 (Or.inr (slot_ne (Or.inl (ww57 hw)) (Or.inl (ww59 hw)) (by decide) (t := .int) (t' := .int) (by decide) (by decide))))
  obtain ⟨T41, X41, e41, st41⟩ := getF X39 hx hZ hown (host := "") (Or.inl (ww56 hw)) Via.refl e39 f42 (g := (mkF m 39 #[.val (.ref o0), .val (.long q1), .second] [(.ref o0), (.ref o0)])) rfl rfl (hb hby d9_39)
  refine step st41 ?_
  show G T41 (mkF m 42 #[.val (.ref o0), .val (.long q1), .second] [(.int 2), (.ref o0)])
  refine step (fun t k => XS.iconst X41.here hx rfl (hb hby d9_42) k) ?_
  show G T41 (mkF m 43 #[.val (.ref o0), .val (.long q1), .second] [(.int 1), (.int 2), (.ref o0)])
  refine step (fun t k => XS.isub X41.here hx rfl (hb hby d9_43) rfl k) ?_
  show G T41 (mkF m 44 #[.val (.ref o0), .val (.long q1), .second] [(.int ((2 : Int32) - (1 : Int32))), (.ref o0)])
  rw [(by decide : ((2 : Int32) - (1 : Int32)) = (1 : Int32))]
  show G T41 (mkF m 44 #[.val (.ref o0), .val (.long q1), .second] [(.int 1), (.ref o0)])
  have f44 := (Exa.wr W39 f40)
  obtain ⟨T43, h43, X43, e43, W43, st43⟩ := putF X41 hx hZ hown (host := "") (Or.inl (ww56 hw)) Via.refl e41 f42 f44 (Or.inl (ww57 hw)) (ww43 hw) (ty := .int) (by decide) rfl rfl (g := (mkF m 44 #[.val (.ref o0), .val (.long q1), .second] [(.int 1), (.ref o0)])) rfl rfl (hb hby d9_44)
  have F43 : Fld Z h43 o0 cn_0 "size" "I" (.int 1) := Fld.same W43 f42
  have N43 := Fr.snoc X43 N39 geo
  obtain ⟨lc43, X43, N43⟩ := own_gen X43 N43
  have O43 := O39.wr W43 geo
  have K43 : Keep h0 h43 [o0] := K39.wr W43 (Or.inl (List.mem_of_getElem? (i := 0) rfl))
  refine step st43 ?_
  show G T43 (mkF m 47 #[.val (.ref o0), .val (.long q1), .second] [])
  refine step (fun t k => XS.goto X43.here hx rfl (pc0 := 47) (pc' := 0) rfl (hb hby d9_47) (by decide) (by decide) k) ?_
  show G T43 (mkF m 0 #[.val (.ref o0), .val (.long q1), .second] [])
  refine step (fun t k => XS.aloadN X43.here hx rfl (hb hby d9_0) rfl rfl k) ?_
  show G T43 (mkF m 1 #[.val (.ref o0), .val (.long q1), .second] [(.ref o0)])
  obtain ⟨T45, X45, e45, st45⟩ := getF X43 hx hZ hown (host := "") (Or.inl (ww56 hw)) Via.refl e43 F43 (g := (mkF m 1 #[.val (.ref o0), .val (.long q1), .second] [(.ref o0)])) rfl rfl (hb hby d9_1)
  refine step st45 ?_
  show G T45 (mkF m 4 #[.val (.ref o0), .val (.long q1), .second] [(.int 1)])
  refine step (fun t k => XS.ifNo X45.here hx rfl (hb hby d9_4) rfl ((if0 _ _).trans (tlt (by decide : (0 : Int32) < (1 : Int32))).2.2.2) k) ?_
  show G T45 (mkF m 7 #[.val (.ref o0), .val (.long q1), .second] [])
  refine step (fun t k => XS.aloadN X45.here hx rfl (hb hby d9_7) rfl rfl k) ?_
  show G T45 (mkF m 8 #[.val (.ref o0), .val (.long q1), .second] [(.ref o0)])
  have f47 := (Fld.other W43 (Fld.other W39 f31 (Or.inr (slot_ne (Or.inl (ww50 hw)) (Or.inl (ww59 hw)) (by decide) (t := (.array .long)) (t' := .int) (by decide) (by decide)))) (Or.inr (slot_ne (Or.inl (ww50 hw)) (Or.inl (ww57 hw)) (by decide) (t := (.array .long)) (t' := .int) (by decide) (by decide))))
  obtain ⟨T46, X46, e46, st46⟩ := getF X45 hx hZ hown (host := "") (Or.inl (ww49 hw)) Via.refl e45 f47 (g := (mkF m 8 #[.val (.ref o0), .val (.long q1), .second] [(.ref o0)])) rfl rfl (hb hby d9_8)
  refine step st46 ?_
  show G T46 (mkF m 11 #[.val (.ref o0), .val (.long q1), .second] [(.ref ar)])
  refine step (fun t k => XS.aloadN X46.here hx rfl (hb hby d9_11) rfl rfl k) ?_
  show G T46 (mkF m 12 #[.val (.ref o0), .val (.long q1), .second] [(.ref o0), (.ref ar)])
  have f49 := (Fld.other W43 F39 (Or.inr (slot_ne (Or.inl (ww59 hw)) (Or.inl (ww57 hw)) (by decide) (t := .int) (t' := .int) (by decide) (by decide))))
  obtain ⟨T48, X48, e48, st48⟩ := getF X46 hx hZ hown (host := "") (Or.inl (ww58 hw)) Via.refl e46 f49 (g := (mkF m 12 #[.val (.ref o0), .val (.long q1), .second] [(.ref o0), (.ref ar)])) rfl rfl (hb hby d9_12)
  refine step st48 ?_
  show G T48 (mkF m 15 #[.val (.ref o0), .val (.long q1), .second] [(.int 3), (.ref ar)])
  have f50 := (Arv.other (Arv.other f34 W39 (Ne.symm ne_o0_ar)) W43 (Ne.symm ne_o0_ar))
  have q51 := own_ldJ X48 hx hZ e48 f50 (j := (3 : Int32)) (v := (.long x3)) (by decide) (own_at (i := 3) rfl rfl) (g := (mkF m 15 #[.val (.ref o0), .val (.long q1), .second] [(.int 3), (.ref ar)])) rfl rfl (hb hby d9_15)
  refine step q51 ?_
  show G T48 (mkF m 16 #[.val (.ref o0), .val (.long q1), .second] [(.long x3)])
  refine step (fun t k => XS.lloadN X48.here hx rfl (hb hby d9_16) rfl k) ?_
  show G T48 (mkF m 17 #[.val (.ref o0), .val (.long q1), .second] [(.long q1), (.long x3)])
  refine step (fun t k => XS.lcmp X48.here hx rfl (hb hby d9_17) rfl k) ?_
  show G T48 (mkF m 18 #[.val (.ref o0), .val (.long q1), .second] [(.int (lcmpW x3 q1))])
  refine step (fun t k => XS.ifYes X48.here hx rfl (pc0 := 18) (pc' := 50) rfl (hb hby d9_18) rfl ((if0 _ _).trans (tlt ((lw_gt _ _).mpr hp3)).2.2.1) (by decide) (by decide) k) ?_
  show G T48 (mkF m 50 #[.val (.ref o0), .val (.long q1), .second] [])
  have f52 := (Exa.wr W43 f44)
  exact ret (v := none) X48 (fun _ => rfl) (fun fs hr => X48.returnOut hx Bd.returns (hb hby d9_50) hr) e48 ⟨rfl, N43, K43, f52, f47, f49, F43⟩ (by decide) (by decide)
abbrev rr_cnt_4_0_4_3 : Room := { frames := 1, cells := 0, slots := 0, locals := 15 }
theorem ef_cnt_4_0_4_3 (m : MethodId) (o0 : Addr) (o1 : Addr) (q2 : Int64) : entryFrame m #[(.ref o0), (.ref o1), (.long q2)] 4 = mkF m 0 #[.val (.ref o0), .val (.ref o1), .val (.long q2), .second] [] := by first | (simp [entryFrame, mkF, argsToLocals, Value.category]; done) | rfl
def Q_cnt_4_0_4_3 (Z : State) (w_SLIDING : Addr) (w_CALENDAR : Addr) (w_SwitchMap_co : Addr) (o0 : Addr) (o1 : Addr) (q2 : Int64) (ar : Addr) (ka : ClassId) (x0 : Int64) (x1 : Int64) (x2 : Int64) (x3 : Int64) (mm : Int64) (h0 : Heap) (n0 : Nat) (v : Option Value) (h : Heap) (L : List Loc) : Prop := v = some (.int 1) ∧ Fr n0 L ∧ Keep h0 h [o0] ∧ Exa Z h o0 cn_0 ∧ Fld Z h o0 cn_0 "times" "[J" (.ref ar) ∧ Fld Z h o0 cn_0 "head" "I" (.int 3) ∧ Fld Z h o0 cn_0 "size" "I" (.int 1)
set_option maxRecDepth 65536 in
set_option maxHeartbeats 40000000 in
theorem rm_cnt_4_0_4_3 (l : Launch) (Z : State) (a0 : Array Value) (hw : ∀ d ∈ tables_1, d.before a0 Z = true) (ws : List Jvm.Cond) (w_SLIDING : Addr) (w_CALENDAR : Addr) (w_SwitchMap_co : Addr) (o0 : Addr) (o1 : Addr) (q2 : Int64) (ar : Addr) (ka : ClassId) (x0 : Int64) (x1 : Int64) (x2 : Int64) (x3 : Int64) (mm : Int64) (h0 : Heap) (n0 : Nat) (Z0 : n0 ≤ h0.size) (ST : own_St Z w_SLIDING w_CALENDAR w_SwitchMap_co) (O0 : Old Z n0 h0) (Ex : Exa Z h0 o0 cn_0) (geo : n0 ≤ o0) (Ft : Fld Z h0 o0 cn_0 "times" "[J" (.ref ar)) (gea : n0 ≤ ar) (Fh : Fld Z h0 o0 cn_0 "head" "I" (.int 0)) (Fs : Fld Z h0 o0 cn_0 "size" "I" (.int 4)) (Va : Arv Z h0 ar ka .long (4 : Int32) [(.long x0), (.long x1), (.long x2), (.long x3)] (.long 0)) (Ew : Exa Z h0 o1 cn_1) (Fwt : Fld Z h0 o1 cn_1 "type" cn_3 (.ref w_SLIDING)) (Fwm : Fld Z h0 o1 cn_1 "millis" "J" (.long mm)) (hp0 : ¬ ((q2 - mm) < x0)) (hp1 : ¬ ((q2 - mm) < x1)) (hp2 : ¬ ((q2 - mm) < x2)) (hp3 : (q2 - mm) < x3) :
    MetFree l y_11 (head1 (Jvm.Cond.code y_11 prog_2_method_2_code 4 (some .int) :: ws) rr_cnt_4_0_4_3) (fun a U => a = #[(.ref o0), (.ref o1), (.long q2)] ∧ Z.Warmed39 U.vm ∧ U.heap = h0) (fun _ _ _ _ _ => True) (fun _ U o U' => ∃ v L, o = .returned v ∧ Q_cnt_4_0_4_3 Z w_SLIDING w_CALENDAR w_SwitchMap_co o0 o1 q2 ar ka x0 x1 x2 x3 mm h0 n0 v U'.heap L ∧ FrameEnd U o U' L rr_cnt_4_0_4_3.cells rr_cnt_4_0_4_3.slots) := by
  refine MetFree.of_bodySF (plainFor_of_name pn_3) hisR ?_
  intro p e s m args below meth c s₁ Bd hml0 hP hK
  obtain ⟨rfl, hZ, hh⟩ := hP
  have hx := Bd.exec
  have hby := Bd.bytes
  have hml : c.maxLocals = 4 := hml0
  have hown : s.vm.findClass cn_0 = some m.cls := findClass_of_methodNamed Bd.named
  have hnm := (name_of_methodNamed Bd.named Bd.method).1
  have X0 : Stand p l e rr_cnt_4_0_4_3 s m #[(.ref o0), (.ref o1), (.long q2)] below meth c s₁ [] 0 0 := Stand.of_body Bd
  have e0 : s₁.heap = h0 := by rw [← hh, Bd.state]; rfl
  have N0 := Fr.nil n0
  have K0 : Keep h0 h0 [o0] := Keep.refl _ _
  obtain ⟨G, step, ret, fin⟩ := own_open (p := p) (l := l) (e := e) (R := rr_cnt_4_0_4_3) (s := s) (m := m) (args := #[(.ref o0), (.ref o1), (.long q2)]) (below := below) (meth := meth) (c := c) (rr_cnt_4_0_4_3.cells) (rr_cnt_4_0_4_3.slots) (Q_cnt_4_0_4_3 Z w_SLIDING w_CALENDAR w_SwitchMap_co o0 o1 q2 ar ka x0 x1 x2 x3 mm h0 n0) Bd.notSynchronized
  refine fin (g := entryFrame m #[(.ref o0), (.ref o1), (.long q2)] 4) ?_
  rw [ef_cnt_4_0_4_3 m o0 o1 q2]
  have ne_o0_o1 : o0 ≠ o1 := ne_exa Ex Ew (by decide)
  have ne_o0_ar : o0 ≠ ar := own_ne_arv Ex (ww43 hw) Va
  have ne_o1_ar : o1 ≠ ar := own_ne_arv Ew (ww7 hw) Va
  show G s₁ (mkF m 0 #[.val (.ref o0), .val (.ref o1), .val (.long q2), .second] [])
  obtain ⟨T1, X1, e1, st1⟩ := getS2 X0 hx hZ hown (host := "") (Or.inl (ww65 hw)) Via.refl e0 (Sta.ext O0.2 ST.k6) (g := (mkF m 0 #[.val (.ref o0), .val (.ref o1), .val (.long q2), .second] [])) rfl (hb hby d10_0)
  refine step st1 ?_
  show G T1 (mkF m 3 #[.val (.ref o0), .val (.ref o1), .val (.long q2), .second] [(.ref w_SwitchMap_co)])
  refine step (fun t k => XS.aloadN X1.here hx rfl (hb hby d10_3) rfl rfl k) ?_
  show G T1 (mkF m 4 #[.val (.ref o0), .val (.ref o1), .val (.long q2), .second] [(.ref o1), (.ref w_SwitchMap_co)])
  have hK2 := (backOf (R := rr_cnt_4_0_4_3) (p := p) (e := e) (below := below) (s := s) (args := #[(.ref o0), (.ref o1), (.long q2)]) (len := 3) (W := 1) (rm_ty l Z a0 hw [] w_SLIDING w_CALENDAR w_SwitchMap_co o1 w_SLIDING h0 n0 (own_old_le O0) ST O0 Fwt) hZ (ww72 hw) (ww4 hw) (by decide) (by decide))
  obtain ⟨cq2, kq2, q2a, q2b, q2c⟩ := isOf hZ e1 Ew
  obtain ⟨_, _, ⟨T2, L2, k2, n2⟩, -, X2, ⟨Lc2, hQ2, l2, y2, z2⟩, st2⟩ := X1.virtualBack hx (y := y_5) (z := y_5) hown (mvT hZ (ww68 hw)) (mvT hZ (ww69 hw)) (notFace_of_selects (args := #[]) (mvT hZ (ww71 hw))) (mvT hZ (ww71 hw)) (mvT hZ (ww70 hw)) (by decide) hK2 q2a q2c (g := (mkF m 4 #[.val (.ref o0), .val (.ref o1), .val (.long q2), .second] [(.ref o1), (.ref w_SwitchMap_co)])) rfl (by rw [hml]; rfl) (Steps.refl _) (argsL := []) (rest := [(.ref w_SwitchMap_co)]) (lenOf pd_5 rfl) rfl (by show 2 * 0 + _ ≤ _; exact Nat.le_of_eq rfl) (hb hby d10_4) (fun _ _ => ⟨rfl, e1, (by decide : 0 + 0 ≤ _), (by decide : 0 + 0 ≤ _)⟩)
  dsimp only [Pt.U, Pt.locs, Pt.cells, Pt.slots] at X2 l2 y2 z2 st2 hQ2
  subst l2 y2 z2
  obtain ⟨rfl, N2q, e2⟩ := hQ2
  have N2 := Fr.app N0 N2q
  obtain ⟨lc2, X2, N2⟩ := own_gen X2 N2
  refine step (fun t k => st2.trans k) ?_
  show G T2 (mkF m 7 #[.val (.ref o0), .val (.ref o1), .val (.long q2), .second] [(.ref (f_ty w_SLIDING w_CALENDAR w_SwitchMap_co o1 w_SLIDING)), (.ref w_SwitchMap_co)])
  have r3 : (f_ty w_SLIDING w_CALENDAR w_SwitchMap_co o1 w_SLIDING) = w_SLIDING := rfl
  rw [r3]
  show G T2 (mkF m 7 #[.val (.ref o0), .val (.ref o1), .val (.long q2), .second] [(.ref w_SLIDING), (.ref w_SwitchMap_co)])
  have hK4 := (backOf (R := rr_cnt_4_0_4_3) (p := p) (e := e) (below := below) (s := s) (args := #[(.ref o0), (.ref o1), (.long q2)]) (len := 3) (W := 1) (rm_od l Z a0 hw [] w_SLIDING w_CALENDAR w_SwitchMap_co w_SLIDING (0 : Int32) h0 n0 (own_old_le O0) ST O0 (Fld.ext O0.2 ST.k4)) hZ (ww79 hw) (ww78 hw) (by decide) (by decide))
  obtain ⟨cq4, kq4, q4a, q4b, q4c⟩ := isOf hZ e2 (Exa.ext O0.2 ST.k1)
  obtain ⟨_, _, ⟨T4, L4, k4, n4⟩, -, X4, ⟨Lc4, hQ4, l4, y4, z4⟩, st4⟩ := X2.virtualBackUp hx (x := y_10) (y := y_7) (owner := cn_7) hown (mvT hZ (ww73 hw)) (mvT hZ (ww74 hw)) (mvT hZ (ww75 hw)) (by decide) (mvT hZ (ww77 hw)) (mvT hZ (ww76 hw)) hK4 q4a q4c (g := (mkF m 7 #[.val (.ref o0), .val (.ref o1), .val (.long q2), .second] [(.ref w_SLIDING), (.ref w_SwitchMap_co)])) rfl (by rw [hml]; rfl) (Steps.refl _) (argsL := []) (rest := [(.ref w_SwitchMap_co)]) (lenOf pd_6 rfl) rfl (by show 2 * 0 + _ ≤ _; exact Nat.le_of_eq rfl) (hb hby d10_7) (fun _ _ => ⟨rfl, e2, (by decide : 0 + 0 ≤ _), (by decide : 0 + 0 ≤ _)⟩)
  dsimp only [Pt.U, Pt.locs, Pt.cells, Pt.slots] at X4 l4 y4 z4 st4 hQ4
  subst l4 y4 z4
  obtain ⟨rfl, N4q, e4⟩ := hQ4
  have N4 := Fr.app N2 N4q
  obtain ⟨lc4, X4, N4⟩ := own_gen X4 N4
  refine step (fun t k => st4.trans k) ?_
  show G T4 (mkF m 10 #[.val (.ref o0), .val (.ref o1), .val (.long q2), .second] [(.int (f_od w_SLIDING w_CALENDAR w_SwitchMap_co w_SLIDING (0 : Int32))), (.ref w_SwitchMap_co)])
  have r5 : (f_od w_SLIDING w_CALENDAR w_SwitchMap_co w_SLIDING (0 : Int32)) = (0 : Int32) := rfl
  rw [r5]
  show G T4 (mkF m 10 #[.val (.ref o0), .val (.ref o1), .val (.long q2), .second] [(.int 0), (.ref w_SwitchMap_co)])
  obtain ⟨kw6, Vw6⟩ := ST.k7
  have q7 := own_ldI X4 hx hZ e4 (Arv.ext Vw6 O0.2) (j := (0 : Int32)) (v := (.int 1)) (by decide) (own_at (i := 0) rfl rfl) (g := (mkF m 10 #[.val (.ref o0), .val (.ref o1), .val (.long q2), .second] [(.int 0), (.ref w_SwitchMap_co)])) rfl rfl (hb hby d10_10)
  refine step q7 ?_
  show G T4 (mkF m 11 #[.val (.ref o0), .val (.ref o1), .val (.long q2), .second] [(.int 1)])
  refine step (fun t k => XS.tswIn X4.here hx rfl (pc0 := 11) (pc' := 36) rfl (hb hby d10_11) rfl (by decide) rfl (by decide) (by decide) k) ?_
  show G T4 (mkF m 36 #[.val (.ref o0), .val (.ref o1), .val (.long q2), .second] [])
  refine step (fun t k => XS.aloadN X4.here hx rfl (hb hby d10_36) rfl rfl k) ?_
  show G T4 (mkF m 37 #[.val (.ref o0), .val (.ref o1), .val (.long q2), .second] [(.ref o0)])
  refine step (fun t k => XS.lloadN X4.here hx rfl (hb hby d10_37) rfl k) ?_
  show G T4 (mkF m 38 #[.val (.ref o0), .val (.ref o1), .val (.long q2), .second] [(.long q2), (.ref o0)])
  refine step (fun t k => XS.aloadN X4.here hx rfl (hb hby d10_38) rfl rfl k) ?_
  show G T4 (mkF m 39 #[.val (.ref o0), .val (.ref o1), .val (.long q2), .second] [(.ref o1), (.long q2), (.ref o0)])
  have hK8 := (backOf (R := rr_cnt_4_0_4_3) (p := p) (e := e) (below := below) (s := s) (args := #[(.ref o0), (.ref o1), (.long q2)]) (len := 3) (W := 3) (rm_mi l Z a0 hw [] w_SLIDING w_CALENDAR w_SwitchMap_co o1 mm h0 n0 (own_old_le O0) ST O0 Fwm) hZ (ww86 hw) (ww4 hw) (by decide) (by decide))
  obtain ⟨cq8, kq8, q8a, q8b, q8c⟩ := isOf hZ e4 Ew
  obtain ⟨_, _, ⟨T8, L8, k8, n8⟩, -, X8, ⟨Lc8, hQ8, l8, y8, z8⟩, st8⟩ := X4.virtualBack hx (y := y_6) (z := y_6) hown (mvT hZ (ww82 hw)) (mvT hZ (ww83 hw)) (notFace_of_selects (args := #[]) (mvT hZ (ww85 hw))) (mvT hZ (ww85 hw)) (mvT hZ (ww84 hw)) (by decide) hK8 q8a q8c (g := (mkF m 39 #[.val (.ref o0), .val (.ref o1), .val (.long q2), .second] [(.ref o1), (.long q2), (.ref o0)])) rfl (by rw [hml]; rfl) (Steps.refl _) (argsL := []) (rest := [(.long q2), (.ref o0)]) (lenOf pd_7 rfl) rfl (by show 2 * 0 + _ ≤ _; exact Nat.le_of_eq rfl) (hb hby d10_39) (fun _ _ => ⟨rfl, e4, (by decide : 0 + 0 ≤ _), (by decide : 0 + 0 ≤ _)⟩)
  dsimp only [Pt.U, Pt.locs, Pt.cells, Pt.slots] at X8 l8 y8 z8 st8 hQ8
  subst l8 y8 z8
  obtain ⟨rfl, N8q, e8⟩ := hQ8
  have N8 := Fr.app N4 N8q
  obtain ⟨lc8, X8, N8⟩ := own_gen X8 N8
  refine step (fun t k => st8.trans k) ?_
  show G T8 (mkF m 42 #[.val (.ref o0), .val (.ref o1), .val (.long q2), .second] [(.long (f_mi w_SLIDING w_CALENDAR w_SwitchMap_co o1 mm)), (.long q2), (.ref o0)])
  have r9 : (f_mi w_SLIDING w_CALENDAR w_SwitchMap_co o1 mm) = mm := rfl
  rw [r9]
  show G T8 (mkF m 42 #[.val (.ref o0), .val (.ref o1), .val (.long q2), .second] [(.long mm), (.long q2), (.ref o0)])
  refine step (fun t k => XS.lsub X8.here hx rfl (hb hby d10_42) rfl k) ?_
  show G T8 (mkF m 43 #[.val (.ref o0), .val (.ref o1), .val (.long q2), .second] [(.long (q2 - mm)), (.ref o0)])
  have hK10 := (backOf (R := rr_cnt_4_0_4_3) (p := p) (e := e) (below := below) (s := s) (args := #[(.ref o0), (.ref o1), (.long q2)]) (len := 3) (W := 0) (rm_for_4_0_4_3 l Z a0 hw [] w_SLIDING w_CALENDAR w_SwitchMap_co o0 (q2 - mm) ar ka x0 x1 x2 x3 h0 n0 (own_old_le O0) ST O0 Ex geo Ft gea Fh Fs Va (hp0 : ¬ ((q2 - mm) < x0)) (hp1 : ¬ ((q2 - mm) < x1)) (hp2 : ¬ ((q2 - mm) < x2)) (hp3 : (q2 - mm) < x3)) hZ (ww90 hw) (ww44 hw) (by decide) (by decide))
  obtain ⟨cq10, q10, q10'⟩ := (Ex).cell
  obtain ⟨_, _, ⟨T10, L10, k10, n10⟩, -, X10, ⟨Lc10, hQ10, l10, y10, z10⟩, st10⟩ := X8.privateBack hx (y := y_9) hown (mvT hZ (ww87 hw)) (mvT hZ (ww88 hw)) (own_selpriv hZ (ww89 hw) (ww88 hw) (ww43 hw) (by decide)) (Cond.privateMethod_at (mvP hZ (ww89 hw) (args := #[]))) (mvT hZ (ww90 hw)) (by decide) hK10 (g := (mkF m 43 #[.val (.ref o0), .val (.ref o1), .val (.long q2), .second] [(.long (q2 - mm)), (.ref o0)])) rfl (by rw [hml]; rfl) (Steps.refl _) (a := o0) (by rw [e8]; exact q10) q10' (argsL := [(.long (q2 - mm))]) (rest := []) (lenOf pd_4 rfl) rfl (by show 2 * 0 + _ ≤ _; exact Nat.le_of_eq rfl) (hb hby d10_43) (fun _ _ => ⟨rfl, e8, (by decide : 0 + 0 ≤ _), (by decide : 0 + 0 ≤ _)⟩)
  dsimp only [Pt.U, Pt.locs, Pt.cells, Pt.slots] at X10 l10 y10 z10 st10 hQ10
  subst l10 y10 z10
  obtain ⟨rfl, N10q, K10q, Y10_0, Y10_1, Y10_2, Y10_3⟩ := hQ10
  have N10 := Fr.app N8 N10q
  obtain ⟨lc10, X10, N10⟩ := own_gen X10 N10
  have O10 := O0.keep K10q (allS geo all0)
  have K10 : Keep h0 T10.heap [o0] := K0.trans K10q (allS (Or.inl (List.mem_of_getElem? (i := 0) rfl)) all0)
  refine step (fun t k => st10.trans k) ?_
  show G T10 (mkF m 46 #[.val (.ref o0), .val (.ref o1), .val (.long q2), .second] [])
  refine step (fun t k => XS.goto X10.here hx rfl (pc0 := 46) (pc' := 132) rfl (hb hby d10_46) (by decide) (by decide) k) ?_
  show G T10 (mkF m 132 #[.val (.ref o0), .val (.ref o1), .val (.long q2), .second] [])
  refine step (fun t k => XS.aloadN X10.here hx rfl (hb hby d10_132) rfl rfl k) ?_
  show G T10 (mkF m 133 #[.val (.ref o0), .val (.ref o1), .val (.long q2), .second] [(.ref o0)])
  obtain ⟨T11, X11, e11, st11⟩ := getF X10 hx hZ hown (host := "") (Or.inl (ww56 hw)) Via.refl rfl Y10_3 (g := (mkF m 133 #[.val (.ref o0), .val (.ref o1), .val (.long q2), .second] [(.ref o0)])) rfl rfl (hb hby d10_133)
  refine step st11 ?_
  show G T11 (mkF m 136 #[.val (.ref o0), .val (.ref o1), .val (.long q2), .second] [(.int 1)])
  exact ret (v := some (.int 1)) X11 (fun h => by rw [Bd.returns] at h; cases h) (fun fs hr => retI X11 hx Bd.returns (hb hby d10_136) hr) e11 ⟨rfl, N10, K10, Y10_0, Y10_1, Y10_2, Y10_3⟩ (by decide) (by decide)
abbrev rr_for_4_0_4_4 : Room := { frames := 0, cells := 0, slots := 0, locals := 0 }
theorem ef_for_4_0_4_4 (m : MethodId) (o0 : Addr) (q1 : Int64) : entryFrame m #[(.ref o0), (.long q1)] 3 = mkF m 0 #[.val (.ref o0), .val (.long q1), .second] [] := by first | (simp [entryFrame, mkF, argsToLocals, Value.category]; done) | rfl
def Q_for_4_0_4_4 (Z : State) (w_SLIDING : Addr) (w_CALENDAR : Addr) (w_SwitchMap_co : Addr) (o0 : Addr) (q1 : Int64) (ar : Addr) (ka : ClassId) (x0 : Int64) (x1 : Int64) (x2 : Int64) (x3 : Int64) (h0 : Heap) (n0 : Nat) (v : Option Value) (h : Heap) (L : List Loc) : Prop := v = none ∧ Fr n0 L ∧ Keep h0 h [o0] ∧ Exa Z h o0 cn_0 ∧ Fld Z h o0 cn_0 "times" "[J" (.ref ar) ∧ Fld Z h o0 cn_0 "head" "I" (.int 0) ∧ Fld Z h o0 cn_0 "size" "I" (.int 0)
set_option maxRecDepth 65536 in
set_option maxHeartbeats 40000000 in
theorem rm_for_4_0_4_4 (l : Launch) (Z : State) (a0 : Array Value) (hw : ∀ d ∈ tables_1, d.before a0 Z = true) (ws : List Jvm.Cond) (w_SLIDING : Addr) (w_CALENDAR : Addr) (w_SwitchMap_co : Addr) (o0 : Addr) (q1 : Int64) (ar : Addr) (ka : ClassId) (x0 : Int64) (x1 : Int64) (x2 : Int64) (x3 : Int64) (h0 : Heap) (n0 : Nat) (Z0 : n0 ≤ h0.size) (ST : own_St Z w_SLIDING w_CALENDAR w_SwitchMap_co) (O0 : Old Z n0 h0) (Ex : Exa Z h0 o0 cn_0) (geo : n0 ≤ o0) (Ft : Fld Z h0 o0 cn_0 "times" "[J" (.ref ar)) (gea : n0 ≤ ar) (Fh : Fld Z h0 o0 cn_0 "head" "I" (.int 0)) (Fs : Fld Z h0 o0 cn_0 "size" "I" (.int 4)) (Va : Arv Z h0 ar ka .long (4 : Int32) [(.long x0), (.long x1), (.long x2), (.long x3)] (.long 0)) (hp0 : ¬ (q1 < x0)) (hp1 : ¬ (q1 < x1)) (hp2 : ¬ (q1 < x2)) (hp3 : ¬ (q1 < x3)) :
    MetFree l y_9 (head1 (Jvm.Cond.code y_9 prog_2_method_5_code 3 none :: ws) rr_for_4_0_4_4) (fun a U => a = #[(.ref o0), (.long q1)] ∧ Z.Warmed39 U.vm ∧ U.heap = h0) (fun _ _ _ _ _ => True) (fun _ U o U' => ∃ v L, o = .returned v ∧ Q_for_4_0_4_4 Z w_SLIDING w_CALENDAR w_SwitchMap_co o0 q1 ar ka x0 x1 x2 x3 h0 n0 v U'.heap L ∧ FrameEnd U o U' L rr_for_4_0_4_4.cells rr_for_4_0_4_4.slots) := by
  refine MetFree.of_bodySF (plainFor_of_name pn_3) hisR ?_
  intro p e s m args below meth c s₁ Bd hml0 hP hK
  obtain ⟨rfl, hZ, hh⟩ := hP
  have hx := Bd.exec
  have hby := Bd.bytes
  have hml : c.maxLocals = 3 := hml0
  have hown : s.vm.findClass cn_0 = some m.cls := findClass_of_methodNamed Bd.named
  have hnm := (name_of_methodNamed Bd.named Bd.method).1
  have X0 : Stand p l e rr_for_4_0_4_4 s m #[(.ref o0), (.long q1)] below meth c s₁ [] 0 0 := Stand.of_body Bd
  have e0 : s₁.heap = h0 := by rw [← hh, Bd.state]; rfl
  have N0 := Fr.nil n0
  have K0 : Keep h0 h0 [o0] := Keep.refl _ _
  obtain ⟨G, step, ret, fin⟩ := own_open (p := p) (l := l) (e := e) (R := rr_for_4_0_4_4) (s := s) (m := m) (args := #[(.ref o0), (.long q1)]) (below := below) (meth := meth) (c := c) (rr_for_4_0_4_4.cells) (rr_for_4_0_4_4.slots) (Q_for_4_0_4_4 Z w_SLIDING w_CALENDAR w_SwitchMap_co o0 q1 ar ka x0 x1 x2 x3 h0 n0) Bd.notSynchronized
  refine fin (g := entryFrame m #[(.ref o0), (.long q1)] 3) ?_
  rw [ef_for_4_0_4_4 m o0 q1]
  have ne_o0_ar : o0 ≠ ar := own_ne_arv Ex (ww43 hw) Va
  show G s₁ (mkF m 0 #[.val (.ref o0), .val (.long q1), .second] [])
  refine step (fun t k => XS.aloadN X0.here hx rfl (hb hby d9_0) rfl rfl k) ?_
  show G s₁ (mkF m 1 #[.val (.ref o0), .val (.long q1), .second] [(.ref o0)])
  obtain ⟨T1, X1, e1, st1⟩ := getF X0 hx hZ hown (host := "") (Or.inl (ww56 hw)) Via.refl e0 Fs (g := (mkF m 1 #[.val (.ref o0), .val (.long q1), .second] [(.ref o0)])) rfl rfl (hb hby d9_1)
  refine step st1 ?_
  show G T1 (mkF m 4 #[.val (.ref o0), .val (.long q1), .second] [(.int 4)])
  refine step (fun t k => XS.ifNo X1.here hx rfl (hb hby d9_4) rfl ((if0 _ _).trans (tlt (by decide : (0 : Int32) < (4 : Int32))).2.2.2) k) ?_
  show G T1 (mkF m 7 #[.val (.ref o0), .val (.long q1), .second] [])
  refine step (fun t k => XS.aloadN X1.here hx rfl (hb hby d9_7) rfl rfl k) ?_
  show G T1 (mkF m 8 #[.val (.ref o0), .val (.long q1), .second] [(.ref o0)])
  obtain ⟨T2, X2, e2, st2⟩ := getF X1 hx hZ hown (host := "") (Or.inl (ww49 hw)) Via.refl e1 Ft (g := (mkF m 8 #[.val (.ref o0), .val (.long q1), .second] [(.ref o0)])) rfl rfl (hb hby d9_8)
  refine step st2 ?_
  show G T2 (mkF m 11 #[.val (.ref o0), .val (.long q1), .second] [(.ref ar)])
  refine step (fun t k => XS.aloadN X2.here hx rfl (hb hby d9_11) rfl rfl k) ?_
  show G T2 (mkF m 12 #[.val (.ref o0), .val (.long q1), .second] [(.ref o0), (.ref ar)])
  obtain ⟨T3, X3, e3, st3⟩ := getF X2 hx hZ hown (host := "") (Or.inl (ww58 hw)) Via.refl e2 Fh (g := (mkF m 12 #[.val (.ref o0), .val (.long q1), .second] [(.ref o0), (.ref ar)])) rfl rfl (hb hby d9_12)
  refine step st3 ?_
  show G T3 (mkF m 15 #[.val (.ref o0), .val (.long q1), .second] [(.int 0), (.ref ar)])
  have q4 := own_ldJ X3 hx hZ e3 Va (j := (0 : Int32)) (v := (.long x0)) (by decide) (own_at (i := 0) rfl rfl) (g := (mkF m 15 #[.val (.ref o0), .val (.long q1), .second] [(.int 0), (.ref ar)])) rfl rfl (hb hby d9_15)
  refine step q4 ?_
  show G T3 (mkF m 16 #[.val (.ref o0), .val (.long q1), .second] [(.long x0)])
  refine step (fun t k => XS.lloadN X3.here hx rfl (hb hby d9_16) rfl k) ?_
  show G T3 (mkF m 17 #[.val (.ref o0), .val (.long q1), .second] [(.long q1), (.long x0)])
  refine step (fun t k => XS.lcmp X3.here hx rfl (hb hby d9_17) rfl k) ?_
  show G T3 (mkF m 18 #[.val (.ref o0), .val (.long q1), .second] [(.int (lcmpW x0 q1))])
  refine step (fun t k => XS.ifNo X3.here hx rfl (hb hby d9_18) rfl ((if0 _ _).trans (flt (fun q => hp0 ((lw_gt _ _).mp q))).2.2.1) k) ?_
  show G T3 (mkF m 21 #[.val (.ref o0), .val (.long q1), .second] [])
  refine step (fun t k => XS.aloadN X3.here hx rfl (hb hby d9_21) rfl rfl k) ?_
  show G T3 (mkF m 22 #[.val (.ref o0), .val (.long q1), .second] [(.ref o0)])
  refine step (fun t k => XS.aloadN X3.here hx rfl (hb hby d9_22) rfl rfl k) ?_
  show G T3 (mkF m 23 #[.val (.ref o0), .val (.long q1), .second] [(.ref o0), (.ref o0)])
  obtain ⟨T5, X5, e5, st5⟩ := getF X3 hx hZ hown (host := "") (Or.inl (ww58 hw)) Via.refl e3 Fh (g := (mkF m 23 #[.val (.ref o0), .val (.long q1), .second] [(.ref o0), (.ref o0)])) rfl rfl (hb hby d9_23)
  refine step st5 ?_
  show G T5 (mkF m 26 #[.val (.ref o0), .val (.long q1), .second] [(.int 0), (.ref o0)])
  refine step (fun t k => XS.iconst X5.here hx rfl (hb hby d9_26) k) ?_
  show G T5 (mkF m 27 #[.val (.ref o0), .val (.long q1), .second] [(.int 1), (.int 0), (.ref o0)])
  refine step (fun t k => XS.iadd X5.here hx rfl (hb hby d9_27) rfl k) ?_
  show G T5 (mkF m 28 #[.val (.ref o0), .val (.long q1), .second] [(.int ((0 : Int32) + (1 : Int32))), (.ref o0)])
  rw [(by decide : ((0 : Int32) + (1 : Int32)) = (1 : Int32))]
  show G T5 (mkF m 28 #[.val (.ref o0), .val (.long q1), .second] [(.int 1), (.ref o0)])
  refine step (fun t k => XS.aloadN X5.here hx rfl (hb hby d9_28) rfl rfl k) ?_
  show G T5 (mkF m 29 #[.val (.ref o0), .val (.long q1), .second] [(.ref o0), (.int 1), (.ref o0)])
  obtain ⟨T6, X6, e6, st6⟩ := getF X5 hx hZ hown (host := "") (Or.inl (ww49 hw)) Via.refl e5 Ft (g := (mkF m 29 #[.val (.ref o0), .val (.long q1), .second] [(.ref o0), (.int 1), (.ref o0)])) rfl rfl (hb hby d9_29)
  refine step st6 ?_
  show G T6 (mkF m 32 #[.val (.ref o0), .val (.long q1), .second] [(.ref ar), (.int 1), (.ref o0)])
  have q7 := own_len X6 hx hZ e6 Va (g := (mkF m 32 #[.val (.ref o0), .val (.long q1), .second] [(.ref ar), (.int 1), (.ref o0)])) rfl rfl (hb hby d9_32)
  refine step q7 ?_
  show G T6 (mkF m 33 #[.val (.ref o0), .val (.long q1), .second] [(.int 4), (.int 1), (.ref o0)])
  refine step (fun t k => iremM X6 hx rfl (hb hby d9_33) rfl (by decide) k) ?_
  show G T6 (mkF m 34 #[.val (.ref o0), .val (.long q1), .second] [(.int ((1 : Int32) % (4 : Int32))), (.ref o0)])
  rw [(by decide : ((1 : Int32) % (4 : Int32)) = (1 : Int32))]
  show G T6 (mkF m 34 #[.val (.ref o0), .val (.long q1), .second] [(.int 1), (.ref o0)])
  obtain ⟨T8, h8, X8, e8, W8, st8⟩ := putF X6 hx hZ hown (host := "") (Or.inl (ww58 hw)) Via.refl e6 Fh Ex (Or.inl (ww59 hw)) (ww43 hw) (ty := .int) (by decide) rfl rfl (g := (mkF m 34 #[.val (.ref o0), .val (.long q1), .second] [(.int 1), (.ref o0)])) rfl rfl (hb hby d9_34)
  have F8 : Fld Z h8 o0 cn_0 "head" "I" (.int 1) := Fld.same W8 Fh
  have N8 := Fr.snoc X8 N0 geo
  obtain ⟨lc8, X8, N8⟩ := own_gen X8 N8
  have O8 := O0.wr W8 geo
  have K8 : Keep h0 h8 [o0] := K0.wr W8 (Or.inl (List.mem_of_getElem? (i := 0) rfl))
  refine step st8 ?_
  show G T8 (mkF m 37 #[.val (.ref o0), .val (.long q1), .second] [])
  refine step (fun t k => XS.aloadN X8.here hx rfl (hb hby d9_37) rfl rfl k) ?_
  show G T8 (mkF m 38 #[.val (.ref o0), .val (.long q1), .second] [(.ref o0)])
  refine step (fun t k => XS.dup X8.here hx rfl (hb hby d9_38) rfl rfl k) ?_
  show G T8 (mkF m 39 #[.val (.ref o0), .val (.long q1), .second] [(.ref o0), (.ref o0)])
  have f10 := (Fld.other W8 Fs (Or.inr (slot_ne (Or.inl (ww57 hw)) (Or.inl (ww59 hw)) (by decide) (t := .int) (t' := .int) (by decide) (by decide))))
  obtain ⟨T9, X9, e9, st9⟩ := getF X8 hx hZ hown (host := "") (Or.inl (ww56 hw)) Via.refl e8 f10 (g := (mkF m 39 #[.val (.ref o0), .val (.long q1), .second] [(.ref o0), (.ref o0)])) rfl rfl (hb hby d9_39)
  refine step st9 ?_
  show G T9 (mkF m 42 #[.val (.ref o0), .val (.long q1), .second] [(.int 4), (.ref o0)])
  refine step (fun t k => XS.iconst X9.here hx rfl (hb hby d9_42) k) ?_
  show G T9 (mkF m 43 #[.val (.ref o0), .val (.long q1), .second] [(.int 1), (.int 4), (.ref o0)])
  refine step (fun t k => XS.isub X9.here hx rfl (hb hby d9_43) rfl k) ?_
  show G T9 (mkF m 44 #[.val (.ref o0), .val (.long q1), .second] [(.int ((4 : Int32) - (1 : Int32))), (.ref o0)])
  rw [(by decide : ((4 : Int32) - (1 : Int32)) = (3 : Int32))]
  show G T9 (mkF m 44 #[.val (.ref o0), .val (.long q1), .second] [(.int 3), (.ref o0)])
  have f12 := (Exa.wr W8 Ex)
  obtain ⟨T11, h11, X11, e11, W11, st11⟩ := putF X9 hx hZ hown (host := "") (Or.inl (ww56 hw)) Via.refl e9 f10 f12 (Or.inl (ww57 hw)) (ww43 hw) (ty := .int) (by decide) rfl rfl (g := (mkF m 44 #[.val (.ref o0), .val (.long q1), .second] [(.int 3), (.ref o0)])) rfl rfl (hb hby d9_44)
  have F11 : Fld Z h11 o0 cn_0 "size" "I" (.int 3) := Fld.same W11 f10
  have N11 := Fr.snoc X11 N8 geo
  obtain ⟨lc11, X11, N11⟩ := own_gen X11 N11
  have O11 := O8.wr W11 geo
  have K11 : Keep h0 h11 [o0] := K8.wr W11 (Or.inl (List.mem_of_getElem? (i := 0) rfl))
  refine step st11 ?_
  show G T11 (mkF m 47 #[.val (.ref o0), .val (.long q1), .second] [])
  refine step (fun t k => XS.goto X11.here hx rfl (pc0 := 47) (pc' := 0) rfl (hb hby d9_47) (by decide) (by decide) k) ?_
  show G T11 (mkF m 0 #[.val (.ref o0), .val (.long q1), .second] [])
  refine step (fun t k => XS.aloadN X11.here hx rfl (hb hby d9_0) rfl rfl k) ?_
  show G T11 (mkF m 1 #[.val (.ref o0), .val (.long q1), .second] [(.ref o0)])
  obtain ⟨T13, X13, e13, st13⟩ := getF X11 hx hZ hown (host := "") (Or.inl (ww56 hw)) Via.refl e11 F11 (g := (mkF m 1 #[.val (.ref o0), .val (.long q1), .second] [(.ref o0)])) rfl rfl (hb hby d9_1)
  refine step st13 ?_
  show G T13 (mkF m 4 #[.val (.ref o0), .val (.long q1), .second] [(.int 3)])
  refine step (fun t k => XS.ifNo X13.here hx rfl (hb hby d9_4) rfl ((if0 _ _).trans (tlt (by decide : (0 : Int32) < (3 : Int32))).2.2.2) k) ?_
  show G T13 (mkF m 7 #[.val (.ref o0), .val (.long q1), .second] [])
  refine step (fun t k => XS.aloadN X13.here hx rfl (hb hby d9_7) rfl rfl k) ?_
  show G T13 (mkF m 8 #[.val (.ref o0), .val (.long q1), .second] [(.ref o0)])
  have f15 := (Fld.other W11 (Fld.other W8 Ft (Or.inr (slot_ne (Or.inl (ww50 hw)) (Or.inl (ww59 hw)) (by decide) (t := (.array .long)) (t' := .int) (by decide) (by decide)))) (Or.inr (slot_ne (Or.inl (ww50 hw)) (Or.inl (ww57 hw)) (by decide) (t := (.array .long)) (t' := .int) (by decide) (by decide))))
  obtain ⟨T14, X14, e14, st14⟩ := getF X13 hx hZ hown (host := "") (Or.inl (ww49 hw)) Via.refl e13 f15 (g := (mkF m 8 #[.val (.ref o0), .val (.long q1), .second] [(.ref o0)])) rfl rfl (hb hby d9_8)
  refine step st14 ?_
  show G T14 (mkF m 11 #[.val (.ref o0), .val (.long q1), .second] [(.ref ar)])
  refine step (fun t k => XS.aloadN X14.here hx rfl (hb hby d9_11) rfl rfl k) ?_
  show G T14 (mkF m 12 #[.val (.ref o0), .val (.long q1), .second] [(.ref o0), (.ref ar)])
  have f17 := (Fld.other W11 F8 (Or.inr (slot_ne (Or.inl (ww59 hw)) (Or.inl (ww57 hw)) (by decide) (t := .int) (t' := .int) (by decide) (by decide))))
  obtain ⟨T16, X16, e16, st16⟩ := getF X14 hx hZ hown (host := "") (Or.inl (ww58 hw)) Via.refl e14 f17 (g := (mkF m 12 #[.val (.ref o0), .val (.long q1), .second] [(.ref o0), (.ref ar)])) rfl rfl (hb hby d9_12)
  refine step st16 ?_
  show G T16 (mkF m 15 #[.val (.ref o0), .val (.long q1), .second] [(.int 1), (.ref ar)])
  have f18 := (Arv.other (Arv.other Va W8 (Ne.symm ne_o0_ar)) W11 (Ne.symm ne_o0_ar))
  have q19 := own_ldJ X16 hx hZ e16 f18 (j := (1 : Int32)) (v := (.long x1)) (by decide) (own_at (i := 1) rfl rfl) (g := (mkF m 15 #[.val (.ref o0), .val (.long q1), .second] [(.int 1), (.ref ar)])) rfl rfl (hb hby d9_15)
  refine step q19 ?_
  show G T16 (mkF m 16 #[.val (.ref o0), .val (.long q1), .second] [(.long x1)])
  refine step (fun t k => XS.lloadN X16.here hx rfl (hb hby d9_16) rfl k) ?_
  show G T16 (mkF m 17 #[.val (.ref o0), .val (.long q1), .second] [(.long q1), (.long x1)])
  refine step (fun t k => XS.lcmp X16.here hx rfl (hb hby d9_17) rfl k) ?_
  show G T16 (mkF m 18 #[.val (.ref o0), .val (.long q1), .second] [(.int (lcmpW x1 q1))])
  refine step (fun t k => XS.ifNo X16.here hx rfl (hb hby d9_18) rfl ((if0 _ _).trans (flt (fun q => hp1 ((lw_gt _ _).mp q))).2.2.1) k) ?_
  show G T16 (mkF m 21 #[.val (.ref o0), .val (.long q1), .second] [])
  refine step (fun t k => XS.aloadN X16.here hx rfl (hb hby d9_21) rfl rfl k) ?_
  show G T16 (mkF m 22 #[.val (.ref o0), .val (.long q1), .second] [(.ref o0)])
  refine step (fun t k => XS.aloadN X16.here hx rfl (hb hby d9_22) rfl rfl k) ?_
  show G T16 (mkF m 23 #[.val (.ref o0), .val (.long q1), .second] [(.ref o0), (.ref o0)])
  obtain ⟨T20, X20, e20, st20⟩ := getF X16 hx hZ hown (host := "") (Or.inl (ww58 hw)) Via.refl e16 f17 (g := (mkF m 23 #[.val (.ref o0), .val (.long q1), .second] [(.ref o0), (.ref o0)])) rfl rfl (hb hby d9_23)
  refine step st20 ?_
  show G T20 (mkF m 26 #[.val (.ref o0), .val (.long q1), .second] [(.int 1), (.ref o0)])
  refine step (fun t k => XS.iconst X20.here hx rfl (hb hby d9_26) k) ?_
  show G T20 (mkF m 27 #[.val (.ref o0), .val (.long q1), .second] [(.int 1), (.int 1), (.ref o0)])
  refine step (fun t k => XS.iadd X20.here hx rfl (hb hby d9_27) rfl k) ?_
  show G T20 (mkF m 28 #[.val (.ref o0), .val (.long q1), .second] [(.int ((1 : Int32) + (1 : Int32))), (.ref o0)])
  rw [(by decide : ((1 : Int32) + (1 : Int32)) = (2 : Int32))]
  show G T20 (mkF m 28 #[.val (.ref o0), .val (.long q1), .second] [(.int 2), (.ref o0)])
  refine step (fun t k => XS.aloadN X20.here hx rfl (hb hby d9_28) rfl rfl k) ?_
  show G T20 (mkF m 29 #[.val (.ref o0), .val (.long q1), .second] [(.ref o0), (.int 2), (.ref o0)])
  obtain ⟨T21, X21, e21, st21⟩ := getF X20 hx hZ hown (host := "") (Or.inl (ww49 hw)) Via.refl e20 f15 (g := (mkF m 29 #[.val (.ref o0), .val (.long q1), .second] [(.ref o0), (.int 2), (.ref o0)])) rfl rfl (hb hby d9_29)
  refine step st21 ?_
  show G T21 (mkF m 32 #[.val (.ref o0), .val (.long q1), .second] [(.ref ar), (.int 2), (.ref o0)])
  have q22 := own_len X21 hx hZ e21 f18 (g := (mkF m 32 #[.val (.ref o0), .val (.long q1), .second] [(.ref ar), (.int 2), (.ref o0)])) rfl rfl (hb hby d9_32)
  refine step q22 ?_
  show G T21 (mkF m 33 #[.val (.ref o0), .val (.long q1), .second] [(.int 4), (.int 2), (.ref o0)])
  refine step (fun t k => iremM X21 hx rfl (hb hby d9_33) rfl (by decide) k) ?_
  show G T21 (mkF m 34 #[.val (.ref o0), .val (.long q1), .second] [(.int ((2 : Int32) % (4 : Int32))), (.ref o0)])
  rw [(by decide : ((2 : Int32) % (4 : Int32)) = (2 : Int32))]
  show G T21 (mkF m 34 #[.val (.ref o0), .val (.long q1), .second] [(.int 2), (.ref o0)])
  have f24 := (Exa.wr W11 f12)
  obtain ⟨T23, h23, X23, e23, W23, st23⟩ := putF X21 hx hZ hown (host := "") (Or.inl (ww58 hw)) Via.refl e21 f17 f24 (Or.inl (ww59 hw)) (ww43 hw) (ty := .int) (by decide) rfl rfl (g := (mkF m 34 #[.val (.ref o0), .val (.long q1), .second] [(.int 2), (.ref o0)])) rfl rfl (hb hby d9_34)
  have F23 : Fld Z h23 o0 cn_0 "head" "I" (.int 2) := Fld.same W23 f17
  have N23 := Fr.snoc X23 N11 geo
  obtain ⟨lc23, X23, N23⟩ := own_gen X23 N23
  have O23 := O11.wr W23 geo
  have K23 : Keep h0 h23 [o0] := K11.wr W23 (Or.inl (List.mem_of_getElem? (i := 0) rfl))
  refine step st23 ?_
  show G T23 (mkF m 37 #[.val (.ref o0), .val (.long q1), .second] [])
  refine step (fun t k => XS.aloadN X23.here hx rfl (hb hby d9_37) rfl rfl k) ?_
  show G T23 (mkF m 38 #[.val (.ref o0), .val (.long q1), .second] [(.ref o0)])
  refine step (fun t k => XS.dup X23.here hx rfl (hb hby d9_38) rfl rfl k) ?_
  show G T23 (mkF m 39 #[.val (.ref o0), .val (.long q1), .second] [(.ref o0), (.ref o0)])
  have f26 := (Fld.other W23 F11 (Or.inr (slot_ne (Or.inl (ww57 hw)) (Or.inl (ww59 hw)) (by decide) (t := .int) (t' := .int) (by decide) (by decide))))
  obtain ⟨T25, X25, e25, st25⟩ := getF X23 hx hZ hown (host := "") (Or.inl (ww56 hw)) Via.refl e23 f26 (g := (mkF m 39 #[.val (.ref o0), .val (.long q1), .second] [(.ref o0), (.ref o0)])) rfl rfl (hb hby d9_39)
  refine step st25 ?_
  show G T25 (mkF m 42 #[.val (.ref o0), .val (.long q1), .second] [(.int 3), (.ref o0)])
  refine step (fun t k => XS.iconst X25.here hx rfl (hb hby d9_42) k) ?_
  show G T25 (mkF m 43 #[.val (.ref o0), .val (.long q1), .second] [(.int 1), (.int 3), (.ref o0)])
  refine step (fun t k => XS.isub X25.here hx rfl (hb hby d9_43) rfl k) ?_
  show G T25 (mkF m 44 #[.val (.ref o0), .val (.long q1), .second] [(.int ((3 : Int32) - (1 : Int32))), (.ref o0)])
  rw [(by decide : ((3 : Int32) - (1 : Int32)) = (2 : Int32))]
  show G T25 (mkF m 44 #[.val (.ref o0), .val (.long q1), .second] [(.int 2), (.ref o0)])
  have f28 := (Exa.wr W23 f24)
  obtain ⟨T27, h27, X27, e27, W27, st27⟩ := putF X25 hx hZ hown (host := "") (Or.inl (ww56 hw)) Via.refl e25 f26 f28 (Or.inl (ww57 hw)) (ww43 hw) (ty := .int) (by decide) rfl rfl (g := (mkF m 44 #[.val (.ref o0), .val (.long q1), .second] [(.int 2), (.ref o0)])) rfl rfl (hb hby d9_44)
  have F27 : Fld Z h27 o0 cn_0 "size" "I" (.int 2) := Fld.same W27 f26
  have N27 := Fr.snoc X27 N23 geo
  obtain ⟨lc27, X27, N27⟩ := own_gen X27 N27
  have O27 := O23.wr W27 geo
  have K27 : Keep h0 h27 [o0] := K23.wr W27 (Or.inl (List.mem_of_getElem? (i := 0) rfl))
  refine step st27 ?_
  show G T27 (mkF m 47 #[.val (.ref o0), .val (.long q1), .second] [])
  refine step (fun t k => XS.goto X27.here hx rfl (pc0 := 47) (pc' := 0) rfl (hb hby d9_47) (by decide) (by decide) k) ?_
  show G T27 (mkF m 0 #[.val (.ref o0), .val (.long q1), .second] [])
  refine step (fun t k => XS.aloadN X27.here hx rfl (hb hby d9_0) rfl rfl k) ?_
  show G T27 (mkF m 1 #[.val (.ref o0), .val (.long q1), .second] [(.ref o0)])
  obtain ⟨T29, X29, e29, st29⟩ := getF X27 hx hZ hown (host := "") (Or.inl (ww56 hw)) Via.refl e27 F27 (g := (mkF m 1 #[.val (.ref o0), .val (.long q1), .second] [(.ref o0)])) rfl rfl (hb hby d9_1)
  refine step st29 ?_
  show G T29 (mkF m 4 #[.val (.ref o0), .val (.long q1), .second] [(.int 2)])
  refine step (fun t k => XS.ifNo X29.here hx rfl (hb hby d9_4) rfl ((if0 _ _).trans (tlt (by decide : (0 : Int32) < (2 : Int32))).2.2.2) k) ?_
  show G T29 (mkF m 7 #[.val (.ref o0), .val (.long q1), .second] [])
  refine step (fun t k => XS.aloadN X29.here hx rfl (hb hby d9_7) rfl rfl k) ?_
  show G T29 (mkF m 8 #[.val (.ref o0), .val (.long q1), .second] [(.ref o0)])
  have f31 := (Fld.other W27 (Fld.other W23 f15 (Or.inr (slot_ne (Or.inl (ww50 hw)) (Or.inl (ww59 hw)) (by decide) (t := (.array .long)) (t' := .int) (by decide) (by decide)))) (Or.inr (slot_ne (Or.inl (ww50 hw)) (Or.inl (ww57 hw)) (by decide) (t := (.array .long)) (t' := .int) (by decide) (by decide))))
  obtain ⟨T30, X30, e30, st30⟩ := getF X29 hx hZ hown (host := "") (Or.inl (ww49 hw)) Via.refl e29 f31 (g := (mkF m 8 #[.val (.ref o0), .val (.long q1), .second] [(.ref o0)])) rfl rfl (hb hby d9_8)
  refine step st30 ?_
  show G T30 (mkF m 11 #[.val (.ref o0), .val (.long q1), .second] [(.ref ar)])
  refine step (fun t k => XS.aloadN X30.here hx rfl (hb hby d9_11) rfl rfl k) ?_
  show G T30 (mkF m 12 #[.val (.ref o0), .val (.long q1), .second] [(.ref o0), (.ref ar)])
  have f33 := (Fld.other W27 F23 (Or.inr (slot_ne (Or.inl (ww59 hw)) (Or.inl (ww57 hw)) (by decide) (t := .int) (t' := .int) (by decide) (by decide))))
  obtain ⟨T32, X32, e32, st32⟩ := getF X30 hx hZ hown (host := "") (Or.inl (ww58 hw)) Via.refl e30 f33 (g := (mkF m 12 #[.val (.ref o0), .val (.long q1), .second] [(.ref o0), (.ref ar)])) rfl rfl (hb hby d9_12)
  refine step st32 ?_
  show G T32 (mkF m 15 #[.val (.ref o0), .val (.long q1), .second] [(.int 2), (.ref ar)])
  have f34 := (Arv.other (Arv.other f18 W23 (Ne.symm ne_o0_ar)) W27 (Ne.symm ne_o0_ar))
  have q35 := own_ldJ X32 hx hZ e32 f34 (j := (2 : Int32)) (v := (.long x2)) (by decide) (own_at (i := 2) rfl rfl) (g := (mkF m 15 #[.val (.ref o0), .val (.long q1), .second] [(.int 2), (.ref ar)])) rfl rfl (hb hby d9_15)
  refine step q35 ?_
  show G T32 (mkF m 16 #[.val (.ref o0), .val (.long q1), .second] [(.long x2)])
  refine step (fun t k => XS.lloadN X32.here hx rfl (hb hby d9_16) rfl k) ?_
  show G T32 (mkF m 17 #[.val (.ref o0), .val (.long q1), .second] [(.long q1), (.long x2)])
  refine step (fun t k => XS.lcmp X32.here hx rfl (hb hby d9_17) rfl k) ?_
  show G T32 (mkF m 18 #[.val (.ref o0), .val (.long q1), .second] [(.int (lcmpW x2 q1))])
  refine step (fun t k => XS.ifNo X32.here hx rfl (hb hby d9_18) rfl ((if0 _ _).trans (flt (fun q => hp2 ((lw_gt _ _).mp q))).2.2.1) k) ?_
  show G T32 (mkF m 21 #[.val (.ref o0), .val (.long q1), .second] [])
  refine step (fun t k => XS.aloadN X32.here hx rfl (hb hby d9_21) rfl rfl k) ?_
  show G T32 (mkF m 22 #[.val (.ref o0), .val (.long q1), .second] [(.ref o0)])
  refine step (fun t k => XS.aloadN X32.here hx rfl (hb hby d9_22) rfl rfl k) ?_
  show G T32 (mkF m 23 #[.val (.ref o0), .val (.long q1), .second] [(.ref o0), (.ref o0)])
  obtain ⟨T36, X36, e36, st36⟩ := getF X32 hx hZ hown (host := "") (Or.inl (ww58 hw)) Via.refl e32 f33 (g := (mkF m 23 #[.val (.ref o0), .val (.long q1), .second] [(.ref o0), (.ref o0)])) rfl rfl (hb hby d9_23)
  refine step st36 ?_
  show G T36 (mkF m 26 #[.val (.ref o0), .val (.long q1), .second] [(.int 2), (.ref o0)])
  refine step (fun t k => XS.iconst X36.here hx rfl (hb hby d9_26) k) ?_
  show G T36 (mkF m 27 #[.val (.ref o0), .val (.long q1), .second] [(.int 1), (.int 2), (.ref o0)])
  refine step (fun t k => XS.iadd X36.here hx rfl (hb hby d9_27) rfl k) ?_
  show G T36 (mkF m 28 #[.val (.ref o0), .val (.long q1), .second] [(.int ((2 : Int32) + (1 : Int32))), (.ref o0)])
  rw [(by decide : ((2 : Int32) + (1 : Int32)) = (3 : Int32))]
  show G T36 (mkF m 28 #[.val (.ref o0), .val (.long q1), .second] [(.int 3), (.ref o0)])
  refine step (fun t k => XS.aloadN X36.here hx rfl (hb hby d9_28) rfl rfl k) ?_
  show G T36 (mkF m 29 #[.val (.ref o0), .val (.long q1), .second] [(.ref o0), (.int 3), (.ref o0)])
  obtain ⟨T37, X37, e37, st37⟩ := getF X36 hx hZ hown (host := "") (Or.inl (ww49 hw)) Via.refl e36 f31 (g := (mkF m 29 #[.val (.ref o0), .val (.long q1), .second] [(.ref o0), (.int 3), (.ref o0)])) rfl rfl (hb hby d9_29)
  refine step st37 ?_
  show G T37 (mkF m 32 #[.val (.ref o0), .val (.long q1), .second] [(.ref ar), (.int 3), (.ref o0)])
  have q38 := own_len X37 hx hZ e37 f34 (g := (mkF m 32 #[.val (.ref o0), .val (.long q1), .second] [(.ref ar), (.int 3), (.ref o0)])) rfl rfl (hb hby d9_32)
  refine step q38 ?_
  show G T37 (mkF m 33 #[.val (.ref o0), .val (.long q1), .second] [(.int 4), (.int 3), (.ref o0)])
  refine step (fun t k => iremM X37 hx rfl (hb hby d9_33) rfl (by decide) k) ?_
  show G T37 (mkF m 34 #[.val (.ref o0), .val (.long q1), .second] [(.int ((3 : Int32) % (4 : Int32))), (.ref o0)])
  rw [(by decide : ((3 : Int32) % (4 : Int32)) = (3 : Int32))]
  show G T37 (mkF m 34 #[.val (.ref o0), .val (.long q1), .second] [(.int 3), (.ref o0)])
  have f40 := (Exa.wr W27 f28)
  obtain ⟨T39, h39, X39, e39, W39, st39⟩ := putF X37 hx hZ hown (host := "") (Or.inl (ww58 hw)) Via.refl e37 f33 f40 (Or.inl (ww59 hw)) (ww43 hw) (ty := .int) (by decide) rfl rfl (g := (mkF m 34 #[.val (.ref o0), .val (.long q1), .second] [(.int 3), (.ref o0)])) rfl rfl (hb hby d9_34)
  have F39 : Fld Z h39 o0 cn_0 "head" "I" (.int 3) := Fld.same W39 f33
  have N39 := Fr.snoc X39 N27 geo
  obtain ⟨lc39, X39, N39⟩ := own_gen X39 N39
  have O39 := O27.wr W39 geo
  have K39 : Keep h0 h39 [o0] := K27.wr W39 (Or.inl (List.mem_of_getElem? (i := 0) rfl))
  refine step st39 ?_
  show G T39 (mkF m 37 #[.val (.ref o0), .val (.long q1), .second] [])
  refine step (fun t k => XS.aloadN X39.here hx rfl (hb hby d9_37) rfl rfl k) ?_
  show G T39 (mkF m 38 #[.val (.ref o0), .val (.long q1), .second] [(.ref o0)])
  refine step (fun t k => XS.dup X39.here hx rfl (hb hby d9_38) rfl rfl k) ?_
  show G T39 (mkF m 39 #[.val (.ref o0), .val (.long q1), .second] [(.ref o0), (.ref o0)])
  have f42 := (Fld.other W39 F27 (Or.inr (slot_ne (Or.inl (ww57 hw)) (Or.inl (ww59 hw)) (by decide) (t := .int) (t' := .int) (by decide) (by decide))))
  obtain ⟨T41, X41, e41, st41⟩ := getF X39 hx hZ hown (host := "") (Or.inl (ww56 hw)) Via.refl e39 f42 (g := (mkF m 39 #[.val (.ref o0), .val (.long q1), .second] [(.ref o0), (.ref o0)])) rfl rfl (hb hby d9_39)
  refine step st41 ?_
  show G T41 (mkF m 42 #[.val (.ref o0), .val (.long q1), .second] [(.int 2), (.ref o0)])
  refine step (fun t k => XS.iconst X41.here hx rfl (hb hby d9_42) k) ?_
  show G T41 (mkF m 43 #[.val (.ref o0), .val (.long q1), .second] [(.int 1), (.int 2), (.ref o0)])
  refine step (fun t k => XS.isub X41.here hx rfl (hb hby d9_43) rfl k) ?_
  show G T41 (mkF m 44 #[.val (.ref o0), .val (.long q1), .second] [(.int ((2 : Int32) - (1 : Int32))), (.ref o0)])
  rw [(by decide : ((2 : Int32) - (1 : Int32)) = (1 : Int32))]
  show G T41 (mkF m 44 #[.val (.ref o0), .val (.long q1), .second] [(.int 1), (.ref o0)])
  have f44 := (Exa.wr W39 f40)
  obtain ⟨T43, h43, X43, e43, W43, st43⟩ := putF X41 hx hZ hown (host := "") (Or.inl (ww56 hw)) Via.refl e41 f42 f44 (Or.inl (ww57 hw)) (ww43 hw) (ty := .int) (by decide) rfl rfl (g := (mkF m 44 #[.val (.ref o0), .val (.long q1), .second] [(.int 1), (.ref o0)])) rfl rfl (hb hby d9_44)
  have F43 : Fld Z h43 o0 cn_0 "size" "I" (.int 1) := Fld.same W43 f42
  have N43 := Fr.snoc X43 N39 geo
  obtain ⟨lc43, X43, N43⟩ := own_gen X43 N43
  have O43 := O39.wr W43 geo
  have K43 : Keep h0 h43 [o0] := K39.wr W43 (Or.inl (List.mem_of_getElem? (i := 0) rfl))
  refine step st43 ?_
  show G T43 (mkF m 47 #[.val (.ref o0), .val (.long q1), .second] [])
  refine step (fun t k => XS.goto X43.here hx rfl (pc0 := 47) (pc' := 0) rfl (hb hby d9_47) (by decide) (by decide) k) ?_
  show G T43 (mkF m 0 #[.val (.ref o0), .val (.long q1), .second] [])
  refine step (fun t k => XS.aloadN X43.here hx rfl (hb hby d9_0) rfl rfl k) ?_
  show G T43 (mkF m 1 #[.val (.ref o0), .val (.long q1), .second] [(.ref o0)])
  obtain ⟨T45, X45, e45, st45⟩ := getF X43 hx hZ hown (host := "") (Or.inl (ww56 hw)) Via.refl e43 F43 (g := (mkF m 1 #[.val (.ref o0), .val (.long q1), .second] [(.ref o0)])) rfl rfl (hb hby d9_1)
  refine step st45 ?_
  show G T45 (mkF m 4 #[.val (.ref o0), .val (.long q1), .second] [(.int 1)])
  refine step (fun t k => XS.ifNo X45.here hx rfl (hb hby d9_4) rfl ((if0 _ _).trans (tlt (by decide : (0 : Int32) < (1 : Int32))).2.2.2) k) ?_
  show G T45 (mkF m 7 #[.val (.ref o0), .val (.long q1), .second] [])
  refine step (fun t k => XS.aloadN X45.here hx rfl (hb hby d9_7) rfl rfl k) ?_
  show G T45 (mkF m 8 #[.val (.ref o0), .val (.long q1), .second] [(.ref o0)])
  have f47 := (Fld.other W43 (Fld.other W39 f31 (Or.inr (slot_ne (Or.inl (ww50 hw)) (Or.inl (ww59 hw)) (by decide) (t := (.array .long)) (t' := .int) (by decide) (by decide)))) (Or.inr (slot_ne (Or.inl (ww50 hw)) (Or.inl (ww57 hw)) (by decide) (t := (.array .long)) (t' := .int) (by decide) (by decide))))
  obtain ⟨T46, X46, e46, st46⟩ := getF X45 hx hZ hown (host := "") (Or.inl (ww49 hw)) Via.refl e45 f47 (g := (mkF m 8 #[.val (.ref o0), .val (.long q1), .second] [(.ref o0)])) rfl rfl (hb hby d9_8)
  refine step st46 ?_
  show G T46 (mkF m 11 #[.val (.ref o0), .val (.long q1), .second] [(.ref ar)])
  refine step (fun t k => XS.aloadN X46.here hx rfl (hb hby d9_11) rfl rfl k) ?_
  show G T46 (mkF m 12 #[.val (.ref o0), .val (.long q1), .second] [(.ref o0), (.ref ar)])
  have f49 := (Fld.other W43 F39 (Or.inr (slot_ne (Or.inl (ww59 hw)) (Or.inl (ww57 hw)) (by decide) (t := .int) (t' := .int) (by decide) (by decide))))
  obtain ⟨T48, X48, e48, st48⟩ := getF X46 hx hZ hown (host := "") (Or.inl (ww58 hw)) Via.refl e46 f49 (g := (mkF m 12 #[.val (.ref o0), .val (.long q1), .second] [(.ref o0), (.ref ar)])) rfl rfl (hb hby d9_12)
  refine step st48 ?_
  show G T48 (mkF m 15 #[.val (.ref o0), .val (.long q1), .second] [(.int 3), (.ref ar)])
  have f50 := (Arv.other (Arv.other f34 W39 (Ne.symm ne_o0_ar)) W43 (Ne.symm ne_o0_ar))
  have q51 := own_ldJ X48 hx hZ e48 f50 (j := (3 : Int32)) (v := (.long x3)) (by decide) (own_at (i := 3) rfl rfl) (g := (mkF m 15 #[.val (.ref o0), .val (.long q1), .second] [(.int 3), (.ref ar)])) rfl rfl (hb hby d9_15)
  refine step q51 ?_
  show G T48 (mkF m 16 #[.val (.ref o0), .val (.long q1), .second] [(.long x3)])
  refine step (fun t k => XS.lloadN X48.here hx rfl (hb hby d9_16) rfl k) ?_
  show G T48 (mkF m 17 #[.val (.ref o0), .val (.long q1), .second] [(.long q1), (.long x3)])
  refine step (fun t k => XS.lcmp X48.here hx rfl (hb hby d9_17) rfl k) ?_
  show G T48 (mkF m 18 #[.val (.ref o0), .val (.long q1), .second] [(.int (lcmpW x3 q1))])
  refine step (fun t k => XS.ifNo X48.here hx rfl (hb hby d9_18) rfl ((if0 _ _).trans (flt (fun q => hp3 ((lw_gt _ _).mp q))).2.2.1) k) ?_
  show G T48 (mkF m 21 #[.val (.ref o0), .val (.long q1), .second] [])
  refine step (fun t k => XS.aloadN X48.here hx rfl (hb hby d9_21) rfl rfl k) ?_
  show G T48 (mkF m 22 #[.val (.ref o0), .val (.long q1), .second] [(.ref o0)])
  refine step (fun t k => XS.aloadN X48.here hx rfl (hb hby d9_22) rfl rfl k) ?_
  show G T48 (mkF m 23 #[.val (.ref o0), .val (.long q1), .second] [(.ref o0), (.ref o0)])
  obtain ⟨T52, X52, e52, st52⟩ := getF X48 hx hZ hown (host := "") (Or.inl (ww58 hw)) Via.refl e48 f49 (g := (mkF m 23 #[.val (.ref o0), .val (.long q1), .second] [(.ref o0), (.ref o0)])) rfl rfl (hb hby d9_23)
  refine step st52 ?_
  show G T52 (mkF m 26 #[.val (.ref o0), .val (.long q1), .second] [(.int 3), (.ref o0)])
  refine step (fun t k => XS.iconst X52.here hx rfl (hb hby d9_26) k) ?_
  show G T52 (mkF m 27 #[.val (.ref o0), .val (.long q1), .second] [(.int 1), (.int 3), (.ref o0)])
  refine step (fun t k => XS.iadd X52.here hx rfl (hb hby d9_27) rfl k) ?_
  show G T52 (mkF m 28 #[.val (.ref o0), .val (.long q1), .second] [(.int ((3 : Int32) + (1 : Int32))), (.ref o0)])
  rw [(by decide : ((3 : Int32) + (1 : Int32)) = (4 : Int32))]
  show G T52 (mkF m 28 #[.val (.ref o0), .val (.long q1), .second] [(.int 4), (.ref o0)])
  refine step (fun t k => XS.aloadN X52.here hx rfl (hb hby d9_28) rfl rfl k) ?_
  show G T52 (mkF m 29 #[.val (.ref o0), .val (.long q1), .second] [(.ref o0), (.int 4), (.ref o0)])
  obtain ⟨T53, X53, e53, st53⟩ := getF X52 hx hZ hown (host := "") (Or.inl (ww49 hw)) Via.refl e52 f47 (g := (mkF m 29 #[.val (.ref o0), .val (.long q1), .second] [(.ref o0), (.int 4), (.ref o0)])) rfl rfl (hb hby d9_29)
  refine step st53 ?_
  show G T53 (mkF m 32 #[.val (.ref o0), .val (.long q1), .second] [(.ref ar), (.int 4), (.ref o0)])
  have q54 := own_len X53 hx hZ e53 f50 (g := (mkF m 32 #[.val (.ref o0), .val (.long q1), .second] [(.ref ar), (.int 4), (.ref o0)])) rfl rfl (hb hby d9_32)
  refine step q54 ?_
  show G T53 (mkF m 33 #[.val (.ref o0), .val (.long q1), .second] [(.int 4), (.int 4), (.ref o0)])
  refine step (fun t k => iremM X53 hx rfl (hb hby d9_33) rfl (by decide) k) ?_
  show G T53 (mkF m 34 #[.val (.ref o0), .val (.long q1), .second] [(.int ((4 : Int32) % (4 : Int32))), (.ref o0)])
  rw [(by decide : ((4 : Int32) % (4 : Int32)) = (0 : Int32))]
  show G T53 (mkF m 34 #[.val (.ref o0), .val (.long q1), .second] [(.int 0), (.ref o0)])
  have f56 := (Exa.wr W43 f44)
  obtain ⟨T55, h55, X55, e55, W55, st55⟩ := putF X53 hx hZ hown (host := "") (Or.inl (ww58 hw)) Via.refl e53 f49 f56 (Or.inl (ww59 hw)) (ww43 hw) (ty := .int) (by decide) rfl rfl (g := (mkF m 34 #[.val (.ref o0), .val (.long q1), .second] [(.int 0), (.ref o0)])) rfl rfl (hb hby d9_34)
  have F55 : Fld Z h55 o0 cn_0 "head" "I" (.int 0) := Fld.same W55 f49
  have N55 := Fr.snoc X55 N43 geo
  obtain ⟨lc55, X55, N55⟩ := own_gen X55 N55
  have O55 := O43.wr W55 geo
  have K55 : Keep h0 h55 [o0] := K43.wr W55 (Or.inl (List.mem_of_getElem? (i := 0) rfl))
  refine step st55 ?_
  show G T55 (mkF m 37 #[.val (.ref o0), .val (.long q1), .second] [])
  refine step (fun t k => XS.aloadN X55.here hx rfl (hb hby d9_37) rfl rfl k) ?_
  show G T55 (mkF m 38 #[.val (.ref o0), .val (.long q1), .second] [(.ref o0)])
  refine step (fun t k => XS.dup X55.here hx rfl (hb hby d9_38) rfl rfl k) ?_
  show G T55 (mkF m 39 #[.val (.ref o0), .val (.long q1), .second] [(.ref o0), (.ref o0)])
  have f58 := (Fld.other W55 F43 (Or.inr (slot_ne (Or.inl (ww57 hw)) (Or.inl (ww59 hw)) (by decide) (t := .int) (t' := .int) (by decide) (by decide))))
  obtain ⟨T57, X57, e57, st57⟩ := getF X55 hx hZ hown (host := "") (Or.inl (ww56 hw)) Via.refl e55 f58 (g := (mkF m 39 #[.val (.ref o0), .val (.long q1), .second] [(.ref o0), (.ref o0)])) rfl rfl (hb hby d9_39)
  refine step st57 ?_
  show G T57 (mkF m 42 #[.val (.ref o0), .val (.long q1), .second] [(.int 1), (.ref o0)])
  refine step (fun t k => XS.iconst X57.here hx rfl (hb hby d9_42) k) ?_
  show G T57 (mkF m 43 #[.val (.ref o0), .val (.long q1), .second] [(.int 1), (.int 1), (.ref o0)])
  refine step (fun t k => XS.isub X57.here hx rfl (hb hby d9_43) rfl k) ?_
  show G T57 (mkF m 44 #[.val (.ref o0), .val (.long q1), .second] [(.int ((1 : Int32) - (1 : Int32))), (.ref o0)])
  rw [(by decide : ((1 : Int32) - (1 : Int32)) = (0 : Int32))]
  show G T57 (mkF m 44 #[.val (.ref o0), .val (.long q1), .second] [(.int 0), (.ref o0)])
  have f60 := (Exa.wr W55 f56)
  obtain ⟨T59, h59, X59, e59, W59, st59⟩ := putF X57 hx hZ hown (host := "") (Or.inl (ww56 hw)) Via.refl e57 f58 f60 (Or.inl (ww57 hw)) (ww43 hw) (ty := .int) (by decide) rfl rfl (g := (mkF m 44 #[.val (.ref o0), .val (.long q1), .second] [(.int 0), (.ref o0)])) rfl rfl (hb hby d9_44)
  have F59 : Fld Z h59 o0 cn_0 "size" "I" (.int 0) := Fld.same W59 f58
  have N59 := Fr.snoc X59 N55 geo
  obtain ⟨lc59, X59, N59⟩ := own_gen X59 N59
  have O59 := O55.wr W59 geo
  have K59 : Keep h0 h59 [o0] := K55.wr W59 (Or.inl (List.mem_of_getElem? (i := 0) rfl))
  refine step st59 ?_
  show G T59 (mkF m 47 #[.val (.ref o0), .val (.long q1), .second] [])
  refine step (fun t k => XS.goto X59.here hx rfl (pc0 := 47) (pc' := 0) rfl (hb hby d9_47) (by decide) (by decide) k) ?_
  show G T59 (mkF m 0 #[.val (.ref o0), .val (.long q1), .second] [])
  refine step (fun t k => XS.aloadN X59.here hx rfl (hb hby d9_0) rfl rfl k) ?_
  show G T59 (mkF m 1 #[.val (.ref o0), .val (.long q1), .second] [(.ref o0)])
  obtain ⟨T61, X61, e61, st61⟩ := getF X59 hx hZ hown (host := "") (Or.inl (ww56 hw)) Via.refl e59 F59 (g := (mkF m 1 #[.val (.ref o0), .val (.long q1), .second] [(.ref o0)])) rfl rfl (hb hby d9_1)
  refine step st61 ?_
  show G T61 (mkF m 4 #[.val (.ref o0), .val (.long q1), .second] [(.int 0)])
  refine step (fun t k => XS.ifYes X61.here hx rfl (pc0 := 4) (pc' := 50) rfl (hb hby d9_4) rfl ((if0 _ _).trans (flt (by decide : ¬ ((0 : Int32) < (0 : Int32)))).2.2.2) (by decide) (by decide) k) ?_
  show G T61 (mkF m 50 #[.val (.ref o0), .val (.long q1), .second] [])
  have f62 := (Exa.wr W59 f60)
  have f63 := (Fld.other W59 (Fld.other W55 f47 (Or.inr (slot_ne (Or.inl (ww50 hw)) (Or.inl (ww59 hw)) (by decide) (t := (.array .long)) (t' := .int) (by decide) (by decide)))) (Or.inr (slot_ne (Or.inl (ww50 hw)) (Or.inl (ww57 hw)) (by decide) (t := (.array .long)) (t' := .int) (by decide) (by decide))))
  have f64 := (Fld.other W59 F55 (Or.inr (slot_ne (Or.inl (ww59 hw)) (Or.inl (ww57 hw)) (by decide) (t := .int) (t' := .int) (by decide) (by decide))))
  exact ret (v := none) X61 (fun _ => rfl) (fun fs hr => X61.returnOut hx Bd.returns (hb hby d9_50) hr) e61 ⟨rfl, N59, K59, f62, f63, f64, F59⟩ (by decide) (by decide)
abbrev rr_cnt_4_0_4_4 : Room := { frames := 1, cells := 0, slots := 0, locals := 15 }
theorem ef_cnt_4_0_4_4 (m : MethodId) (o0 : Addr) (o1 : Addr) (q2 : Int64) : entryFrame m #[(.ref o0), (.ref o1), (.long q2)] 4 = mkF m 0 #[.val (.ref o0), .val (.ref o1), .val (.long q2), .second] [] := by first | (simp [entryFrame, mkF, argsToLocals, Value.category]; done) | rfl
def Q_cnt_4_0_4_4 (Z : State) (w_SLIDING : Addr) (w_CALENDAR : Addr) (w_SwitchMap_co : Addr) (o0 : Addr) (o1 : Addr) (q2 : Int64) (ar : Addr) (ka : ClassId) (x0 : Int64) (x1 : Int64) (x2 : Int64) (x3 : Int64) (mm : Int64) (h0 : Heap) (n0 : Nat) (v : Option Value) (h : Heap) (L : List Loc) : Prop := v = some (.int 0) ∧ Fr n0 L ∧ Keep h0 h [o0] ∧ Exa Z h o0 cn_0 ∧ Fld Z h o0 cn_0 "times" "[J" (.ref ar) ∧ Fld Z h o0 cn_0 "head" "I" (.int 0) ∧ Fld Z h o0 cn_0 "size" "I" (.int 0)
set_option maxRecDepth 65536 in
set_option maxHeartbeats 40000000 in
theorem rm_cnt_4_0_4_4 (l : Launch) (Z : State) (a0 : Array Value) (hw : ∀ d ∈ tables_1, d.before a0 Z = true) (ws : List Jvm.Cond) (w_SLIDING : Addr) (w_CALENDAR : Addr) (w_SwitchMap_co : Addr) (o0 : Addr) (o1 : Addr) (q2 : Int64) (ar : Addr) (ka : ClassId) (x0 : Int64) (x1 : Int64) (x2 : Int64) (x3 : Int64) (mm : Int64) (h0 : Heap) (n0 : Nat) (Z0 : n0 ≤ h0.size) (ST : own_St Z w_SLIDING w_CALENDAR w_SwitchMap_co) (O0 : Old Z n0 h0) (Ex : Exa Z h0 o0 cn_0) (geo : n0 ≤ o0) (Ft : Fld Z h0 o0 cn_0 "times" "[J" (.ref ar)) (gea : n0 ≤ ar) (Fh : Fld Z h0 o0 cn_0 "head" "I" (.int 0)) (Fs : Fld Z h0 o0 cn_0 "size" "I" (.int 4)) (Va : Arv Z h0 ar ka .long (4 : Int32) [(.long x0), (.long x1), (.long x2), (.long x3)] (.long 0)) (Ew : Exa Z h0 o1 cn_1) (Fwt : Fld Z h0 o1 cn_1 "type" cn_3 (.ref w_SLIDING)) (Fwm : Fld Z h0 o1 cn_1 "millis" "J" (.long mm)) (hp0 : ¬ ((q2 - mm) < x0)) (hp1 : ¬ ((q2 - mm) < x1)) (hp2 : ¬ ((q2 - mm) < x2)) (hp3 : ¬ ((q2 - mm) < x3)) :
    MetFree l y_11 (head1 (Jvm.Cond.code y_11 prog_2_method_2_code 4 (some .int) :: ws) rr_cnt_4_0_4_4) (fun a U => a = #[(.ref o0), (.ref o1), (.long q2)] ∧ Z.Warmed39 U.vm ∧ U.heap = h0) (fun _ _ _ _ _ => True) (fun _ U o U' => ∃ v L, o = .returned v ∧ Q_cnt_4_0_4_4 Z w_SLIDING w_CALENDAR w_SwitchMap_co o0 o1 q2 ar ka x0 x1 x2 x3 mm h0 n0 v U'.heap L ∧ FrameEnd U o U' L rr_cnt_4_0_4_4.cells rr_cnt_4_0_4_4.slots) := by
  refine MetFree.of_bodySF (plainFor_of_name pn_3) hisR ?_
  intro p e s m args below meth c s₁ Bd hml0 hP hK
  obtain ⟨rfl, hZ, hh⟩ := hP
  have hx := Bd.exec
  have hby := Bd.bytes
  have hml : c.maxLocals = 4 := hml0
  have hown : s.vm.findClass cn_0 = some m.cls := findClass_of_methodNamed Bd.named
  have hnm := (name_of_methodNamed Bd.named Bd.method).1
  have X0 : Stand p l e rr_cnt_4_0_4_4 s m #[(.ref o0), (.ref o1), (.long q2)] below meth c s₁ [] 0 0 := Stand.of_body Bd
  have e0 : s₁.heap = h0 := by rw [← hh, Bd.state]; rfl
  have N0 := Fr.nil n0
  have K0 : Keep h0 h0 [o0] := Keep.refl _ _
  obtain ⟨G, step, ret, fin⟩ := own_open (p := p) (l := l) (e := e) (R := rr_cnt_4_0_4_4) (s := s) (m := m) (args := #[(.ref o0), (.ref o1), (.long q2)]) (below := below) (meth := meth) (c := c) (rr_cnt_4_0_4_4.cells) (rr_cnt_4_0_4_4.slots) (Q_cnt_4_0_4_4 Z w_SLIDING w_CALENDAR w_SwitchMap_co o0 o1 q2 ar ka x0 x1 x2 x3 mm h0 n0) Bd.notSynchronized
  refine fin (g := entryFrame m #[(.ref o0), (.ref o1), (.long q2)] 4) ?_
  rw [ef_cnt_4_0_4_4 m o0 o1 q2]
  have ne_o0_o1 : o0 ≠ o1 := ne_exa Ex Ew (by decide)
  have ne_o0_ar : o0 ≠ ar := own_ne_arv Ex (ww43 hw) Va
  have ne_o1_ar : o1 ≠ ar := own_ne_arv Ew (ww7 hw) Va
  show G s₁ (mkF m 0 #[.val (.ref o0), .val (.ref o1), .val (.long q2), .second] [])
  obtain ⟨T1, X1, e1, st1⟩ := getS2 X0 hx hZ hown (host := "") (Or.inl (ww65 hw)) Via.refl e0 (Sta.ext O0.2 ST.k6) (g := (mkF m 0 #[.val (.ref o0), .val (.ref o1), .val (.long q2), .second] [])) rfl (hb hby d10_0)
  refine step st1 ?_
  show G T1 (mkF m 3 #[.val (.ref o0), .val (.ref o1), .val (.long q2), .second] [(.ref w_SwitchMap_co)])
  refine step (fun t k => XS.aloadN X1.here hx rfl (hb hby d10_3) rfl rfl k) ?_
  show G T1 (mkF m 4 #[.val (.ref o0), .val (.ref o1), .val (.long q2), .second] [(.ref o1), (.ref w_SwitchMap_co)])
  have hK2 := (backOf (R := rr_cnt_4_0_4_4) (p := p) (e := e) (below := below) (s := s) (args := #[(.ref o0), (.ref o1), (.long q2)]) (len := 3) (W := 1) (rm_ty l Z a0 hw [] w_SLIDING w_CALENDAR w_SwitchMap_co o1 w_SLIDING h0 n0 (own_old_le O0) ST O0 Fwt) hZ (ww72 hw) (ww4 hw) (by decide) (by decide))
  obtain ⟨cq2, kq2, q2a, q2b, q2c⟩ := isOf hZ e1 Ew
  obtain ⟨_, _, ⟨T2, L2, k2, n2⟩, -, X2, ⟨Lc2, hQ2, l2, y2, z2⟩, st2⟩ := X1.virtualBack hx (y := y_5) (z := y_5) hown (mvT hZ (ww68 hw)) (mvT hZ (ww69 hw)) (notFace_of_selects (args := #[]) (mvT hZ (ww71 hw))) (mvT hZ (ww71 hw)) (mvT hZ (ww70 hw)) (by decide) hK2 q2a q2c (g := (mkF m 4 #[.val (.ref o0), .val (.ref o1), .val (.long q2), .second] [(.ref o1), (.ref w_SwitchMap_co)])) rfl (by rw [hml]; rfl) (Steps.refl _) (argsL := []) (rest := [(.ref w_SwitchMap_co)]) (lenOf pd_5 rfl) rfl (by show 2 * 0 + _ ≤ _; exact Nat.le_of_eq rfl) (hb hby d10_4) (fun _ _ => ⟨rfl, e1, (by decide : 0 + 0 ≤ _), (by decide : 0 + 0 ≤ _)⟩)
  dsimp only [Pt.U, Pt.locs, Pt.cells, Pt.slots] at X2 l2 y2 z2 st2 hQ2
  subst l2 y2 z2
  obtain ⟨rfl, N2q, e2⟩ := hQ2
  have N2 := Fr.app N0 N2q
  obtain ⟨lc2, X2, N2⟩ := own_gen X2 N2
  refine step (fun t k => st2.trans k) ?_
  show G T2 (mkF m 7 #[.val (.ref o0), .val (.ref o1), .val (.long q2), .second] [(.ref (f_ty w_SLIDING w_CALENDAR w_SwitchMap_co o1 w_SLIDING)), (.ref w_SwitchMap_co)])
  have r3 : (f_ty w_SLIDING w_CALENDAR w_SwitchMap_co o1 w_SLIDING) = w_SLIDING := rfl
  rw [r3]
  show G T2 (mkF m 7 #[.val (.ref o0), .val (.ref o1), .val (.long q2), .second] [(.ref w_SLIDING), (.ref w_SwitchMap_co)])
  have hK4 := (backOf (R := rr_cnt_4_0_4_4) (p := p) (e := e) (below := below) (s := s) (args := #[(.ref o0), (.ref o1), (.long q2)]) (len := 3) (W := 1) (rm_od l Z a0 hw [] w_SLIDING w_CALENDAR w_SwitchMap_co w_SLIDING (0 : Int32) h0 n0 (own_old_le O0) ST O0 (Fld.ext O0.2 ST.k4)) hZ (ww79 hw) (ww78 hw) (by decide) (by decide))
  obtain ⟨cq4, kq4, q4a, q4b, q4c⟩ := isOf hZ e2 (Exa.ext O0.2 ST.k1)
  obtain ⟨_, _, ⟨T4, L4, k4, n4⟩, -, X4, ⟨Lc4, hQ4, l4, y4, z4⟩, st4⟩ := X2.virtualBackUp hx (x := y_10) (y := y_7) (owner := cn_7) hown (mvT hZ (ww73 hw)) (mvT hZ (ww74 hw)) (mvT hZ (ww75 hw)) (by decide) (mvT hZ (ww77 hw)) (mvT hZ (ww76 hw)) hK4 q4a q4c (g := (mkF m 7 #[.val (.ref o0), .val (.ref o1), .val (.long q2), .second] [(.ref w_SLIDING), (.ref w_SwitchMap_co)])) rfl (by rw [hml]; rfl) (Steps.refl _) (argsL := []) (rest := [(.ref w_SwitchMap_co)]) (lenOf pd_6 rfl) rfl (by show 2 * 0 + _ ≤ _; exact Nat.le_of_eq rfl) (hb hby d10_7) (fun _ _ => ⟨rfl, e2, (by decide : 0 + 0 ≤ _), (by decide : 0 + 0 ≤ _)⟩)
  dsimp only [Pt.U, Pt.locs, Pt.cells, Pt.slots] at X4 l4 y4 z4 st4 hQ4
  subst l4 y4 z4
  obtain ⟨rfl, N4q, e4⟩ := hQ4
  have N4 := Fr.app N2 N4q
  obtain ⟨lc4, X4, N4⟩ := own_gen X4 N4
  refine step (fun t k => st4.trans k) ?_
  show G T4 (mkF m 10 #[.val (.ref o0), .val (.ref o1), .val (.long q2), .second] [(.int (f_od w_SLIDING w_CALENDAR w_SwitchMap_co w_SLIDING (0 : Int32))), (.ref w_SwitchMap_co)])
  have r5 : (f_od w_SLIDING w_CALENDAR w_SwitchMap_co w_SLIDING (0 : Int32)) = (0 : Int32) := rfl
  rw [r5]
  show G T4 (mkF m 10 #[.val (.ref o0), .val (.ref o1), .val (.long q2), .second] [(.int 0), (.ref w_SwitchMap_co)])
  obtain ⟨kw6, Vw6⟩ := ST.k7
  have q7 := own_ldI X4 hx hZ e4 (Arv.ext Vw6 O0.2) (j := (0 : Int32)) (v := (.int 1)) (by decide) (own_at (i := 0) rfl rfl) (g := (mkF m 10 #[.val (.ref o0), .val (.ref o1), .val (.long q2), .second] [(.int 0), (.ref w_SwitchMap_co)])) rfl rfl (hb hby d10_10)
  refine step q7 ?_
  show G T4 (mkF m 11 #[.val (.ref o0), .val (.ref o1), .val (.long q2), .second] [(.int 1)])
  refine step (fun t k => XS.tswIn X4.here hx rfl (pc0 := 11) (pc' := 36) rfl (hb hby d10_11) rfl (by decide) rfl (by decide) (by decide) k) ?_
  show G T4 (mkF m 36 #[.val (.ref o0), .val (.ref o1), .val (.long q2), .second] [])
  refine step (fun t k => XS.aloadN X4.here hx rfl (hb hby d10_36) rfl rfl k) ?_
  show G T4 (mkF m 37 #[.val (.ref o0), .val (.ref o1), .val (.long q2), .second] [(.ref o0)])
  refine step (fun t k => XS.lloadN X4.here hx rfl (hb hby d10_37) rfl k) ?_
  show G T4 (mkF m 38 #[.val (.ref o0), .val (.ref o1), .val (.long q2), .second] [(.long q2), (.ref o0)])
  refine step (fun t k => XS.aloadN X4.here hx rfl (hb hby d10_38) rfl rfl k) ?_
  show G T4 (mkF m 39 #[.val (.ref o0), .val (.ref o1), .val (.long q2), .second] [(.ref o1), (.long q2), (.ref o0)])
  have hK8 := (backOf (R := rr_cnt_4_0_4_4) (p := p) (e := e) (below := below) (s := s) (args := #[(.ref o0), (.ref o1), (.long q2)]) (len := 3) (W := 3) (rm_mi l Z a0 hw [] w_SLIDING w_CALENDAR w_SwitchMap_co o1 mm h0 n0 (own_old_le O0) ST O0 Fwm) hZ (ww86 hw) (ww4 hw) (by decide) (by decide))
  obtain ⟨cq8, kq8, q8a, q8b, q8c⟩ := isOf hZ e4 Ew
  obtain ⟨_, _, ⟨T8, L8, k8, n8⟩, -, X8, ⟨Lc8, hQ8, l8, y8, z8⟩, st8⟩ := X4.virtualBack hx (y := y_6) (z := y_6) hown (mvT hZ (ww82 hw)) (mvT hZ (ww83 hw)) (notFace_of_selects (args := #[]) (mvT hZ (ww85 hw))) (mvT hZ (ww85 hw)) (mvT hZ (ww84 hw)) (by decide) hK8 q8a q8c (g := (mkF m 39 #[.val (.ref o0), .val (.ref o1), .val (.long q2), .second] [(.ref o1), (.long q2), (.ref o0)])) rfl (by rw [hml]; rfl) (Steps.refl _) (argsL := []) (rest := [(.long q2), (.ref o0)]) (lenOf pd_7 rfl) rfl (by show 2 * 0 + _ ≤ _; exact Nat.le_of_eq rfl) (hb hby d10_39) (fun _ _ => ⟨rfl, e4, (by decide : 0 + 0 ≤ _), (by decide : 0 + 0 ≤ _)⟩)
  dsimp only [Pt.U, Pt.locs, Pt.cells, Pt.slots] at X8 l8 y8 z8 st8 hQ8
  subst l8 y8 z8
  obtain ⟨rfl, N8q, e8⟩ := hQ8
  have N8 := Fr.app N4 N8q
  obtain ⟨lc8, X8, N8⟩ := own_gen X8 N8
  refine step (fun t k => st8.trans k) ?_
  show G T8 (mkF m 42 #[.val (.ref o0), .val (.ref o1), .val (.long q2), .second] [(.long (f_mi w_SLIDING w_CALENDAR w_SwitchMap_co o1 mm)), (.long q2), (.ref o0)])
  have r9 : (f_mi w_SLIDING w_CALENDAR w_SwitchMap_co o1 mm) = mm := rfl
  rw [r9]
  show G T8 (mkF m 42 #[.val (.ref o0), .val (.ref o1), .val (.long q2), .second] [(.long mm), (.long q2), (.ref o0)])
  refine step (fun t k => XS.lsub X8.here hx rfl (hb hby d10_42) rfl k) ?_
  show G T8 (mkF m 43 #[.val (.ref o0), .val (.ref o1), .val (.long q2), .second] [(.long (q2 - mm)), (.ref o0)])
  have hK10 := (backOf (R := rr_cnt_4_0_4_4) (p := p) (e := e) (below := below) (s := s) (args := #[(.ref o0), (.ref o1), (.long q2)]) (len := 3) (W := 0) (rm_for_4_0_4_4 l Z a0 hw [] w_SLIDING w_CALENDAR w_SwitchMap_co o0 (q2 - mm) ar ka x0 x1 x2 x3 h0 n0 (own_old_le O0) ST O0 Ex geo Ft gea Fh Fs Va (hp0 : ¬ ((q2 - mm) < x0)) (hp1 : ¬ ((q2 - mm) < x1)) (hp2 : ¬ ((q2 - mm) < x2)) (hp3 : ¬ ((q2 - mm) < x3))) hZ (ww90 hw) (ww44 hw) (by decide) (by decide))
  obtain ⟨cq10, q10, q10'⟩ := (Ex).cell
  obtain ⟨_, _, ⟨T10, L10, k10, n10⟩, -, X10, ⟨Lc10, hQ10, l10, y10, z10⟩, st10⟩ := X8.privateBack hx (y := y_9) hown (mvT hZ (ww87 hw)) (mvT hZ (ww88 hw)) (own_selpriv hZ (ww89 hw) (ww88 hw) (ww43 hw) (by decide)) (Cond.privateMethod_at (mvP hZ (ww89 hw) (args := #[]))) (mvT hZ (ww90 hw)) (by decide) hK10 (g := (mkF m 43 #[.val (.ref o0), .val (.ref o1), .val (.long q2), .second] [(.long (q2 - mm)), (.ref o0)])) rfl (by rw [hml]; rfl) (Steps.refl _) (a := o0) (by rw [e8]; exact q10) q10' (argsL := [(.long (q2 - mm))]) (rest := []) (lenOf pd_4 rfl) rfl (by show 2 * 0 + _ ≤ _; exact Nat.le_of_eq rfl) (hb hby d10_43) (fun _ _ => ⟨rfl, e8, (by decide : 0 + 0 ≤ _), (by decide : 0 + 0 ≤ _)⟩)
  dsimp only [Pt.U, Pt.locs, Pt.cells, Pt.slots] at X10 l10 y10 z10 st10 hQ10
  subst l10 y10 z10
  obtain ⟨rfl, N10q, K10q, Y10_0, Y10_1, Y10_2, Y10_3⟩ := hQ10
  have N10 := Fr.app N8 N10q
  obtain ⟨lc10, X10, N10⟩ := own_gen X10 N10
  have O10 := O0.keep K10q (allS geo all0)
  have K10 : Keep h0 T10.heap [o0] := K0.trans K10q (allS (Or.inl (List.mem_of_getElem? (i := 0) rfl)) all0)
  refine step (fun t k => st10.trans k) ?_
  show G T10 (mkF m 46 #[.val (.ref o0), .val (.ref o1), .val (.long q2), .second] [])
  refine step (fun t k => XS.goto X10.here hx rfl (pc0 := 46) (pc' := 132) rfl (hb hby d10_46) (by decide) (by decide) k) ?_
  show G T10 (mkF m 132 #[.val (.ref o0), .val (.ref o1), .val (.long q2), .second] [])
  refine step (fun t k => XS.aloadN X10.here hx rfl (hb hby d10_132) rfl rfl k) ?_
  show G T10 (mkF m 133 #[.val (.ref o0), .val (.ref o1), .val (.long q2), .second] [(.ref o0)])
  obtain ⟨T11, X11, e11, st11⟩ := getF X10 hx hZ hown (host := "") (Or.inl (ww56 hw)) Via.refl rfl Y10_3 (g := (mkF m 133 #[.val (.ref o0), .val (.ref o1), .val (.long q2), .second] [(.ref o0)])) rfl rfl (hb hby d10_133)
  refine step st11 ?_
  show G T11 (mkF m 136 #[.val (.ref o0), .val (.ref o1), .val (.long q2), .second] [(.int 0)])
  exact ret (v := some (.int 0)) X11 (fun h => by rw [Bd.returns] at h; cases h) (fun fs hr => retI X11 hx Bd.returns (hb hby d10_136) hr) e11 ⟨rfl, N10, K10, Y10_0, Y10_1, Y10_2, Y10_3⟩ (by decide) (by decide)
abbrev y_13 : MethodName := ⟨cn_4, "law", "(JIIII)Z"⟩
theorem pn_5 : plainName cn_4 = true := by first | (simp [plainName, overriddenIn]; done) | decide +kernel
theorem ef_law (m : MethodId) (q0 : Int64) (p1 : Int32) (p2 : Int32) (p3 : Int32) (p4 : Int32) : entryFrame m #[(.long q0), (.int p1), (.int p2), (.int p3), (.int p4)] maxLocals = mkF m 0 #[.val (.long q0), .second, .val (.int p1), .val (.int p2), .val (.int p3), .val (.int p4), .unset, .unset, .unset, .unset, .unset, .unset, .unset, .unset, .unset, .unset, .unset, .unset, .unset, .unset, .unset, .unset, .unset, .unset, .unset, .unset, .unset, .unset, .unset, .unset, .unset] [] := by first | (simp [entryFrame, mkF, argsToLocals, Value.category, maxLocals]; done) | rfl
def Q_law (Z : State) (w_SLIDING : Addr) (w_CALENDAR : Addr) (w_SwitchMap_co : Addr) (q0 : Int64) (p1 : Int32) (p2 : Int32) (p3 : Int32) (p4 : Int32) (h0 : Heap) (n0 : Nat) (v : Option Value) (h : Heap) (L : List Loc) : Prop := v = some (.int 1) ∧ Fr n0 L
set_option maxRecDepth 65536 in
set_option maxHeartbeats 40000000 in
theorem rm_law (l : Launch) (Z : State) (a0 : Array Value) (hw : ∀ d ∈ tables_1, d.before a0 Z = true) (ws : List Jvm.Cond) (w_SLIDING : Addr) (w_CALENDAR : Addr) (w_SwitchMap_co : Addr) (q0 : Int64) (p1 : Int32) (p2 : Int32) (p3 : Int32) (p4 : Int32) (h0 : Heap) (n0 : Nat) (Z0 : n0 ≤ h0.size) (ST : own_St Z w_SLIDING w_CALENDAR w_SwitchMap_co) (O0 : Old Z n0 h0) :
    MetFree l x (head1 (Jvm.Cond.code x code maxLocals ret :: ws) room_1) (fun a U => a = #[(.long q0), (.int p1), (.int p2), (.int p3), (.int p4)] ∧ Z.Warmed39 U.vm ∧ U.heap = h0) (fun _ _ _ _ _ => True) (fun _ U o U' => ∃ v L, o = .returned v ∧ Q_law Z w_SLIDING w_CALENDAR w_SwitchMap_co q0 p1 p2 p3 p4 h0 n0 v U'.heap L ∧ ReturnedEndW U o U' L 7 44) := by
  refine MetFree.of_bodySF (plainFor_of_name pn_5) hisR ?_
  intro p e s m args below meth c s₁ Bd hml0 hP hK
  obtain ⟨rfl, hZ, hh⟩ := hP
  have hx := Bd.exec
  have hby := Bd.bytes
  have hml : c.maxLocals = 31 := hml0
  have hown : s.vm.findClass cn_4 = some m.cls := findClass_of_methodNamed Bd.named
  have hnm := (name_of_methodNamed Bd.named Bd.method).1
  have X0 : Stand p l e room_1 (s.setVm s.vm) m #[(.long q0), (.int p1), (.int p2), (.int p3), (.int p4)] below meth c s₁ [] 0 0 := Stand.of_body Bd
  have e0 : s₁.heap = h0 := by rw [← hh, Bd.state]; rfl
  have N0 := Fr.nil n0
  replace hZ : Z.Warmed39 (s.setVm s.vm).vm := hZ
  replace hown : (s.setVm s.vm).vm.findClass cn_4 = some m.cls := hown
  have hS : s.Since s.vm h0.size := (State.WarmedH.refl s).since _
  have hk0 : h0.size ≤ h0.size := Nat.le_refl _
  obtain ⟨G, step, ret, fin⟩ := own_openW (p := p) (l := l) (e := e) (R := room_1) (s := s) (m := m) (args := #[(.long q0), (.int p1), (.int p2), (.int p3), (.int p4)]) (below := below) (meth := meth) (c := c) (7) (44) (Q_law Z w_SLIDING w_CALENDAR w_SwitchMap_co q0 p1 p2 p3 p4 h0 n0) Bd.notSynchronized
  refine fin (g := entryFrame m #[(.long q0), (.int p1), (.int p2), (.int p3), (.int p4)] maxLocals) ?_
  rw [ef_law m q0 p1 p2 p3 p4]
  obtain ⟨ls0, hls0⟩  := own_sl #[.val (.long q0), .second, .val (.int p1), .val (.int p2), .val (.int p3), .val (.int p4), .unset, .unset, .unset, .unset, .unset, .unset, .unset, .unset, .unset, .unset, .unset, .unset, .unset, .unset, .unset, .unset, .unset, .unset, .unset, .unset, .unset, .unset, .unset, .unset, .unset]
  suffices hG0 : G s₁ (mkF m 0 ls0 []) by rw [hls0] at hG0; exact hG0
  show G s₁ (mkF m 0 ls0 [])
  refine step (fun t k => XS.lloadN X0.here hx rfl (hb hby at_0) (by rw [hls0]; rfl) k) ?_
  show G s₁ (mkF m 1 ls0 [(.long q0)])
  refine step (fun t k => XS.iconst X0.here hx rfl (hb hby at_1) k) ?_
  show G s₁ (mkF m 2 ls0 [(.int 1), (.long q0)])
  refine step (fun t k => XS.lshr X0.here hx rfl (hb hby at_2) rfl k) ?_
  show G s₁ (mkF m 3 ls0 [(.long (q0 >>> ((1 : Int32) &&& 0x3f).toInt64))])
  obtain ⟨ls1, hls1⟩  := own_sl #[.val (.long q0), .second, .val (.int p1), .val (.int p2), .val (.int p3), .val (.int p4), .val (.long (q0 >>> ((1 : Int32) &&& 0x3f).toInt64)), .second, .unset, .unset, .unset, .unset, .unset, .unset, .unset, .unset, .unset, .unset, .unset, .unset, .unset, .unset, .unset, .unset, .unset, .unset, .unset, .unset, .unset, .unset, .unset]
  refine step (fun t k => XS.lstore X0.here hx rfl (hb hby at_3) rfl (l' := ls1) (by rw [hls0, hls1]; rfl) k) ?_
  show G s₁ (mkF m 5 ls1 [])
  obtain ⟨A0, hA0⟩ : ∃ z : Int64, z = (q0 >>> ((1 : Int32) &&& 0x3f).toInt64) := ⟨_, rfl⟩
  obtain ⟨ls2, hls2⟩  := own_sl #[.val (.long q0), .second, .val (.int p1), .val (.int p2), .val (.int p3), .val (.int p4), .val (.long A0), .second, .unset, .unset, .unset, .unset, .unset, .unset, .unset, .unset, .unset, .unset, .unset, .unset, .unset, .unset, .unset, .unset, .unset, .unset, .unset, .unset, .unset, .unset, .unset]
  rw [show ls1 = ls2 from by rw [hls1, hls2, hA0]]
  show G s₁ (mkF m 5 ls2 [])
  refine step (fun t k => XS.lload X0.here hx rfl (hb hby at_5) (by rw [hls2]; rfl) k) ?_
  show G s₁ (mkF m 7 ls2 [(.long A0)])
  refine step (fun t k => XS.iloadN X0.here hx rfl (hb hby at_7) (by rw [hls2]; rfl) k) ?_
  show G s₁ (mkF m 8 ls2 [(.int p1), (.long A0)])
  refine step (fun t k => XS.bipush X0.here hx rfl (hb hby at_8) k) ?_
  show G s₁ (mkF m 10 ls2 [(.int 7), (.int p1), (.long A0)])
  refine step (fun t k => XS.iand X0.here hx rfl (hb hby at_10) rfl k) ?_
  show G s₁ (mkF m 11 ls2 [(.int (p1 &&& (7 : Int32))), (.long A0)])
  refine step (fun t k => XS.i2l X0.here hx rfl (hb hby at_11) rfl k) ?_
  show G s₁ (mkF m 12 ls2 [(.long ((p1 &&& (7 : Int32)).toInt64)), (.long A0)])
  refine step (fun t k => XS.ladd X0.here hx rfl (hb hby at_12) rfl k) ?_
  show G s₁ (mkF m 13 ls2 [(.long (A0 + ((p1 &&& (7 : Int32)).toInt64)))])
  obtain ⟨ls3, hls3⟩  := own_sl #[.val (.long q0), .second, .val (.int p1), .val (.int p2), .val (.int p3), .val (.int p4), .val (.long A0), .second, .val (.long (A0 + ((p1 &&& (7 : Int32)).toInt64))), .second, .unset, .unset, .unset, .unset, .unset, .unset, .unset, .unset, .unset, .unset, .unset, .unset, .unset, .unset, .unset, .unset, .unset, .unset, .unset, .unset, .unset]
  refine step (fun t k => XS.lstore X0.here hx rfl (hb hby at_13) rfl (l' := ls3) (by rw [hls2, hls3]; rfl) k) ?_
  show G s₁ (mkF m 15 ls3 [])
  obtain ⟨A1, hA1⟩ : ∃ z : Int64, z = (A0 + ((p1 &&& (7 : Int32)).toInt64)) := ⟨_, rfl⟩
  obtain ⟨ls4, hls4⟩  := own_sl #[.val (.long q0), .second, .val (.int p1), .val (.int p2), .val (.int p3), .val (.int p4), .val (.long A0), .second, .val (.long A1), .second, .unset, .unset, .unset, .unset, .unset, .unset, .unset, .unset, .unset, .unset, .unset, .unset, .unset, .unset, .unset, .unset, .unset, .unset, .unset, .unset, .unset]
  rw [show ls3 = ls4 from by rw [hls3, hls4, hA1]]
  show G s₁ (mkF m 15 ls4 [])
  refine step (fun t k => XS.lload X0.here hx rfl (hb hby at_15) (by rw [hls4]; rfl) k) ?_
  show G s₁ (mkF m 17 ls4 [(.long A1)])
  refine step (fun t k => XS.iloadN X0.here hx rfl (hb hby at_17) (by rw [hls4]; rfl) k) ?_
  show G s₁ (mkF m 18 ls4 [(.int p1), (.long A1)])
  refine step (fun t k => XS.iconst X0.here hx rfl (hb hby at_18) k) ?_
  show G s₁ (mkF m 19 ls4 [(.int 3), (.int p1), (.long A1)])
  refine step (fun t k => XS.iushr X0.here hx rfl (hb hby at_19) rfl k) ?_
  show G s₁ (mkF m 20 ls4 [(.int ((p1.toUInt32 >>> ((3 : Int32) &&& 31).toUInt32).toInt32)), (.long A1)])
  refine step (fun t k => XS.bipush X0.here hx rfl (hb hby at_20) k) ?_
  show G s₁ (mkF m 22 ls4 [(.int 7), (.int ((p1.toUInt32 >>> ((3 : Int32) &&& 31).toUInt32).toInt32)), (.long A1)])
  refine step (fun t k => XS.iand X0.here hx rfl (hb hby at_22) rfl k) ?_
  show G s₁ (mkF m 23 ls4 [(.int (((p1.toUInt32 >>> ((3 : Int32) &&& 31).toUInt32).toInt32) &&& (7 : Int32))), (.long A1)])
  refine step (fun t k => XS.i2l X0.here hx rfl (hb hby at_23) rfl k) ?_
  show G s₁ (mkF m 24 ls4 [(.long ((((p1.toUInt32 >>> ((3 : Int32) &&& 31).toUInt32).toInt32) &&& (7 : Int32)).toInt64)), (.long A1)])
  refine step (fun t k => XS.ladd X0.here hx rfl (hb hby at_24) rfl k) ?_
  show G s₁ (mkF m 25 ls4 [(.long (A1 + ((((p1.toUInt32 >>> ((3 : Int32) &&& 31).toUInt32).toInt32) &&& (7 : Int32)).toInt64)))])
  obtain ⟨ls5, hls5⟩  := own_sl #[.val (.long q0), .second, .val (.int p1), .val (.int p2), .val (.int p3), .val (.int p4), .val (.long A0), .second, .val (.long A1), .second, .val (.long (A1 + ((((p1.toUInt32 >>> ((3 : Int32) &&& 31).toUInt32).toInt32) &&& (7 : Int32)).toInt64))), .second, .unset, .unset, .unset, .unset, .unset, .unset, .unset, .unset, .unset, .unset, .unset, .unset, .unset, .unset, .unset, .unset, .unset, .unset, .unset]
  refine step (fun t k => XS.lstore X0.here hx rfl (hb hby at_25) rfl (l' := ls5) (by rw [hls4, hls5]; rfl) k) ?_
  show G s₁ (mkF m 27 ls5 [])
  obtain ⟨A2, hA2⟩ : ∃ z : Int64, z = (A1 + ((((p1.toUInt32 >>> ((3 : Int32) &&& 31).toUInt32).toInt32) &&& (7 : Int32)).toInt64)) := ⟨_, rfl⟩
  obtain ⟨ls6, hls6⟩  := own_sl #[.val (.long q0), .second, .val (.int p1), .val (.int p2), .val (.int p3), .val (.int p4), .val (.long A0), .second, .val (.long A1), .second, .val (.long A2), .second, .unset, .unset, .unset, .unset, .unset, .unset, .unset, .unset, .unset, .unset, .unset, .unset, .unset, .unset, .unset, .unset, .unset, .unset, .unset]
  rw [show ls5 = ls6 from by rw [hls5, hls6, hA2]]
  show G s₁ (mkF m 27 ls6 [])
  refine step (fun t k => XS.lload X0.here hx rfl (hb hby at_27) (by rw [hls6]; rfl) k) ?_
  show G s₁ (mkF m 29 ls6 [(.long A2)])
  refine step (fun t k => XS.iloadN X0.here hx rfl (hb hby at_29) (by rw [hls6]; rfl) k) ?_
  show G s₁ (mkF m 30 ls6 [(.int p1), (.long A2)])
  refine step (fun t k => XS.bipush X0.here hx rfl (hb hby at_30) k) ?_
  show G s₁ (mkF m 32 ls6 [(.int 6), (.int p1), (.long A2)])
  refine step (fun t k => XS.iushr X0.here hx rfl (hb hby at_32) rfl k) ?_
  show G s₁ (mkF m 33 ls6 [(.int ((p1.toUInt32 >>> ((6 : Int32) &&& 31).toUInt32).toInt32)), (.long A2)])
  refine step (fun t k => XS.bipush X0.here hx rfl (hb hby at_33) k) ?_
  show G s₁ (mkF m 35 ls6 [(.int 7), (.int ((p1.toUInt32 >>> ((6 : Int32) &&& 31).toUInt32).toInt32)), (.long A2)])
  refine step (fun t k => XS.iand X0.here hx rfl (hb hby at_35) rfl k) ?_
  show G s₁ (mkF m 36 ls6 [(.int (((p1.toUInt32 >>> ((6 : Int32) &&& 31).toUInt32).toInt32) &&& (7 : Int32))), (.long A2)])
  refine step (fun t k => XS.i2l X0.here hx rfl (hb hby at_36) rfl k) ?_
  show G s₁ (mkF m 37 ls6 [(.long ((((p1.toUInt32 >>> ((6 : Int32) &&& 31).toUInt32).toInt32) &&& (7 : Int32)).toInt64)), (.long A2)])
  refine step (fun t k => XS.ladd X0.here hx rfl (hb hby at_37) rfl k) ?_
  show G s₁ (mkF m 38 ls6 [(.long (A2 + ((((p1.toUInt32 >>> ((6 : Int32) &&& 31).toUInt32).toInt32) &&& (7 : Int32)).toInt64)))])
  obtain ⟨ls7, hls7⟩  := own_sl #[.val (.long q0), .second, .val (.int p1), .val (.int p2), .val (.int p3), .val (.int p4), .val (.long A0), .second, .val (.long A1), .second, .val (.long A2), .second, .val (.long (A2 + ((((p1.toUInt32 >>> ((6 : Int32) &&& 31).toUInt32).toInt32) &&& (7 : Int32)).toInt64))), .second, .unset, .unset, .unset, .unset, .unset, .unset, .unset, .unset, .unset, .unset, .unset, .unset, .unset, .unset, .unset, .unset, .unset]
  refine step (fun t k => XS.lstore X0.here hx rfl (hb hby at_38) rfl (l' := ls7) (by rw [hls6, hls7]; rfl) k) ?_
  show G s₁ (mkF m 40 ls7 [])
  obtain ⟨A3, hA3⟩ : ∃ z : Int64, z = (A2 + ((((p1.toUInt32 >>> ((6 : Int32) &&& 31).toUInt32).toInt32) &&& (7 : Int32)).toInt64)) := ⟨_, rfl⟩
  obtain ⟨ls8, hls8⟩  := own_sl #[.val (.long q0), .second, .val (.int p1), .val (.int p2), .val (.int p3), .val (.int p4), .val (.long A0), .second, .val (.long A1), .second, .val (.long A2), .second, .val (.long A3), .second, .unset, .unset, .unset, .unset, .unset, .unset, .unset, .unset, .unset, .unset, .unset, .unset, .unset, .unset, .unset, .unset, .unset]
  rw [show ls7 = ls8 from by rw [hls7, hls8, hA3]]
  show G s₁ (mkF m 40 ls8 [])
  refine step (fun t k => XS.lload X0.here hx rfl (hb hby at_40) (by rw [hls8]; rfl) k) ?_
  show G s₁ (mkF m 42 ls8 [(.long A3)])
  refine step (fun t k => XS.iloadN X0.here hx rfl (hb hby at_42) (by rw [hls8]; rfl) k) ?_
  show G s₁ (mkF m 43 ls8 [(.int p1), (.long A3)])
  refine step (fun t k => XS.bipush X0.here hx rfl (hb hby at_43) k) ?_
  show G s₁ (mkF m 45 ls8 [(.int 9), (.int p1), (.long A3)])
  refine step (fun t k => XS.iushr X0.here hx rfl (hb hby at_45) rfl k) ?_
  show G s₁ (mkF m 46 ls8 [(.int ((p1.toUInt32 >>> ((9 : Int32) &&& 31).toUInt32).toInt32)), (.long A3)])
  refine step (fun t k => XS.bipush X0.here hx rfl (hb hby at_46) k) ?_
  show G s₁ (mkF m 48 ls8 [(.int 7), (.int ((p1.toUInt32 >>> ((9 : Int32) &&& 31).toUInt32).toInt32)), (.long A3)])
  refine step (fun t k => XS.iand X0.here hx rfl (hb hby at_48) rfl k) ?_
  show G s₁ (mkF m 49 ls8 [(.int (((p1.toUInt32 >>> ((9 : Int32) &&& 31).toUInt32).toInt32) &&& (7 : Int32))), (.long A3)])
  refine step (fun t k => XS.i2l X0.here hx rfl (hb hby at_49) rfl k) ?_
  show G s₁ (mkF m 50 ls8 [(.long ((((p1.toUInt32 >>> ((9 : Int32) &&& 31).toUInt32).toInt32) &&& (7 : Int32)).toInt64)), (.long A3)])
  refine step (fun t k => XS.ladd X0.here hx rfl (hb hby at_50) rfl k) ?_
  show G s₁ (mkF m 51 ls8 [(.long (A3 + ((((p1.toUInt32 >>> ((9 : Int32) &&& 31).toUInt32).toInt32) &&& (7 : Int32)).toInt64)))])
  obtain ⟨ls9, hls9⟩  := own_sl #[.val (.long q0), .second, .val (.int p1), .val (.int p2), .val (.int p3), .val (.int p4), .val (.long A0), .second, .val (.long A1), .second, .val (.long A2), .second, .val (.long A3), .second, .val (.long (A3 + ((((p1.toUInt32 >>> ((9 : Int32) &&& 31).toUInt32).toInt32) &&& (7 : Int32)).toInt64))), .second, .unset, .unset, .unset, .unset, .unset, .unset, .unset, .unset, .unset, .unset, .unset, .unset, .unset, .unset, .unset]
  refine step (fun t k => XS.lstore X0.here hx rfl (hb hby at_51) rfl (l' := ls9) (by rw [hls8, hls9]; rfl) k) ?_
  show G s₁ (mkF m 53 ls9 [])
  obtain ⟨nw, hnw⟩ : ∃ z : Int64, z = (A3 + ((((p1.toUInt32 >>> ((9 : Int32) &&& 31).toUInt32).toInt32) &&& (7 : Int32)).toInt64)) := ⟨_, rfl⟩
  obtain ⟨ls10, hls10⟩  := own_sl #[.val (.long q0), .second, .val (.int p1), .val (.int p2), .val (.int p3), .val (.int p4), .val (.long A0), .second, .val (.long A1), .second, .val (.long A2), .second, .val (.long A3), .second, .val (.long nw), .second, .unset, .unset, .unset, .unset, .unset, .unset, .unset, .unset, .unset, .unset, .unset, .unset, .unset, .unset, .unset]
  rw [show ls9 = ls10 from by rw [hls9, hls10, hnw]]
  show G s₁ (mkF m 53 ls10 [])
  refine step (fun t k => XS.lload X0.here hx rfl (hb hby at_53) (by rw [hls10]; rfl) k) ?_
  show G s₁ (mkF m 55 ls10 [(.long nw)])
  refine step (fun t k => XS.iloadN X0.here hx rfl (hb hby at_55) (by rw [hls10]; rfl) k) ?_
  show G s₁ (mkF m 56 ls10 [(.int p1), (.long nw)])
  refine step (fun t k => XS.bipush X0.here hx rfl (hb hby at_56) k) ?_
  show G s₁ (mkF m 58 ls10 [(.int 12), (.int p1), (.long nw)])
  refine step (fun t k => XS.iushr X0.here hx rfl (hb hby at_58) rfl k) ?_
  show G s₁ (mkF m 59 ls10 [(.int ((p1.toUInt32 >>> ((12 : Int32) &&& 31).toUInt32).toInt32)), (.long nw)])
  refine step (fun t k => XS.bipush X0.here hx rfl (hb hby at_59) k) ?_
  show G s₁ (mkF m 61 ls10 [(.int 7), (.int ((p1.toUInt32 >>> ((12 : Int32) &&& 31).toUInt32).toInt32)), (.long nw)])
  refine step (fun t k => XS.iand X0.here hx rfl (hb hby at_61) rfl k) ?_
  show G s₁ (mkF m 62 ls10 [(.int (((p1.toUInt32 >>> ((12 : Int32) &&& 31).toUInt32).toInt32) &&& (7 : Int32))), (.long nw)])
  refine step (fun t k => XS.i2l X0.here hx rfl (hb hby at_62) rfl k) ?_
  show G s₁ (mkF m 63 ls10 [(.long ((((p1.toUInt32 >>> ((12 : Int32) &&& 31).toUInt32).toInt32) &&& (7 : Int32)).toInt64)), (.long nw)])
  refine step (fun t k => XS.ladd X0.here hx rfl (hb hby at_63) rfl k) ?_
  show G s₁ (mkF m 64 ls10 [(.long (nw + ((((p1.toUInt32 >>> ((12 : Int32) &&& 31).toUInt32).toInt32) &&& (7 : Int32)).toInt64)))])
  obtain ⟨ls11, hls11⟩  := own_sl #[.val (.long q0), .second, .val (.int p1), .val (.int p2), .val (.int p3), .val (.int p4), .val (.long A0), .second, .val (.long A1), .second, .val (.long A2), .second, .val (.long A3), .second, .val (.long nw), .second, .val (.long (nw + ((((p1.toUInt32 >>> ((12 : Int32) &&& 31).toUInt32).toInt32) &&& (7 : Int32)).toInt64))), .second, .unset, .unset, .unset, .unset, .unset, .unset, .unset, .unset, .unset, .unset, .unset, .unset, .unset]
  refine step (fun t k => XS.lstore X0.here hx rfl (hb hby at_64) rfl (l' := ls11) (by rw [hls10, hls11]; rfl) k) ?_
  show G s₁ (mkF m 66 ls11 [])
  obtain ⟨B0, hB0⟩ : ∃ z : Int64, z = (nw + ((((p1.toUInt32 >>> ((12 : Int32) &&& 31).toUInt32).toInt32) &&& (7 : Int32)).toInt64)) := ⟨_, rfl⟩
  obtain ⟨ls12, hls12⟩  := own_sl #[.val (.long q0), .second, .val (.int p1), .val (.int p2), .val (.int p3), .val (.int p4), .val (.long A0), .second, .val (.long A1), .second, .val (.long A2), .second, .val (.long A3), .second, .val (.long nw), .second, .val (.long B0), .second, .unset, .unset, .unset, .unset, .unset, .unset, .unset, .unset, .unset, .unset, .unset, .unset, .unset]
  rw [show ls11 = ls12 from by rw [hls11, hls12, hB0]]
  show G s₁ (mkF m 66 ls12 [])
  refine step (fun t k => XS.lload X0.here hx rfl (hb hby at_66) (by rw [hls12]; rfl) k) ?_
  show G s₁ (mkF m 68 ls12 [(.long B0)])
  refine step (fun t k => XS.iloadN X0.here hx rfl (hb hby at_68) (by rw [hls12]; rfl) k) ?_
  show G s₁ (mkF m 69 ls12 [(.int p1), (.long B0)])
  refine step (fun t k => XS.bipush X0.here hx rfl (hb hby at_69) k) ?_
  show G s₁ (mkF m 71 ls12 [(.int 15), (.int p1), (.long B0)])
  refine step (fun t k => XS.iushr X0.here hx rfl (hb hby at_71) rfl k) ?_
  show G s₁ (mkF m 72 ls12 [(.int ((p1.toUInt32 >>> ((15 : Int32) &&& 31).toUInt32).toInt32)), (.long B0)])
  refine step (fun t k => XS.bipush X0.here hx rfl (hb hby at_72) k) ?_
  show G s₁ (mkF m 74 ls12 [(.int 7), (.int ((p1.toUInt32 >>> ((15 : Int32) &&& 31).toUInt32).toInt32)), (.long B0)])
  refine step (fun t k => XS.iand X0.here hx rfl (hb hby at_74) rfl k) ?_
  show G s₁ (mkF m 75 ls12 [(.int (((p1.toUInt32 >>> ((15 : Int32) &&& 31).toUInt32).toInt32) &&& (7 : Int32))), (.long B0)])
  refine step (fun t k => XS.i2l X0.here hx rfl (hb hby at_75) rfl k) ?_
  show G s₁ (mkF m 76 ls12 [(.long ((((p1.toUInt32 >>> ((15 : Int32) &&& 31).toUInt32).toInt32) &&& (7 : Int32)).toInt64)), (.long B0)])
  refine step (fun t k => XS.ladd X0.here hx rfl (hb hby at_76) rfl k) ?_
  show G s₁ (mkF m 77 ls12 [(.long (B0 + ((((p1.toUInt32 >>> ((15 : Int32) &&& 31).toUInt32).toInt32) &&& (7 : Int32)).toInt64)))])
  obtain ⟨ls13, hls13⟩  := own_sl #[.val (.long q0), .second, .val (.int p1), .val (.int p2), .val (.int p3), .val (.int p4), .val (.long A0), .second, .val (.long A1), .second, .val (.long A2), .second, .val (.long A3), .second, .val (.long nw), .second, .val (.long B0), .second, .val (.long (B0 + ((((p1.toUInt32 >>> ((15 : Int32) &&& 31).toUInt32).toInt32) &&& (7 : Int32)).toInt64))), .second, .unset, .unset, .unset, .unset, .unset, .unset, .unset, .unset, .unset, .unset, .unset]
  refine step (fun t k => XS.lstore X0.here hx rfl (hb hby at_77) rfl (l' := ls13) (by rw [hls12, hls13]; rfl) k) ?_
  show G s₁ (mkF m 79 ls13 [])
  obtain ⟨B1, hB1⟩ : ∃ z : Int64, z = (B0 + ((((p1.toUInt32 >>> ((15 : Int32) &&& 31).toUInt32).toInt32) &&& (7 : Int32)).toInt64)) := ⟨_, rfl⟩
  obtain ⟨ls14, hls14⟩  := own_sl #[.val (.long q0), .second, .val (.int p1), .val (.int p2), .val (.int p3), .val (.int p4), .val (.long A0), .second, .val (.long A1), .second, .val (.long A2), .second, .val (.long A3), .second, .val (.long nw), .second, .val (.long B0), .second, .val (.long B1), .second, .unset, .unset, .unset, .unset, .unset, .unset, .unset, .unset, .unset, .unset, .unset]
  rw [show ls13 = ls14 from by rw [hls13, hls14, hB1]]
  show G s₁ (mkF m 79 ls14 [])
  refine step (fun t k => XS.lconst X0.here hx rfl (hb hby at_79) k) ?_
  show G s₁ (mkF m 80 ls14 [(.long 1)])
  refine step (fun t k => XS.iloadN X0.here hx rfl (hb hby at_80) (by rw [hls14]; rfl) k) ?_
  show G s₁ (mkF m 81 ls14 [(.int p2), (.long 1)])
  refine step (fun t k => XS.bipush X0.here hx rfl (hb hby at_81) k) ?_
  show G s₁ (mkF m 83 ls14 [(.int 31), (.int p2), (.long 1)])
  refine step (fun t k => XS.iand X0.here hx rfl (hb hby at_83) rfl k) ?_
  show G s₁ (mkF m 84 ls14 [(.int (p2 &&& (31 : Int32))), (.long 1)])
  refine step (fun t k => XS.i2l X0.here hx rfl (hb hby at_84) rfl k) ?_
  show G s₁ (mkF m 85 ls14 [(.long ((p2 &&& (31 : Int32)).toInt64)), (.long 1)])
  refine step (fun t k => XS.ladd X0.here hx rfl (hb hby at_85) rfl k) ?_
  show G s₁ (mkF m 86 ls14 [(.long ((1 : Int64) + ((p2 &&& (31 : Int32)).toInt64)))])
  obtain ⟨ls15, hls15⟩  := own_sl #[.val (.long q0), .second, .val (.int p1), .val (.int p2), .val (.int p3), .val (.int p4), .val (.long A0), .second, .val (.long A1), .second, .val (.long A2), .second, .val (.long A3), .second, .val (.long nw), .second, .val (.long B0), .second, .val (.long B1), .second, .val (.long ((1 : Int64) + ((p2 &&& (31 : Int32)).toInt64))), .second, .unset, .unset, .unset, .unset, .unset, .unset, .unset, .unset, .unset]
  refine step (fun t k => XS.lstore X0.here hx rfl (hb hby at_86) rfl (l' := ls15) (by rw [hls14, hls15]; rfl) k) ?_
  show G s₁ (mkF m 88 ls15 [])
  obtain ⟨mm, hmm⟩ : ∃ z : Int64, z = ((1 : Int64) + ((p2 &&& (31 : Int32)).toInt64)) := ⟨_, rfl⟩
  obtain ⟨ls16, hls16⟩  := own_sl #[.val (.long q0), .second, .val (.int p1), .val (.int p2), .val (.int p3), .val (.int p4), .val (.long A0), .second, .val (.long A1), .second, .val (.long A2), .second, .val (.long A3), .second, .val (.long nw), .second, .val (.long B0), .second, .val (.long B1), .second, .val (.long mm), .second, .unset, .unset, .unset, .unset, .unset, .unset, .unset, .unset, .unset]
  rw [show ls15 = ls16 from by rw [hls15, hls16, hmm]]
  show G s₁ (mkF m 88 ls16 [])
  refine step (fun t k => XS.iload X0.here hx rfl (hb hby at_88) (by rw [hls16]; rfl) k) ?_
  show G s₁ (mkF m 90 ls16 [(.int p3)])
  refine step (fun t k => XS.iconst X0.here hx rfl (hb hby at_90) k) ?_
  show G s₁ (mkF m 91 ls16 [(.int 3), (.int p3)])
  refine step (fun t k => XS.iand X0.here hx rfl (hb hby at_91) rfl k) ?_
  show G s₁ (mkF m 92 ls16 [(.int (p3 &&& (3 : Int32)))])
  refine step (fun t k => XS.iconst X0.here hx rfl (hb hby at_92) k) ?_
  show G s₁ (mkF m 93 ls16 [(.int 3), (.int (p3 &&& (3 : Int32)))])
  refine step (fun t k => iremM X0 hx rfl (hb hby at_93) rfl (by decide) k) ?_
  show G s₁ (mkF m 94 ls16 [(.int ((p3 &&& (3 : Int32)) % (3 : Int32)))])
  obtain ⟨ls17, hls17⟩  := own_sl #[.val (.long q0), .second, .val (.int p1), .val (.int p2), .val (.int p3), .val (.int p4), .val (.long A0), .second, .val (.long A1), .second, .val (.long A2), .second, .val (.long A3), .second, .val (.long nw), .second, .val (.long B0), .second, .val (.long B1), .second, .val (.long mm), .second, .val (.int ((p3 &&& (3 : Int32)) % (3 : Int32))), .unset, .unset, .unset, .unset, .unset, .unset, .unset, .unset]
  refine step (fun t k => XS.istore X0.here hx rfl (hb hby at_94) rfl (l' := ls17) (by rw [hls16, hls17]; rfl) k) ?_
  show G s₁ (mkF m 96 ls17 [])
  obtain ⟨ee, hee⟩ : ∃ z : Int32, z = ((p3 &&& (3 : Int32)) % (3 : Int32)) := ⟨_, rfl⟩
  obtain ⟨ls18, hls18⟩  := own_sl #[.val (.long q0), .second, .val (.int p1), .val (.int p2), .val (.int p3), .val (.int p4), .val (.long A0), .second, .val (.long A1), .second, .val (.long A2), .second, .val (.long A3), .second, .val (.long nw), .second, .val (.long B0), .second, .val (.long B1), .second, .val (.long mm), .second, .val (.int ee), .unset, .unset, .unset, .unset, .unset, .unset, .unset, .unset]
  rw [show ls17 = ls18 from by rw [hls17, hls18, hee]]
  show G s₁ (mkF m 96 ls18 [])
  refine step (fun t k => XS.lload X0.here hx rfl (hb hby at_96) (by rw [hls18]; rfl) k) ?_
  show G s₁ (mkF m 98 ls18 [(.long nw)])
  refine step (fun t k => XS.lload X0.here hx rfl (hb hby at_98) (by rw [hls18]; rfl) k) ?_
  show G s₁ (mkF m 100 ls18 [(.long mm), (.long nw)])
  refine step (fun t k => XS.lsub X0.here hx rfl (hb hby at_100) rfl k) ?_
  show G s₁ (mkF m 101 ls18 [(.long (nw - mm))])
  obtain ⟨ls19, hls19⟩  := own_sl #[.val (.long q0), .second, .val (.int p1), .val (.int p2), .val (.int p3), .val (.int p4), .val (.long A0), .second, .val (.long A1), .second, .val (.long A2), .second, .val (.long A3), .second, .val (.long nw), .second, .val (.long B0), .second, .val (.long B1), .second, .val (.long mm), .second, .val (.int ee), .val (.long (nw - mm)), .second, .unset, .unset, .unset, .unset, .unset, .unset]
  refine step (fun t k => XS.lstore X0.here hx rfl (hb hby at_101) rfl (l' := ls19) (by rw [hls18, hls19]; rfl) k) ?_
  show G s₁ (mkF m 103 ls19 [])
  obtain ⟨last, hlast⟩ : ∃ z : Int64, z = (nw - mm) := ⟨_, rfl⟩
  obtain ⟨ls20, hls20⟩  := own_sl #[.val (.long q0), .second, .val (.int p1), .val (.int p2), .val (.int p3), .val (.int p4), .val (.long A0), .second, .val (.long A1), .second, .val (.long A2), .second, .val (.long A3), .second, .val (.long nw), .second, .val (.long B0), .second, .val (.long B1), .second, .val (.long mm), .second, .val (.int ee), .val (.long last), .second, .unset, .unset, .unset, .unset, .unset, .unset]
  rw [show ls19 = ls20 from by rw [hls19, hls20, hlast]]
  show G s₁ (mkF m 103 ls20 [])
  have hord : A0.toInt ≤ A1.toInt ∧ A1.toInt ≤ A2.toInt ∧ A2.toInt ≤ A3.toInt := own_ord hA0 hA1 hA2 hA3
  have hmpos : (0 : Int64) < mm := own_mpos hmm
  have hJ : ∀ (kk : Int32), ((kk = (0 : Int32) ∧ last < A0) ∨ (kk = (1 : Int32) ∧ ¬ (last < A0) ∧ last < A1) ∨ (kk = (2 : Int32) ∧ ¬ (last < A0) ∧ ¬ (last < A1) ∧ last < A2) ∨ (kk = (3 : Int32) ∧ ¬ (last < A0) ∧ ¬ (last < A1) ∧ ¬ (last < A2) ∧ last < A3) ∨ (kk = (4 : Int32) ∧ ¬ (last < A0) ∧ ¬ (last < A1) ∧ ¬ (last < A2) ∧ ¬ (last < A3))) → G s₁ (mkF m 160 #[.val (.long q0), .second, .val (.int p1), .val (.int p2), .val (.int p3), .val (.int p4), .val (.long A0), .second, .val (.long A1), .second, .val (.long A2), .second, .val (.long A3), .second, .val (.long nw), .second, .val (.long B0), .second, .val (.long B1), .second, .val (.long mm), .second, .val (.int ee), .val (.long last), .second, .val (.int kk), .unset, .unset, .unset, .unset, .unset] []) := by
    intro kk hkk
    obtain ⟨ls21, hls21⟩ : ∃ z : Array Slot, z = #[.val (.long q0), .second, .val (.int p1), .val (.int p2), .val (.int p3), .val (.int p4), .val (.long A0), .second, .val (.long A1), .second, .val (.long A2), .second, .val (.long A3), .second, .val (.long nw), .second, .val (.long B0), .second, .val (.long B1), .second, .val (.long mm), .second, .val (.int ee), .val (.long last), .second, .val (.int kk), .unset, .unset, .unset, .unset, .unset] := ⟨_, rfl⟩
    rw [← hls21]
    show G s₁ (mkF m 160 ls21 [])
    refine step (fun t k => XS.iconst X0.here hx rfl (hb hby at_160) k) ?_
    show G s₁ (mkF m 161 ls21 [(.int 4)])
    refine step (fun t k => XS.iload X0.here hx rfl (hb hby at_161) (by rw [hls21]; rfl) k) ?_
    show G s₁ (mkF m 163 ls21 [(.int kk), (.int 4)])
    refine step (fun t k => XS.isub X0.here hx rfl (hb hby at_163) rfl k) ?_
    show G s₁ (mkF m 164 ls21 [(.int ((4 : Int32) - kk))])
    refine step (fun t k => XS.iload X0.here hx rfl (hb hby at_164) (by rw [hls21]; rfl) k) ?_
    show G s₁ (mkF m 166 ls21 [(.int ee), (.int ((4 : Int32) - kk))])
    refine step (fun t k => XS.iadd X0.here hx rfl (hb hby at_166) rfl k) ?_
    show G s₁ (mkF m 167 ls21 [(.int (((4 : Int32) - kk) + ee))])
    obtain ⟨ls22, hls22⟩  := own_sl #[.val (.long q0), .second, .val (.int p1), .val (.int p2), .val (.int p3), .val (.int p4), .val (.long A0), .second, .val (.long A1), .second, .val (.long A2), .second, .val (.long A3), .second, .val (.long nw), .second, .val (.long B0), .second, .val (.long B1), .second, .val (.long mm), .second, .val (.int ee), .val (.long last), .second, .val (.int kk), .val (.int (((4 : Int32) - kk) + ee)), .unset, .unset, .unset, .unset]
    refine step (fun t k => XS.istore X0.here hx rfl (hb hby at_167) rfl (l' := ls22) (by rw [hls21, hls22]; rfl) k) ?_
    show G s₁ (mkF m 169 ls22 [])
    obtain ⟨sz, hsz⟩ : ∃ z : Int32, z = (((4 : Int32) - kk) + ee) := ⟨_, rfl⟩
    obtain ⟨ls23, hls23⟩  := own_sl #[.val (.long q0), .second, .val (.int p1), .val (.int p2), .val (.int p3), .val (.int p4), .val (.long A0), .second, .val (.long A1), .second, .val (.long A2), .second, .val (.long A3), .second, .val (.long nw), .second, .val (.long B0), .second, .val (.long B1), .second, .val (.long mm), .second, .val (.int ee), .val (.long last), .second, .val (.int kk), .val (.int sz), .unset, .unset, .unset, .unset]
    rw [show ls22 = ls23 from by rw [hls22, hls23, hsz]]
    show G s₁ (mkF m 169 ls23 [])
    refine step (fun t k => XS.iload X0.here hx rfl (hb hby at_169) (by rw [hls23]; rfl) k) ?_
    show G s₁ (mkF m 171 ls23 [(.int sz)])
    by_cases hc24 : sz = (0 : Int32)
    · skip
      refine step (fun t k => XS.ifNo X0.here hx rfl (hb hby at_171) rfl ((if0 _ _).trans (teq hc24).2) k) ?_
      show G s₁ (mkF m 174 ls23 [])
      refine step (fun t k => XS.iconst X0.here hx rfl (hb hby at_174) k) ?_
      show G s₁ (mkF m 175 ls23 [(.int 1)])
      exact ret (v := some (.int 1)) X0 hS hk0 (fun h => by rw [Bd.returns] at h; cases h) (fun fs hr => retN X0 hx (t := .boolean) Bd.returns (by simp) (hb hby at_175) hr) e0 ⟨rfl, N0⟩ (by decide) (by decide)
    · skip
      refine step (fun t k => XS.ifYes X0.here hx rfl (pc0 := 171) (pc' := 176) rfl (hb hby at_171) rfl ((if0 _ _).trans (feq hc24).2) (by decide) (by decide) k) ?_
      show G s₁ (mkF m 176 ls23 [])
      refine step (fun t k => XS.iload X0.here hx rfl (hb hby at_176) (by rw [hls23]; rfl) k) ?_
      show G s₁ (mkF m 178 ls23 [(.int p4)])
      have q25 := X0.ldcInt hx hown (mvT hZ (ww0 hw)) (g := (mkF m 178 ls23 [(.int p4)])) rfl (hb hby at_178)
      refine step q25 ?_
      show G s₁ (mkF m 180 ls23 [(.int 2147483647), (.int p4)])
      refine step (fun t k => XS.iand X0.here hx rfl (hb hby at_180) rfl k) ?_
      show G s₁ (mkF m 181 ls23 [(.int (p4 &&& (2147483647 : Int32)))])
      refine step (fun t k => XS.iload X0.here hx rfl (hb hby at_181) (by rw [hls23]; rfl) k) ?_
      show G s₁ (mkF m 183 ls23 [(.int sz), (.int (p4 &&& (2147483647 : Int32)))])
      refine step (fun t k => iremM X0 hx rfl (hb hby at_183) rfl hc24 k) ?_
      show G s₁ (mkF m 184 ls23 [(.int ((p4 &&& (2147483647 : Int32)) % sz))])
      obtain ⟨ls26, hls26⟩  := own_sl #[.val (.long q0), .second, .val (.int p1), .val (.int p2), .val (.int p3), .val (.int p4), .val (.long A0), .second, .val (.long A1), .second, .val (.long A2), .second, .val (.long A3), .second, .val (.long nw), .second, .val (.long B0), .second, .val (.long B1), .second, .val (.long mm), .second, .val (.int ee), .val (.long last), .second, .val (.int kk), .val (.int sz), .val (.int ((p4 &&& (2147483647 : Int32)) % sz)), .unset, .unset, .unset]
      refine step (fun t k => XS.istore X0.here hx rfl (hb hby at_184) rfl (l' := ls26) (by rw [hls23, hls26]; rfl) k) ?_
      show G s₁ (mkF m 186 ls26 [])
      obtain ⟨jj, hjj⟩ : ∃ z : Int32, z = ((p4 &&& (2147483647 : Int32)) % sz) := ⟨_, rfl⟩
      obtain ⟨ls27, hls27⟩  := own_sl #[.val (.long q0), .second, .val (.int p1), .val (.int p2), .val (.int p3), .val (.int p4), .val (.long A0), .second, .val (.long A1), .second, .val (.long A2), .second, .val (.long A3), .second, .val (.long nw), .second, .val (.long B0), .second, .val (.long B1), .second, .val (.long mm), .second, .val (.int ee), .val (.long last), .second, .val (.int kk), .val (.int sz), .val (.int jj), .unset, .unset, .unset]
      rw [show ls26 = ls27 from by rw [hls26, hls27, hjj]]
      show G s₁ (mkF m 186 ls27 [])
      refine step (fun t k => XS.bipush X0.here hx rfl (hb hby at_186) k) ?_
      show G s₁ (mkF m 188 ls27 [(.int 6)])
      obtain ⟨T28, h28, k28, X28, e28, E28, A28, B28, st28⟩ := newPE (aty := .long) X0 hx hZ (ww1 hw) e0 (g := (mkF m 188 ls27 [(.int 6)])) rfl (hb hby at_188) rfl (by decide) (cap := 6) (by decide) (by decide) (by decide) (by decide) (ad := "[J") (by decide)
      obtain ⟨b28, g28⟩ : ∃ z, z = h0.size := ⟨_, rfl⟩
      rw [← g28] at A28 B28 st28
      have V28 : Arv Z h28 b28 k28 .long (6 : Int32) [(.long 0), (.long 0), (.long 0), (.long 0), (.long 0), (.long 0)] (.long 0) := (Arv.new A28 (by decide)).pad (pad_rep [] (.long 0) 6)
      have ge_b28 : n0 ≤ b28 := Nat.le_trans (own_old_le O0) (Nat.le_of_eq g28.symm)
      have O28 := O0.ext E28
      have hk28 := Nat.le_trans hk0 E28.1
      refine step st28 ?_
      show G T28 (mkF m 190 ls27 [(.ref b28)])
      refine step (fun t k => XS.dup X28.here hx rfl (hb hby at_190) rfl rfl k) ?_
      show G T28 (mkF m 191 ls27 [(.ref b28), (.ref b28)])
      refine step (fun t k => XS.iconst X28.here hx rfl (hb hby at_191) k) ?_
      show G T28 (mkF m 192 ls27 [(.int 0), (.ref b28), (.ref b28)])
      refine step (fun t k => XS.lload X28.here hx rfl (hb hby at_192) (by rw [hls27]; rfl) k) ?_
      show G T28 (mkF m 194 ls27 [(.long A0), (.int 0), (.ref b28), (.ref b28)])
      obtain ⟨T29, h29, X29, e29, W29, V29, st29⟩ := own_stJ X28 hx hZ e28 V28 (j := (0 : Int32)) (by decide) (i := 0) rfl (by show 0 < 6; decide) (g := (mkF m 194 ls27 [(.long A0), (.int 0), (.ref b28), (.ref b28)])) rfl rfl (hb hby at_194)
      replace V29 : Arv Z h29 b28 k28 .long (6 : Int32) [(.long A0), (.long 0), (.long 0), (.long 0), (.long 0), (.long 0)] (.long 0) := V29
      have N29 := Fr.snoc X29 N0 ge_b28
      obtain ⟨lc29, X29, N29⟩ := own_gen X29 N29
      have O29 := O28.wr W29 ge_b28
      have hk29 := Nat.le_trans hk28 (Nat.le_of_eq W29.size.symm)
      refine step st29 ?_
      show G T29 (mkF m 195 ls27 [(.ref b28)])
      refine step (fun t k => XS.dup X29.here hx rfl (hb hby at_195) rfl rfl k) ?_
      show G T29 (mkF m 196 ls27 [(.ref b28), (.ref b28)])
      refine step (fun t k => XS.iconst X29.here hx rfl (hb hby at_196) k) ?_
      show G T29 (mkF m 197 ls27 [(.int 1), (.ref b28), (.ref b28)])
      refine step (fun t k => XS.lload X29.here hx rfl (hb hby at_197) (by rw [hls27]; rfl) k) ?_
      show G T29 (mkF m 199 ls27 [(.long A1), (.int 1), (.ref b28), (.ref b28)])
      obtain ⟨T30, h30, X30, e30, W30, V30, st30⟩ := own_stJ X29 hx hZ e29 V29 (j := (1 : Int32)) (by decide) (i := 1) rfl (by show 1 < 6; decide) (g := (mkF m 199 ls27 [(.long A1), (.int 1), (.ref b28), (.ref b28)])) rfl rfl (hb hby at_199)
      replace V30 : Arv Z h30 b28 k28 .long (6 : Int32) [(.long A0), (.long A1), (.long 0), (.long 0), (.long 0), (.long 0)] (.long 0) := V30
      have N30 := Fr.snoc X30 N29 ge_b28
      obtain ⟨lc30, X30, N30⟩ := own_gen X30 N30
      have O30 := O29.wr W30 ge_b28
      have hk30 := Nat.le_trans hk29 (Nat.le_of_eq W30.size.symm)
      refine step st30 ?_
      show G T30 (mkF m 200 ls27 [(.ref b28)])
      refine step (fun t k => XS.dup X30.here hx rfl (hb hby at_200) rfl rfl k) ?_
      show G T30 (mkF m 201 ls27 [(.ref b28), (.ref b28)])
      refine step (fun t k => XS.iconst X30.here hx rfl (hb hby at_201) k) ?_
      show G T30 (mkF m 202 ls27 [(.int 2), (.ref b28), (.ref b28)])
      refine step (fun t k => XS.lload X30.here hx rfl (hb hby at_202) (by rw [hls27]; rfl) k) ?_
      show G T30 (mkF m 204 ls27 [(.long A2), (.int 2), (.ref b28), (.ref b28)])
      obtain ⟨T31, h31, X31, e31, W31, V31, st31⟩ := own_stJ X30 hx hZ e30 V30 (j := (2 : Int32)) (by decide) (i := 2) rfl (by show 2 < 6; decide) (g := (mkF m 204 ls27 [(.long A2), (.int 2), (.ref b28), (.ref b28)])) rfl rfl (hb hby at_204)
      replace V31 : Arv Z h31 b28 k28 .long (6 : Int32) [(.long A0), (.long A1), (.long A2), (.long 0), (.long 0), (.long 0)] (.long 0) := V31
      have N31 := Fr.snoc X31 N30 ge_b28
      obtain ⟨lc31, X31, N31⟩ := own_gen X31 N31
      have O31 := O30.wr W31 ge_b28
      have hk31 := Nat.le_trans hk30 (Nat.le_of_eq W31.size.symm)
      refine step st31 ?_
      show G T31 (mkF m 205 ls27 [(.ref b28)])
      refine step (fun t k => XS.dup X31.here hx rfl (hb hby at_205) rfl rfl k) ?_
      show G T31 (mkF m 206 ls27 [(.ref b28), (.ref b28)])
      refine step (fun t k => XS.iconst X31.here hx rfl (hb hby at_206) k) ?_
      show G T31 (mkF m 207 ls27 [(.int 3), (.ref b28), (.ref b28)])
      refine step (fun t k => XS.lload X31.here hx rfl (hb hby at_207) (by rw [hls27]; rfl) k) ?_
      show G T31 (mkF m 209 ls27 [(.long A3), (.int 3), (.ref b28), (.ref b28)])
      obtain ⟨T32, h32, X32, e32, W32, V32, st32⟩ := own_stJ X31 hx hZ e31 V31 (j := (3 : Int32)) (by decide) (i := 3) rfl (by show 3 < 6; decide) (g := (mkF m 209 ls27 [(.long A3), (.int 3), (.ref b28), (.ref b28)])) rfl rfl (hb hby at_209)
      replace V32 : Arv Z h32 b28 k28 .long (6 : Int32) [(.long A0), (.long A1), (.long A2), (.long A3), (.long 0), (.long 0)] (.long 0) := V32
      have N32 := Fr.snoc X32 N31 ge_b28
      obtain ⟨lc32, X32, N32⟩ := own_gen X32 N32
      have O32 := O31.wr W32 ge_b28
      have hk32 := Nat.le_trans hk31 (Nat.le_of_eq W32.size.symm)
      refine step st32 ?_
      show G T32 (mkF m 210 ls27 [(.ref b28)])
      refine step (fun t k => XS.dup X32.here hx rfl (hb hby at_210) rfl rfl k) ?_
      show G T32 (mkF m 211 ls27 [(.ref b28), (.ref b28)])
      refine step (fun t k => XS.iconst X32.here hx rfl (hb hby at_211) k) ?_
      show G T32 (mkF m 212 ls27 [(.int 4), (.ref b28), (.ref b28)])
      refine step (fun t k => XS.lload X32.here hx rfl (hb hby at_212) (by rw [hls27]; rfl) k) ?_
      show G T32 (mkF m 214 ls27 [(.long B0), (.int 4), (.ref b28), (.ref b28)])
      obtain ⟨T33, h33, X33, e33, W33, V33, st33⟩ := own_stJ X32 hx hZ e32 V32 (j := (4 : Int32)) (by decide) (i := 4) rfl (by show 4 < 6; decide) (g := (mkF m 214 ls27 [(.long B0), (.int 4), (.ref b28), (.ref b28)])) rfl rfl (hb hby at_214)
      replace V33 : Arv Z h33 b28 k28 .long (6 : Int32) [(.long A0), (.long A1), (.long A2), (.long A3), (.long B0), (.long 0)] (.long 0) := V33
      have N33 := Fr.snoc X33 N32 ge_b28
      obtain ⟨lc33, X33, N33⟩ := own_gen X33 N33
      have O33 := O32.wr W33 ge_b28
      have hk33 := Nat.le_trans hk32 (Nat.le_of_eq W33.size.symm)
      refine step st33 ?_
      show G T33 (mkF m 215 ls27 [(.ref b28)])
      refine step (fun t k => XS.dup X33.here hx rfl (hb hby at_215) rfl rfl k) ?_
      show G T33 (mkF m 216 ls27 [(.ref b28), (.ref b28)])
      refine step (fun t k => XS.iconst X33.here hx rfl (hb hby at_216) k) ?_
      show G T33 (mkF m 217 ls27 [(.int 5), (.ref b28), (.ref b28)])
      refine step (fun t k => XS.lload X33.here hx rfl (hb hby at_217) (by rw [hls27]; rfl) k) ?_
      show G T33 (mkF m 219 ls27 [(.long B1), (.int 5), (.ref b28), (.ref b28)])
      obtain ⟨T34, h34, X34, e34, W34, V34, st34⟩ := own_stJ X33 hx hZ e33 V33 (j := (5 : Int32)) (by decide) (i := 5) rfl (by show 5 < 6; decide) (g := (mkF m 219 ls27 [(.long B1), (.int 5), (.ref b28), (.ref b28)])) rfl rfl (hb hby at_219)
      replace V34 : Arv Z h34 b28 k28 .long (6 : Int32) [(.long A0), (.long A1), (.long A2), (.long A3), (.long B0), (.long B1)] (.long 0) := V34
      have N34 := Fr.snoc X34 N33 ge_b28
      obtain ⟨lc34, X34, N34⟩ := own_gen X34 N34
      have O34 := O33.wr W34 ge_b28
      have hk34 := Nat.le_trans hk33 (Nat.le_of_eq W34.size.symm)
      refine step st34 ?_
      show G T34 (mkF m 220 ls27 [(.ref b28)])
      obtain ⟨ls35, hls35⟩  := own_sl #[.val (.long q0), .second, .val (.int p1), .val (.int p2), .val (.int p3), .val (.int p4), .val (.long A0), .second, .val (.long A1), .second, .val (.long A2), .second, .val (.long A3), .second, .val (.long nw), .second, .val (.long B0), .second, .val (.long B1), .second, .val (.long mm), .second, .val (.int ee), .val (.long last), .second, .val (.int kk), .val (.int sz), .val (.int jj), .val (.ref b28), .unset, .unset]
      refine step (fun t k => XS.astore X34.here hx rfl (hb hby at_220) rfl rfl (l' := ls35) (by rw [hls27, hls35]; rfl) k) ?_
      show G T34 (mkF m 222 ls35 [])
      refine step (fun t k => XS.lload X34.here hx rfl (hb hby at_222) (by rw [hls35]; rfl) k) ?_
      show G T34 (mkF m 224 ls35 [(.long mm)])
      have hK36 := (backOfS (R := room_1) (p := p) (e := e) (below := below) (args := #[(.long q0), (.int p1), (.int p2), (.int p3), (.int p4)]) (len := 3) (W := 0) (rm_sl l Z a0 hw [] w_SLIDING w_CALENDAR w_SwitchMap_co mm h34 n0 (own_old_le O34) ST O34 (hmpos : (0 : Int64) < mm)) hZ (ww5 hw) (ww4 hw) (by decide) (by decide))
      obtain ⟨_, _, ⟨T36, L36, k36, n36⟩, -, X36, hS36, hg36, ⟨Lc36, hQ36, l36, y36, z36⟩, st36⟩ := callSS X34 hx (y := y_3) hown (mvT hZ (ww2 hw)) (mvT hZ (ww3 hw)) (mvT hZ (ww4 hw)) (mvT hZ (ww5 hw)) (by decide) hK36 (g := (mkF m 224 ls35 [(.long mm)])) rfl (by rw [hml, hls35]; rfl) (argsL := [(.long mm)]) (rest := []) (lenOf pd_3 rfl) rfl (by show 2 * 0 + _ ≤ _; exact Nat.le_of_eq rfl) (hb hby at_224) (fun _ _ => ⟨rfl, e34, (by decide : 1 + 3 ≤ _), (by decide : 6 + 23 ≤ _)⟩)
      dsimp only [Pt.U, Pt.locs, Pt.cells, Pt.slots] at X36 l36 y36 z36 st36 hQ36 hS36 hg36
      subst l36 y36 z36
      obtain ⟨X36, hS, hZ, hown⟩ := rebS (s := s) hS (by rw [e34]; exact hk34) X36 hS36 hg36 hZ hown
      have f37 := (Exa.wr W34 (Exa.wr W33 (Exa.wr W32 (Exa.wr W31 (Exa.wr W30 (Exa.wr W29 B28))))))
      obtain ⟨b36, rfl, N36q, K36q, Y36_0, Y36_1, Y36_2, Y36_3⟩ := hQ36
      have N36 := Fr.app N34 N36q
      obtain ⟨lc36, X36, N36⟩ := own_gen X36 N36
      have O36 := O34.keep K36q all0
      have ge_b36 : n0 ≤ b36 := Nat.le_trans (own_old_le O34) Y36_0
      have lt_b28_b36 : b28 < b36 := Nat.lt_of_lt_of_le f37.lt Y36_0
      have hk36 : _ ≤ T36.heap.size := Nat.le_refl _
      refine step (fun t k => st36.trans k) ?_
      show G T36 (mkF m 227 ls35 [(.ref b36)])
      obtain ⟨ls38, hls38⟩  := own_sl #[.val (.long q0), .second, .val (.int p1), .val (.int p2), .val (.int p3), .val (.int p4), .val (.long A0), .second, .val (.long A1), .second, .val (.long A2), .second, .val (.long A3), .second, .val (.long nw), .second, .val (.long B0), .second, .val (.long B1), .second, .val (.long mm), .second, .val (.int ee), .val (.long last), .second, .val (.int kk), .val (.int sz), .val (.int jj), .val (.ref b28), .val (.ref b36), .unset]
      refine step (fun t k => XS.astore X36.here hx rfl (hb hby at_227) rfl rfl (l' := ls38) (by rw [hls35, hls38]; rfl) k) ?_
      show G T36 (mkF m 229 ls38 [])
      have f40 := (Exa.keep f37 K36q)
      obtain ⟨T39, h39, X39, e39, E39, A39, D39, -, st39⟩ := newO X36 hx hZ hown (ww42 hw) (ww43 hw) (ww44 hw) rfl (g := (mkF m 229 ls38 [])) rfl (hb hby at_229) (by decide) (by decide)
      obtain ⟨b39, g39⟩ : ∃ z, z = T36.heap.size := ⟨_, rfl⟩
      rw [← g39] at A39 D39 st39
      have ge_b39 : n0 ≤ b39 := Nat.le_trans (own_old_le O36) (Nat.le_of_eq g39.symm)
      have lt_b28_b39 : b28 < b39 := Nat.lt_of_lt_of_le f40.lt (Nat.le_of_eq g39.symm)
      have lt_b36_b39 : b36 < b39 := Nat.lt_of_lt_of_le Y36_1.lt (Nat.le_of_eq g39.symm)
      have O39 := O36.ext E39
      have hk39 := Nat.le_trans hk36 E39.1
      have F39_times : Fld Z h39 b39 cn_0 "times" "[J" .null := D39 (Or.inl (ww50 hw)) (ty := (.array .long)) (by decide)
      have F39_size : Fld Z h39 b39 cn_0 "size" "I" (.int 0) := D39 (Or.inl (ww57 hw)) (ty := .int) (by decide)
      have F39_head : Fld Z h39 b39 cn_0 "head" "I" (.int 0) := D39 (Or.inl (ww59 hw)) (ty := .int) (by decide)
      refine step st39 ?_
      show G T39 (mkF m 232 ls38 [(.ref b39)])
      refine step (fun t k => XS.dup X39.here hx rfl (hb hby at_232) rfl rfl k) ?_
      show G T39 (mkF m 233 ls38 [(.ref b39), (.ref b39)])
      have hK41 := (backOf (R := room_1) (p := p) (e := e) (below := below) (args := #[(.long q0), (.int p1), (.int p2), (.int p3), (.int p4)]) (len := 3) (W := 1) (rm_at l Z a0 hw [] w_SLIDING w_CALENDAR w_SwitchMap_co b39 h39 n0 (own_old_le O39) ST O39 A39 ge_b39 F39_times F39_head F39_size) hZ (ww47 hw) (ww44 hw) (by decide) (by decide))
      obtain ⟨_, _, ⟨T41, L41, k41, n41⟩, -, X41, ⟨Lc41, hQ41, l41, y41, z41⟩, st41⟩ := X39.specialBack hx (y := y_4) rfl hown (mvT hZ (ww45 hw)) (mvT hZ (ww46 hw)) (mvT hZ (ww47 hw)) (by decide) hK41 (g := (mkF m 233 ls38 [(.ref b39), (.ref b39)])) rfl (by rw [hml, hls38]; rfl) (Steps.refl _) (a := b39) (argsL := []) (rest := [(.ref b39)]) (lenOf pd_0 rfl) rfl (by show 2 * 0 + _ ≤ _; exact Nat.le_of_eq rfl) (hb hby at_233) (fun _ _ => ⟨rfl, e39, (by decide : 5 + 1 ≤ _), (by decide : 32 + 4 ≤ _)⟩)
      dsimp only [Pt.U, Pt.locs, Pt.cells, Pt.slots] at X41 l41 y41 z41 st41 hQ41
      subst l41 y41 z41
      have f42 := (Exa.ext E39 f40)
      have f43 := (Exa.ext E39 Y36_1)
      obtain ⟨b41, kb_41, rfl, N41q, K41q, Y41_0, Y41_1, Y41_2, Y41_3, Y41_4, Y41_5⟩ := hQ41
      have N41 := Fr.app N36 N41q
      obtain ⟨lc41, X41, N41⟩ := own_gen X41 N41
      have O41 := O39.keep K41q (allS ge_b39 all0)
      have ge_b41 : n0 ≤ b41 := Nat.le_trans (own_old_le O39) Y41_0
      have lt_b28_b41 : b28 < b41 := Nat.lt_of_lt_of_le f42.lt Y41_0
      have lt_b36_b41 : b36 < b41 := Nat.lt_of_lt_of_le f43.lt Y41_0
      have lt_b39_b41 : b39 < b41 := Nat.lt_of_lt_of_le A39.lt Y41_0
      have hk41 : _ ≤ T41.heap.size := Nat.le_trans hk39 K41q.1
      refine step (fun t k => st41.trans k) ?_
      show G T41 (mkF m 236 ls38 [(.ref b39)])
      obtain ⟨ls44, hls44⟩  := own_sl #[.val (.long q0), .second, .val (.int p1), .val (.int p2), .val (.int p3), .val (.int p4), .val (.long A0), .second, .val (.long A1), .second, .val (.long A2), .second, .val (.long A3), .second, .val (.long nw), .second, .val (.long B0), .second, .val (.long B1), .second, .val (.long mm), .second, .val (.int ee), .val (.long last), .second, .val (.int kk), .val (.int sz), .val (.int jj), .val (.ref b28), .val (.ref b36), .val (.ref b39)]
      refine step (fun t k => XS.astore X41.here hx rfl (hb hby at_236) rfl rfl (l' := ls44) (by rw [hls38, hls44]; rfl) k) ?_
      show G T41 (mkF m 238 ls44 [])
      refine step (fun t k => XS.aload X41.here hx rfl (hb hby at_238) (by rw [hls44]; rfl) rfl k) ?_
      show G T41 (mkF m 240 ls44 [(.ref b39)])
      refine step (fun t k => XS.lload X41.here hx rfl (hb hby at_240) (by rw [hls44]; rfl) k) ?_
      show G T41 (mkF m 242 ls44 [(.long A0), (.ref b39)])
      have hK45 := (backOf (R := room_1) (p := p) (e := e) (below := below) (args := #[(.long q0), (.int p1), (.int p2), (.int p3), (.int p4)]) (len := 3) (W := 0) (rm_add_4_0 l Z a0 hw [] w_SLIDING w_CALENDAR w_SwitchMap_co b39 A0 b41 kb_41 (0 : Int64) (0 : Int64) (0 : Int64) (0 : Int64) (0 : Int32) (0 : Int32) (1 : Int32) T41.heap n0 (own_old_le O41) ST O41 Y41_1 ge_b39 Y41_2 ge_b41 Y41_3 Y41_4 Y41_5 (by decide : ¬ ((0 : Int32) = (4 : Int32))) (by decide : ((0 : Int32) + (1 : Int32)) = (1 : Int32)) (by decide : (((0 : Int32) + (0 : Int32)) % (4 : Int32)) = (0 : Int32))) hZ (ww55 hw) (ww44 hw) (by decide) (by decide))
      obtain ⟨cq45, kq45, q45a, q45b, q45c⟩ := isOf hZ rfl Y41_1
      obtain ⟨_, _, ⟨T45, L45, k45, n45⟩, -, X45, ⟨Lc45, hQ45, l45, y45, z45⟩, st45⟩ := X41.virtualBack hx (y := y_8) (z := y_8) hown (mvT hZ (ww51 hw)) (mvT hZ (ww52 hw)) (notFace_of_selects (args := #[]) (mvT hZ (ww54 hw))) (mvT hZ (ww54 hw)) (mvT hZ (ww53 hw)) (by decide) hK45 q45a q45c (g := (mkF m 242 ls44 [(.long A0), (.ref b39)])) rfl (by rw [hml, hls44]; rfl) (Steps.refl _) (argsL := [(.long A0)]) (rest := []) (lenOf pd_4 rfl) rfl (by show 2 * 0 + _ ≤ _; exact Nat.le_of_eq rfl) (hb hby at_242) (fun _ _ => ⟨rfl, rfl, (by decide : 6 + 0 ≤ _), (by decide : 36 + 0 ≤ _)⟩)
      dsimp only [Pt.U, Pt.locs, Pt.cells, Pt.slots] at X45 l45 y45 z45 st45 hQ45
      subst l45 y45 z45
      obtain ⟨rfl, N45q, K45q, Y45_0, Y45_1, Y45_2, Y45_3, Y45_4⟩ := hQ45
      have N45 := Fr.app N41 N45q
      obtain ⟨lc45, X45, N45⟩ := own_gen X45 N45
      have O45 := O41.keep K45q (allS ge_b39 (allS ge_b41 all0))
      have hk45 : _ ≤ T45.heap.size := Nat.le_trans hk41 K45q.1
      refine step (fun t k => st45.trans k) ?_
      show G T45 (mkF m 245 ls44 [])
      refine step (fun t k => XS.aload X45.here hx rfl (hb hby at_245) (by rw [hls44]; rfl) rfl k) ?_
      show G T45 (mkF m 247 ls44 [(.ref b39)])
      refine step (fun t k => XS.lload X45.here hx rfl (hb hby at_247) (by rw [hls44]; rfl) k) ?_
      show G T45 (mkF m 249 ls44 [(.long A1), (.ref b39)])
      have hK46 := (backOf (R := room_1) (p := p) (e := e) (below := below) (args := #[(.long q0), (.int p1), (.int p2), (.int p3), (.int p4)]) (len := 3) (W := 0) (rm_add_4_1 l Z a0 hw [] w_SLIDING w_CALENDAR w_SwitchMap_co b39 A1 b41 kb_41 A0 (0 : Int64) (0 : Int64) (0 : Int64) (0 : Int32) (1 : Int32) (2 : Int32) T45.heap n0 (own_old_le O45) ST O45 Y45_0 ge_b39 Y45_1 ge_b41 Y45_2 Y45_3 Y45_4 (by decide : ¬ ((1 : Int32) = (4 : Int32))) (by decide : ((1 : Int32) + (1 : Int32)) = (2 : Int32)) (by decide : (((0 : Int32) + (1 : Int32)) % (4 : Int32)) = (1 : Int32))) hZ (ww55 hw) (ww44 hw) (by decide) (by decide))
      obtain ⟨cq46, kq46, q46a, q46b, q46c⟩ := isOf hZ rfl Y45_0
      obtain ⟨_, _, ⟨T46, L46, k46, n46⟩, -, X46, ⟨Lc46, hQ46, l46, y46, z46⟩, st46⟩ := X45.virtualBack hx (y := y_8) (z := y_8) hown (mvT hZ (ww51 hw)) (mvT hZ (ww52 hw)) (notFace_of_selects (args := #[]) (mvT hZ (ww54 hw))) (mvT hZ (ww54 hw)) (mvT hZ (ww53 hw)) (by decide) hK46 q46a q46c (g := (mkF m 249 ls44 [(.long A1), (.ref b39)])) rfl (by rw [hml, hls44]; rfl) (Steps.refl _) (argsL := [(.long A1)]) (rest := []) (lenOf pd_4 rfl) rfl (by show 2 * 0 + _ ≤ _; exact Nat.le_of_eq rfl) (hb hby at_249) (fun _ _ => ⟨rfl, rfl, (by decide : 6 + 0 ≤ _), (by decide : 36 + 0 ≤ _)⟩)
      dsimp only [Pt.U, Pt.locs, Pt.cells, Pt.slots] at X46 l46 y46 z46 st46 hQ46
      subst l46 y46 z46
      obtain ⟨rfl, N46q, K46q, Y46_0, Y46_1, Y46_2, Y46_3, Y46_4⟩ := hQ46
      have N46 := Fr.app N45 N46q
      obtain ⟨lc46, X46, N46⟩ := own_gen X46 N46
      have O46 := O45.keep K46q (allS ge_b39 (allS ge_b41 all0))
      have hk46 : _ ≤ T46.heap.size := Nat.le_trans hk45 K46q.1
      refine step (fun t k => st46.trans k) ?_
      show G T46 (mkF m 252 ls44 [])
      refine step (fun t k => XS.aload X46.here hx rfl (hb hby at_252) (by rw [hls44]; rfl) rfl k) ?_
      show G T46 (mkF m 254 ls44 [(.ref b39)])
      refine step (fun t k => XS.lload X46.here hx rfl (hb hby at_254) (by rw [hls44]; rfl) k) ?_
      show G T46 (mkF m 256 ls44 [(.long A2), (.ref b39)])
      have hK47 := (backOf (R := room_1) (p := p) (e := e) (below := below) (args := #[(.long q0), (.int p1), (.int p2), (.int p3), (.int p4)]) (len := 3) (W := 0) (rm_add_4_2 l Z a0 hw [] w_SLIDING w_CALENDAR w_SwitchMap_co b39 A2 b41 kb_41 A0 A1 (0 : Int64) (0 : Int64) (0 : Int32) (2 : Int32) (3 : Int32) T46.heap n0 (own_old_le O46) ST O46 Y46_0 ge_b39 Y46_1 ge_b41 Y46_2 Y46_3 Y46_4 (by decide : ¬ ((2 : Int32) = (4 : Int32))) (by decide : ((2 : Int32) + (1 : Int32)) = (3 : Int32)) (by decide : (((0 : Int32) + (2 : Int32)) % (4 : Int32)) = (2 : Int32))) hZ (ww55 hw) (ww44 hw) (by decide) (by decide))
      obtain ⟨cq47, kq47, q47a, q47b, q47c⟩ := isOf hZ rfl Y46_0
      obtain ⟨_, _, ⟨T47, L47, k47, n47⟩, -, X47, ⟨Lc47, hQ47, l47, y47, z47⟩, st47⟩ := X46.virtualBack hx (y := y_8) (z := y_8) hown (mvT hZ (ww51 hw)) (mvT hZ (ww52 hw)) (notFace_of_selects (args := #[]) (mvT hZ (ww54 hw))) (mvT hZ (ww54 hw)) (mvT hZ (ww53 hw)) (by decide) hK47 q47a q47c (g := (mkF m 256 ls44 [(.long A2), (.ref b39)])) rfl (by rw [hml, hls44]; rfl) (Steps.refl _) (argsL := [(.long A2)]) (rest := []) (lenOf pd_4 rfl) rfl (by show 2 * 0 + _ ≤ _; exact Nat.le_of_eq rfl) (hb hby at_256) (fun _ _ => ⟨rfl, rfl, (by decide : 6 + 0 ≤ _), (by decide : 36 + 0 ≤ _)⟩)
      dsimp only [Pt.U, Pt.locs, Pt.cells, Pt.slots] at X47 l47 y47 z47 st47 hQ47
      subst l47 y47 z47
      obtain ⟨rfl, N47q, K47q, Y47_0, Y47_1, Y47_2, Y47_3, Y47_4⟩ := hQ47
      have N47 := Fr.app N46 N47q
      obtain ⟨lc47, X47, N47⟩ := own_gen X47 N47
      have O47 := O46.keep K47q (allS ge_b39 (allS ge_b41 all0))
      have hk47 : _ ≤ T47.heap.size := Nat.le_trans hk46 K47q.1
      refine step (fun t k => st47.trans k) ?_
      show G T47 (mkF m 259 ls44 [])
      refine step (fun t k => XS.aload X47.here hx rfl (hb hby at_259) (by rw [hls44]; rfl) rfl k) ?_
      show G T47 (mkF m 261 ls44 [(.ref b39)])
      refine step (fun t k => XS.lload X47.here hx rfl (hb hby at_261) (by rw [hls44]; rfl) k) ?_
      show G T47 (mkF m 263 ls44 [(.long A3), (.ref b39)])
      have hK48 := (backOf (R := room_1) (p := p) (e := e) (below := below) (args := #[(.long q0), (.int p1), (.int p2), (.int p3), (.int p4)]) (len := 3) (W := 0) (rm_add_4_3 l Z a0 hw [] w_SLIDING w_CALENDAR w_SwitchMap_co b39 A3 b41 kb_41 A0 A1 A2 (0 : Int64) (0 : Int32) (3 : Int32) (4 : Int32) T47.heap n0 (own_old_le O47) ST O47 Y47_0 ge_b39 Y47_1 ge_b41 Y47_2 Y47_3 Y47_4 (by decide : ¬ ((3 : Int32) = (4 : Int32))) (by decide : ((3 : Int32) + (1 : Int32)) = (4 : Int32)) (by decide : (((0 : Int32) + (3 : Int32)) % (4 : Int32)) = (3 : Int32))) hZ (ww55 hw) (ww44 hw) (by decide) (by decide))
      obtain ⟨cq48, kq48, q48a, q48b, q48c⟩ := isOf hZ rfl Y47_0
      obtain ⟨_, _, ⟨T48, L48, k48, n48⟩, -, X48, ⟨Lc48, hQ48, l48, y48, z48⟩, st48⟩ := X47.virtualBack hx (y := y_8) (z := y_8) hown (mvT hZ (ww51 hw)) (mvT hZ (ww52 hw)) (notFace_of_selects (args := #[]) (mvT hZ (ww54 hw))) (mvT hZ (ww54 hw)) (mvT hZ (ww53 hw)) (by decide) hK48 q48a q48c (g := (mkF m 263 ls44 [(.long A3), (.ref b39)])) rfl (by rw [hml, hls44]; rfl) (Steps.refl _) (argsL := [(.long A3)]) (rest := []) (lenOf pd_4 rfl) rfl (by show 2 * 0 + _ ≤ _; exact Nat.le_of_eq rfl) (hb hby at_263) (fun _ _ => ⟨rfl, rfl, (by decide : 6 + 0 ≤ _), (by decide : 36 + 0 ≤ _)⟩)
      dsimp only [Pt.U, Pt.locs, Pt.cells, Pt.slots] at X48 l48 y48 z48 st48 hQ48
      subst l48 y48 z48
      obtain ⟨rfl, N48q, K48q, Y48_0, Y48_1, Y48_2, Y48_3, Y48_4⟩ := hQ48
      have N48 := Fr.app N47 N48q
      obtain ⟨lc48, X48, N48⟩ := own_gen X48 N48
      have O48 := O47.keep K48q (allS ge_b39 (allS ge_b41 all0))
      have hk48 : _ ≤ T48.heap.size := Nat.le_trans hk47 K48q.1
      refine step (fun t k => st48.trans k) ?_
      show G T48 (mkF m 266 ls44 [])
      refine step (fun t k => XS.aload X48.here hx rfl (hb hby at_266) (by rw [hls44]; rfl) rfl k) ?_
      show G T48 (mkF m 268 ls44 [(.ref b39)])
      refine step (fun t k => XS.aload X48.here hx rfl (hb hby at_268) (by rw [hls44]; rfl) rfl k) ?_
      show G T48 (mkF m 270 ls44 [(.ref b36), (.ref b39)])
      refine step (fun t k => XS.lload X48.here hx rfl (hb hby at_270) (by rw [hls44]; rfl) k) ?_
      show G T48 (mkF m 272 ls44 [(.long nw), (.ref b36), (.ref b39)])
      rcases hkk with ⟨hkq, hl0⟩ | ⟨hkq, hl0, hl1⟩ | ⟨hkq, hl0, hl1, hl2⟩ | ⟨hkq, hl0, hl1, hl2, hl3⟩ | ⟨hkq, hl0, hl1, hl2, hl3⟩
      · rw [hkq] at hsz
        obtain ⟨ls49, hls49⟩  := own_sl #[.val (.long q0), .second, .val (.int p1), .val (.int p2), .val (.int p3), .val (.int p4), .val (.long A0), .second, .val (.long A1), .second, .val (.long A2), .second, .val (.long A3), .second, .val (.long nw), .second, .val (.long B0), .second, .val (.long B1), .second, .val (.long mm), .second, .val (.int ee), .val (.long last), .second, .val (.int 0), .val (.int sz), .val (.int jj), .val (.ref b28), .val (.ref b36), .val (.ref b39)]
        rw [show ls44 = ls49 from by rw [hls44, hls49, hkq]]
        show G T48 (mkF m 272 ls49 [(.long nw), (.ref b36), (.ref b39)])
        rw [(by decide : ((4 : Int32) - (0 : Int32)) = (4 : Int32))] at hsz
        have f51 := (Exa.keep (Exa.keep (Exa.keep (Exa.keep (Exa.keep f43 K41q) K45q) K46q) K47q) K48q)
        have f52 := (Fld.keep (Fld.keep (Fld.keep (Fld.keep (Fld.keep (Fld.ext E39 Y36_2) K41q (ninS (Nat.ne_of_lt lt_b36_b39) nin0)) K45q (ninS (Nat.ne_of_lt lt_b36_b39) (ninS (Nat.ne_of_lt lt_b36_b41) nin0))) K46q (ninS (Nat.ne_of_lt lt_b36_b39) (ninS (Nat.ne_of_lt lt_b36_b41) nin0))) K47q (ninS (Nat.ne_of_lt lt_b36_b39) (ninS (Nat.ne_of_lt lt_b36_b41) nin0))) K48q (ninS (Nat.ne_of_lt lt_b36_b39) (ninS (Nat.ne_of_lt lt_b36_b41) nin0)))
        have f53 := (Fld.keep (Fld.keep (Fld.keep (Fld.keep (Fld.keep (Fld.ext E39 Y36_3) K41q (ninS (Nat.ne_of_lt lt_b36_b39) nin0)) K45q (ninS (Nat.ne_of_lt lt_b36_b39) (ninS (Nat.ne_of_lt lt_b36_b41) nin0))) K46q (ninS (Nat.ne_of_lt lt_b36_b39) (ninS (Nat.ne_of_lt lt_b36_b41) nin0))) K47q (ninS (Nat.ne_of_lt lt_b36_b39) (ninS (Nat.ne_of_lt lt_b36_b41) nin0))) K48q (ninS (Nat.ne_of_lt lt_b36_b39) (ninS (Nat.ne_of_lt lt_b36_b41) nin0)))
        have hK50 := (backOf (R := room_1) (p := p) (e := e) (below := below) (args := #[(.long q0), (.int p1), (.int p2), (.int p3), (.int p4)]) (len := 3) (W := 0) (rm_cnt0_4 l Z a0 hw [] w_SLIDING w_CALENDAR w_SwitchMap_co b39 b36 nw b41 kb_41 A0 A1 A2 A3 (0 : Int32) (4 : Int32) mm T48.heap n0 (own_old_le O48) ST O48 Y48_0 ge_b39 Y48_1 ge_b41 Y48_2 Y48_3 Y48_4 ((by decide) : (0 : Int32) < (4 : Int32)) (by decide) f51 f52 f53 (show (nw - mm) < A0 from (hlast ▸ hl0))) hZ (ww64 hw) (ww44 hw) (by decide) (by decide))
        obtain ⟨cq50, kq50, q50a, q50b, q50c⟩ := isOf hZ rfl Y48_0
        obtain ⟨_, _, ⟨T50, L50, k50, n50⟩, -, X50, ⟨Lc50, hQ50, l50, y50, z50⟩, st50⟩ := X48.virtualBack hx (y := y_11) (z := y_11) hown (mvT hZ (ww60 hw)) (mvT hZ (ww61 hw)) (notFace_of_selects (args := #[]) (mvT hZ (ww63 hw))) (mvT hZ (ww63 hw)) (mvT hZ (ww62 hw)) (by decide) hK50 q50a q50c (g := (mkF m 272 ls49 [(.long nw), (.ref b36), (.ref b39)])) rfl (by rw [hml, hls49]; rfl) (Steps.refl _) (argsL := [(.ref b36), (.long nw)]) (rest := []) (lenOf pd_8 rfl) rfl (by show 2 * 0 + _ ≤ _; exact Nat.le_of_eq rfl) (hb hby at_272) (fun _ _ => ⟨rfl, rfl, (by decide : 6 + 0 ≤ _), (by decide : 36 + 0 ≤ _)⟩)
        dsimp only [Pt.U, Pt.locs, Pt.cells, Pt.slots] at X50 l50 y50 z50 st50 hQ50
        subst l50 y50 z50
        obtain ⟨rfl, N50q, K50q, Y50_0, Y50_1, Y50_2, Y50_3⟩ := hQ50
        have N50 := Fr.app N48 N50q
        obtain ⟨lc50, X50, N50⟩ := own_gen X50 N50
        have O50 := O48.keep K50q (allS ge_b39 all0)
        have hk50 : _ ≤ T50.heap.size := Nat.le_trans hk48 K50q.1
        refine step (fun t k => st50.trans k) ?_
        show G T50 (mkF m 275 ls49 [(.int 4)])
        refine step (fun t k => XS.pop X50.here hx rfl (hb hby at_275) rfl rfl k) ?_
        show G T50 (mkF m 276 ls49 [])
        refine step (fun t k => XS.iload X50.here hx rfl (hb hby at_276) (by rw [hls49]; rfl) k) ?_
        show G T50 (mkF m 278 ls49 [(.int ee)])
        refine step (fun t k => XS.iconst X50.here hx rfl (hb hby at_278) k) ?_
        show G T50 (mkF m 279 ls49 [(.int 1), (.int ee)])
        by_cases hc54 : ee < (1 : Int32)
        · skip
          refine step (fun t k => XS.icmpYes X50.here hx rfl (pc0 := 279) (pc' := 289) rfl (hb hby at_279) rfl (tlt hc54).1 (by decide) (by decide) k) ?_
          show G T50 (mkF m 289 ls49 [])
          refine step (fun t k => XS.iload X50.here hx rfl (hb hby at_289) (by rw [hls49]; rfl) k) ?_
          show G T50 (mkF m 291 ls49 [(.int ee)])
          refine step (fun t k => XS.iconst X50.here hx rfl (hb hby at_291) k) ?_
          show G T50 (mkF m 292 ls49 [(.int 2), (.int ee)])
          by_cases hc55 : ee < (2 : Int32)
          · skip
            refine step (fun t k => XS.icmpYes X50.here hx rfl (pc0 := 292) (pc' := 302) rfl (hb hby at_292) rfl (tlt hc55).1 (by decide) (by decide) k) ?_
            show G T50 (mkF m 302 ls49 [])
            have hz : sz.toInt = 4 := by
              have q := c_iadd (4 : Int32) ee
              rw [← hsz] at q
              have q4 : (4 : Int32).toInt = 4 := by decide
              have q5 := own_e p3 ee hee
              have q1 : (1 : Int32).toInt = 1 := by decide
              have q2 : (2 : Int32).toInt = 2 := by decide
              have z  := hc54
              rw [own_xlt] at z 
              have z  := hc55
              rw [own_xlt] at z 
              have r := rng32 sz
              omega
            have hj := own_j4 p4 jj sz hz hjj
            refine step (fun t k => XS.aload X50.here hx rfl (hb hby at_302) (by rw [hls49]; rfl) rfl k) ?_
            show G T50 (mkF m 304 ls49 [(.ref b39)])
            refine step (fun t k => XS.iload X50.here hx rfl (hb hby at_304) (by rw [hls49]; rfl) k) ?_
            show G T50 (mkF m 306 ls49 [(.int jj), (.ref b39)])
            have f57 := (Arv.keep Y48_4 K50q (ninS (Nat.ne_of_gt lt_b39_b41) nin0))
            have hK56 := (backOf (R := room_1) (p := p) (e := e) (below := below) (args := #[(.long q0), (.int p1), (.int p2), (.int p3), (.int p4)]) (len := 3) (W := 0) (rm_get4 l Z a0 hw [] w_SLIDING w_CALENDAR w_SwitchMap_co b39 jj b41 kb_41 A0 A1 A2 A3 (0 : Int32) T50.heap n0 (own_old_le O50) ST O50 Y50_1 Y50_2 f57 (by rcases hj with rfl | rfl | rfl | rfl <;> decide)) hZ (ww95 hw) (ww44 hw) (by decide) (by decide))
            obtain ⟨cq56, kq56, q56a, q56b, q56c⟩ := isOf hZ rfl Y50_0
            obtain ⟨_, _, ⟨T56, L56, k56, n56⟩, -, X56, ⟨Lc56, hQ56, l56, y56, z56⟩, st56⟩ := X50.virtualBack hx (y := y_12) (z := y_12) hown (mvT hZ (ww91 hw)) (mvT hZ (ww92 hw)) (notFace_of_selects (args := #[]) (mvT hZ (ww94 hw))) (mvT hZ (ww94 hw)) (mvT hZ (ww93 hw)) (by decide) hK56 q56a q56c (g := (mkF m 306 ls49 [(.int jj), (.ref b39)])) rfl (by rw [hml, hls49]; rfl) (Steps.refl _) (argsL := [(.int jj)]) (rest := []) (lenOf pd_9 rfl) rfl (by show 2 * 0 + _ ≤ _; exact Nat.le_of_eq rfl) (hb hby at_306) (fun _ _ => ⟨rfl, rfl, (by decide : 6 + 0 ≤ _), (by decide : 36 + 0 ≤ _)⟩)
            dsimp only [Pt.U, Pt.locs, Pt.cells, Pt.slots] at X56 l56 y56 z56 st56 hQ56
            subst l56 y56 z56
            obtain ⟨rfl, N56q, e56⟩ := hQ56
            have N56 := Fr.app N50 N56q
            obtain ⟨lc56, X56, N56⟩ := own_gen X56 N56
            refine step (fun t k => st56.trans k) ?_
            show G T56 (mkF m 309 ls49 [(.long (f_get4 w_SLIDING w_CALENDAR w_SwitchMap_co b39 jj b41 kb_41 A0 A1 A2 A3 (0 : Int32)))])
            have r58 : (f_get4 w_SLIDING w_CALENDAR w_SwitchMap_co b39 jj b41 kb_41 A0 A1 A2 A3 (0 : Int32)) = (own_at4 A0 A1 A2 A3 (((0 : Int32) + jj) % (4 : Int32))) := rfl
            rw [r58]
            show G T56 (mkF m 309 ls49 [(.long (own_at4 A0 A1 A2 A3 (((0 : Int32) + jj) % (4 : Int32))))])
            refine step (fun t k => XS.aload X56.here hx rfl (hb hby at_309) (by rw [hls49]; rfl) rfl k) ?_
            show G T56 (mkF m 311 ls49 [(.ref b28), (.long (own_at4 A0 A1 A2 A3 (((0 : Int32) + jj) % (4 : Int32))))])
            refine step (fun t k => XS.iload X56.here hx rfl (hb hby at_311) (by rw [hls49]; rfl) k) ?_
            show G T56 (mkF m 313 ls49 [(.int 0), (.ref b28), (.long (own_at4 A0 A1 A2 A3 (((0 : Int32) + jj) % (4 : Int32))))])
            refine step (fun t k => XS.iload X56.here hx rfl (hb hby at_313) (by rw [hls49]; rfl) k) ?_
            show G T56 (mkF m 315 ls49 [(.int jj), (.int 0), (.ref b28), (.long (own_at4 A0 A1 A2 A3 (((0 : Int32) + jj) % (4 : Int32))))])
            refine step (fun t k => XS.iadd X56.here hx rfl (hb hby at_315) rfl k) ?_
            show G T56 (mkF m 316 ls49 [(.int ((0 : Int32) + jj)), (.ref b28), (.long (own_at4 A0 A1 A2 A3 (((0 : Int32) + jj) % (4 : Int32))))])
            have f59 := (Arv.keep (Arv.keep (Arv.keep (Arv.keep (Arv.keep (Arv.keep ((Arv.keep V34 K36q nin0).ext E39) K41q (ninS (Nat.ne_of_lt lt_b28_b39) nin0)) K45q (ninS (Nat.ne_of_lt lt_b28_b39) (ninS (Nat.ne_of_lt lt_b28_b41) nin0))) K46q (ninS (Nat.ne_of_lt lt_b28_b39) (ninS (Nat.ne_of_lt lt_b28_b41) nin0))) K47q (ninS (Nat.ne_of_lt lt_b28_b39) (ninS (Nat.ne_of_lt lt_b28_b41) nin0))) K48q (ninS (Nat.ne_of_lt lt_b28_b39) (ninS (Nat.ne_of_lt lt_b28_b41) nin0))) K50q (ninS (Nat.ne_of_lt lt_b28_b39) nin0))
            have q60 := own_ldJ X56 hx hZ e56 f59 (j := ((0 : Int32) + jj)) (v := .long (own_at6 A0 A1 A2 A3 B0 B1 ((0 : Int32) + jj))) (by rcases hj with rfl | rfl | rfl | rfl <;> decide) (own_get6 (by rcases hj with rfl | rfl | rfl | rfl <;> decide)) (g := (mkF m 316 ls49 [(.int ((0 : Int32) + jj)), (.ref b28), (.long (own_at4 A0 A1 A2 A3 (((0 : Int32) + jj) % (4 : Int32))))])) rfl rfl (hb hby at_316)
            refine step q60 ?_
            show G T56 (mkF m 317 ls49 [(.long (own_at6 A0 A1 A2 A3 B0 B1 ((0 : Int32) + jj))), (.long (own_at4 A0 A1 A2 A3 (((0 : Int32) + jj) % (4 : Int32))))])
            refine step (fun t k => XS.lcmp X56.here hx rfl (hb hby at_317) rfl k) ?_
            show G T56 (mkF m 318 ls49 [(.int (lcmpW (own_at4 A0 A1 A2 A3 (((0 : Int32) + jj) % (4 : Int32))) (own_at6 A0 A1 A2 A3 B0 B1 ((0 : Int32) + jj))))])
            refine step (fun t k => XS.ifNo X56.here hx rfl (hb hby at_318) rfl ((if0 _ _).trans (teq ((lw_eq _ _).mpr (by rcases hj with rfl | rfl | rfl | rfl <;> rfl))).2) k) ?_
            show G T56 (mkF m 321 ls49 [])
            refine step (fun t k => XS.iconst X56.here hx rfl (hb hby at_321) k) ?_
            show G T56 (mkF m 322 ls49 [(.int 1)])
            refine step (fun t k => XS.goto X56.here hx rfl (pc0 := 322) (pc' := 326) rfl (hb hby at_322) (by decide) (by decide) k) ?_
            show G T56 (mkF m 326 ls49 [(.int 1)])
            exact ret (v := some (.int 1)) X56 hS hk50 (fun h => by rw [Bd.returns] at h; cases h) (fun fs hr => retN X56 hx (t := .boolean) Bd.returns (by simp) (hb hby at_326) hr) e56 ⟨rfl, N56⟩ (by decide) (by decide)
          · skip
            refine step (fun t k => XS.icmpNo X50.here hx rfl (hb hby at_292) rfl (flt hc55).1 k) ?_
            show G T50 (mkF m 295 ls49 [])
            refine step (fun t k => XS.aload X50.here hx rfl (hb hby at_295) (by rw [hls49]; rfl) rfl k) ?_
            show G T50 (mkF m 297 ls49 [(.ref b39)])
            refine step (fun t k => XS.lload X50.here hx rfl (hb hby at_297) (by rw [hls49]; rfl) k) ?_
            show G T50 (mkF m 299 ls49 [(.long B1), (.ref b39)])
            have f62 := (Arv.keep Y48_4 K50q (ninS (Nat.ne_of_gt lt_b39_b41) nin0))
            have hK61 := (backOf (R := room_1) (p := p) (e := e) (below := below) (args := #[(.long q0), (.int p1), (.int p2), (.int p3), (.int p4)]) (len := 3) (W := 0) (rm_addg_4_0 l Z a0 hw [] w_SLIDING w_CALENDAR w_SwitchMap_co b39 B1 b41 kb_41 A0 A1 A2 A3 T50.heap n0 (own_old_le O50) ST O50 Y50_0 ge_b39 Y50_1 ge_b41 Y50_2 Y50_3 f62) hZ (ww55 hw) (ww44 hw) (by decide) (by decide))
            obtain ⟨cq61, kq61, q61a, q61b, q61c⟩ := isOf hZ rfl Y50_0
            obtain ⟨_, _, ⟨T61, L61, k61, n61⟩, -, X61, ⟨Lc61, hQ61, l61, y61, z61⟩, st61⟩ := X50.virtualBack hx (y := y_8) (z := y_8) hown (mvT hZ (ww51 hw)) (mvT hZ (ww52 hw)) (notFace_of_selects (args := #[]) (mvT hZ (ww54 hw))) (mvT hZ (ww54 hw)) (mvT hZ (ww53 hw)) (by decide) hK61 q61a q61c (g := (mkF m 299 ls49 [(.long B1), (.ref b39)])) rfl (by rw [hml, hls49]; rfl) (Steps.refl _) (argsL := [(.long B1)]) (rest := []) (lenOf pd_4 rfl) rfl (by show 2 * 0 + _ ≤ _; exact Nat.le_of_eq rfl) (hb hby at_299) (fun _ _ => ⟨rfl, rfl, (by decide : 6 + 1 ≤ _), (by decide : 36 + 8 ≤ _)⟩)
            dsimp only [Pt.U, Pt.locs, Pt.cells, Pt.slots] at X61 l61 y61 z61 st61 hQ61
            subst l61 y61 z61
            have f63 := (Exa.keep (Exa.keep (Exa.keep (Exa.keep (Exa.keep (Exa.keep f42 K41q) K45q) K46q) K47q) K48q) K50q)
            have f64 := (Exa.keep f51 K50q)
            obtain ⟨b61, kb_61, rfl, N61q, K61q, Y61_0, Y61_1, Y61_2, Y61_3, Y61_4, Y61_5⟩ := hQ61
            have N61 := Fr.app N50 N61q
            obtain ⟨lc61, X61, N61⟩ := own_gen X61 N61
            have O61 := O50.keep K61q (allS ge_b39 all0)
            have ge_b61 : n0 ≤ b61 := Nat.le_trans (own_old_le O50) Y61_0
            have lt_b28_b61 : b28 < b61 := Nat.lt_of_lt_of_le f63.lt Y61_0
            have lt_b36_b61 : b36 < b61 := Nat.lt_of_lt_of_le f64.lt Y61_0
            have lt_b39_b61 : b39 < b61 := Nat.lt_of_lt_of_le Y50_0.lt Y61_0
            have lt_b41_b61 : b41 < b61 := Nat.lt_of_lt_of_le f62.lt Y61_0
            have hk61 : _ ≤ T61.heap.size := Nat.le_trans hk50 K61q.1
            refine step (fun t k => st61.trans k) ?_
            show G T61 (mkF m 302 ls49 [])
            have hz : sz.toInt = 4 := by
              have q := c_iadd (4 : Int32) ee
              rw [← hsz] at q
              have q4 : (4 : Int32).toInt = 4 := by decide
              have q5 := own_e p3 ee hee
              have q1 : (1 : Int32).toInt = 1 := by decide
              have q2 : (2 : Int32).toInt = 2 := by decide
              have z  := hc54
              rw [own_xlt] at z 
              have z  := hc55
              rw [own_xlt] at z 
              have r := rng32 sz
              omega
            have hj := own_j4 p4 jj sz hz hjj
            refine step (fun t k => XS.aload X61.here hx rfl (hb hby at_302) (by rw [hls49]; rfl) rfl k) ?_
            show G T61 (mkF m 304 ls49 [(.ref b39)])
            refine step (fun t k => XS.iload X61.here hx rfl (hb hby at_304) (by rw [hls49]; rfl) k) ?_
            show G T61 (mkF m 306 ls49 [(.int jj), (.ref b39)])
            have hK65 := (backOf (R := room_1) (p := p) (e := e) (below := below) (args := #[(.long q0), (.int p1), (.int p2), (.int p3), (.int p4)]) (len := 3) (W := 0) (rm_get8 l Z a0 hw [] w_SLIDING w_CALENDAR w_SwitchMap_co b39 jj b61 kb_61 A0 A1 A2 A3 B1 (0 : Int64) (0 : Int64) (0 : Int64) (0 : Int32) T61.heap n0 (own_old_le O61) ST O61 Y61_2 Y61_3 Y61_5 (by rcases hj with rfl | rfl | rfl | rfl <;> decide)) hZ (ww95 hw) (ww44 hw) (by decide) (by decide))
            obtain ⟨cq65, kq65, q65a, q65b, q65c⟩ := isOf hZ rfl Y61_1
            obtain ⟨_, _, ⟨T65, L65, k65, n65⟩, -, X65, ⟨Lc65, hQ65, l65, y65, z65⟩, st65⟩ := X61.virtualBack hx (y := y_12) (z := y_12) hown (mvT hZ (ww91 hw)) (mvT hZ (ww92 hw)) (notFace_of_selects (args := #[]) (mvT hZ (ww94 hw))) (mvT hZ (ww94 hw)) (mvT hZ (ww93 hw)) (by decide) hK65 q65a q65c (g := (mkF m 306 ls49 [(.int jj), (.ref b39)])) rfl (by rw [hml, hls49]; rfl) (Steps.refl _) (argsL := [(.int jj)]) (rest := []) (lenOf pd_9 rfl) rfl (by show 2 * 0 + _ ≤ _; exact Nat.le_of_eq rfl) (hb hby at_306) (fun _ _ => ⟨rfl, rfl, (by decide : 7 + 0 ≤ _), (by decide : 44 + 0 ≤ _)⟩)
            dsimp only [Pt.U, Pt.locs, Pt.cells, Pt.slots] at X65 l65 y65 z65 st65 hQ65
            subst l65 y65 z65
            obtain ⟨rfl, N65q, e65⟩ := hQ65
            have N65 := Fr.app N61 N65q
            obtain ⟨lc65, X65, N65⟩ := own_gen X65 N65
            refine step (fun t k => st65.trans k) ?_
            show G T65 (mkF m 309 ls49 [(.long (f_get8 w_SLIDING w_CALENDAR w_SwitchMap_co b39 jj b61 kb_61 A0 A1 A2 A3 B1 (0 : Int64) (0 : Int64) (0 : Int64) (0 : Int32)))])
            have r66 : (f_get8 w_SLIDING w_CALENDAR w_SwitchMap_co b39 jj b61 kb_61 A0 A1 A2 A3 B1 (0 : Int64) (0 : Int64) (0 : Int64) (0 : Int32)) = (own_at8 A0 A1 A2 A3 B1 (0 : Int64) (0 : Int64) (0 : Int64) (((0 : Int32) + jj) % (8 : Int32))) := rfl
            rw [r66]
            show G T65 (mkF m 309 ls49 [(.long (own_at8 A0 A1 A2 A3 B1 (0 : Int64) (0 : Int64) (0 : Int64) (((0 : Int32) + jj) % (8 : Int32))))])
            refine step (fun t k => XS.aload X65.here hx rfl (hb hby at_309) (by rw [hls49]; rfl) rfl k) ?_
            show G T65 (mkF m 311 ls49 [(.ref b28), (.long (own_at8 A0 A1 A2 A3 B1 (0 : Int64) (0 : Int64) (0 : Int64) (((0 : Int32) + jj) % (8 : Int32))))])
            refine step (fun t k => XS.iload X65.here hx rfl (hb hby at_311) (by rw [hls49]; rfl) k) ?_
            show G T65 (mkF m 313 ls49 [(.int 0), (.ref b28), (.long (own_at8 A0 A1 A2 A3 B1 (0 : Int64) (0 : Int64) (0 : Int64) (((0 : Int32) + jj) % (8 : Int32))))])
            refine step (fun t k => XS.iload X65.here hx rfl (hb hby at_313) (by rw [hls49]; rfl) k) ?_
            show G T65 (mkF m 315 ls49 [(.int jj), (.int 0), (.ref b28), (.long (own_at8 A0 A1 A2 A3 B1 (0 : Int64) (0 : Int64) (0 : Int64) (((0 : Int32) + jj) % (8 : Int32))))])
            refine step (fun t k => XS.iadd X65.here hx rfl (hb hby at_315) rfl k) ?_
            show G T65 (mkF m 316 ls49 [(.int ((0 : Int32) + jj)), (.ref b28), (.long (own_at8 A0 A1 A2 A3 B1 (0 : Int64) (0 : Int64) (0 : Int64) (((0 : Int32) + jj) % (8 : Int32))))])
            have f67 := (Arv.keep (Arv.keep (Arv.keep (Arv.keep (Arv.keep (Arv.keep (Arv.keep ((Arv.keep V34 K36q nin0).ext E39) K41q (ninS (Nat.ne_of_lt lt_b28_b39) nin0)) K45q (ninS (Nat.ne_of_lt lt_b28_b39) (ninS (Nat.ne_of_lt lt_b28_b41) nin0))) K46q (ninS (Nat.ne_of_lt lt_b28_b39) (ninS (Nat.ne_of_lt lt_b28_b41) nin0))) K47q (ninS (Nat.ne_of_lt lt_b28_b39) (ninS (Nat.ne_of_lt lt_b28_b41) nin0))) K48q (ninS (Nat.ne_of_lt lt_b28_b39) (ninS (Nat.ne_of_lt lt_b28_b41) nin0))) K50q (ninS (Nat.ne_of_lt lt_b28_b39) nin0)) K61q (ninS (Nat.ne_of_lt lt_b28_b39) nin0))
            have q68 := own_ldJ X65 hx hZ e65 f67 (j := ((0 : Int32) + jj)) (v := .long (own_at6 A0 A1 A2 A3 B0 B1 ((0 : Int32) + jj))) (by rcases hj with rfl | rfl | rfl | rfl <;> decide) (own_get6 (by rcases hj with rfl | rfl | rfl | rfl <;> decide)) (g := (mkF m 316 ls49 [(.int ((0 : Int32) + jj)), (.ref b28), (.long (own_at8 A0 A1 A2 A3 B1 (0 : Int64) (0 : Int64) (0 : Int64) (((0 : Int32) + jj) % (8 : Int32))))])) rfl rfl (hb hby at_316)
            refine step q68 ?_
            show G T65 (mkF m 317 ls49 [(.long (own_at6 A0 A1 A2 A3 B0 B1 ((0 : Int32) + jj))), (.long (own_at8 A0 A1 A2 A3 B1 (0 : Int64) (0 : Int64) (0 : Int64) (((0 : Int32) + jj) % (8 : Int32))))])
            refine step (fun t k => XS.lcmp X65.here hx rfl (hb hby at_317) rfl k) ?_
            show G T65 (mkF m 318 ls49 [(.int (lcmpW (own_at8 A0 A1 A2 A3 B1 (0 : Int64) (0 : Int64) (0 : Int64) (((0 : Int32) + jj) % (8 : Int32))) (own_at6 A0 A1 A2 A3 B0 B1 ((0 : Int32) + jj))))])
            refine step (fun t k => XS.ifNo X65.here hx rfl (hb hby at_318) rfl ((if0 _ _).trans (teq ((lw_eq _ _).mpr (by rcases hj with rfl | rfl | rfl | rfl <;> rfl))).2) k) ?_
            show G T65 (mkF m 321 ls49 [])
            refine step (fun t k => XS.iconst X65.here hx rfl (hb hby at_321) k) ?_
            show G T65 (mkF m 322 ls49 [(.int 1)])
            refine step (fun t k => XS.goto X65.here hx rfl (pc0 := 322) (pc' := 326) rfl (hb hby at_322) (by decide) (by decide) k) ?_
            show G T65 (mkF m 326 ls49 [(.int 1)])
            exact ret (v := some (.int 1)) X65 hS hk61 (fun h => by rw [Bd.returns] at h; cases h) (fun fs hr => retN X65 hx (t := .boolean) Bd.returns (by simp) (hb hby at_326) hr) e65 ⟨rfl, N65⟩ (by decide) (by decide)
        · skip
          refine step (fun t k => XS.icmpNo X50.here hx rfl (hb hby at_279) rfl (flt hc54).1 k) ?_
          show G T50 (mkF m 282 ls49 [])
          refine step (fun t k => XS.aload X50.here hx rfl (hb hby at_282) (by rw [hls49]; rfl) rfl k) ?_
          show G T50 (mkF m 284 ls49 [(.ref b39)])
          refine step (fun t k => XS.lload X50.here hx rfl (hb hby at_284) (by rw [hls49]; rfl) k) ?_
          show G T50 (mkF m 286 ls49 [(.long B0), (.ref b39)])
          have f70 := (Arv.keep Y48_4 K50q (ninS (Nat.ne_of_gt lt_b39_b41) nin0))
          have hK69 := (backOf (R := room_1) (p := p) (e := e) (below := below) (args := #[(.long q0), (.int p1), (.int p2), (.int p3), (.int p4)]) (len := 3) (W := 0) (rm_addg_4_0 l Z a0 hw [] w_SLIDING w_CALENDAR w_SwitchMap_co b39 B0 b41 kb_41 A0 A1 A2 A3 T50.heap n0 (own_old_le O50) ST O50 Y50_0 ge_b39 Y50_1 ge_b41 Y50_2 Y50_3 f70) hZ (ww55 hw) (ww44 hw) (by decide) (by decide))
          obtain ⟨cq69, kq69, q69a, q69b, q69c⟩ := isOf hZ rfl Y50_0
          obtain ⟨_, _, ⟨T69, L69, k69, n69⟩, -, X69, ⟨Lc69, hQ69, l69, y69, z69⟩, st69⟩ := X50.virtualBack hx (y := y_8) (z := y_8) hown (mvT hZ (ww51 hw)) (mvT hZ (ww52 hw)) (notFace_of_selects (args := #[]) (mvT hZ (ww54 hw))) (mvT hZ (ww54 hw)) (mvT hZ (ww53 hw)) (by decide) hK69 q69a q69c (g := (mkF m 286 ls49 [(.long B0), (.ref b39)])) rfl (by rw [hml, hls49]; rfl) (Steps.refl _) (argsL := [(.long B0)]) (rest := []) (lenOf pd_4 rfl) rfl (by show 2 * 0 + _ ≤ _; exact Nat.le_of_eq rfl) (hb hby at_286) (fun _ _ => ⟨rfl, rfl, (by decide : 6 + 1 ≤ _), (by decide : 36 + 8 ≤ _)⟩)
          dsimp only [Pt.U, Pt.locs, Pt.cells, Pt.slots] at X69 l69 y69 z69 st69 hQ69
          subst l69 y69 z69
          have f71 := (Exa.keep (Exa.keep (Exa.keep (Exa.keep (Exa.keep (Exa.keep f42 K41q) K45q) K46q) K47q) K48q) K50q)
          have f72 := (Exa.keep f51 K50q)
          obtain ⟨b69, kb_69, rfl, N69q, K69q, Y69_0, Y69_1, Y69_2, Y69_3, Y69_4, Y69_5⟩ := hQ69
          have N69 := Fr.app N50 N69q
          obtain ⟨lc69, X69, N69⟩ := own_gen X69 N69
          have O69 := O50.keep K69q (allS ge_b39 all0)
          have ge_b69 : n0 ≤ b69 := Nat.le_trans (own_old_le O50) Y69_0
          have lt_b28_b69 : b28 < b69 := Nat.lt_of_lt_of_le f71.lt Y69_0
          have lt_b36_b69 : b36 < b69 := Nat.lt_of_lt_of_le f72.lt Y69_0
          have lt_b39_b69 : b39 < b69 := Nat.lt_of_lt_of_le Y50_0.lt Y69_0
          have lt_b41_b69 : b41 < b69 := Nat.lt_of_lt_of_le f70.lt Y69_0
          have hk69 : _ ≤ T69.heap.size := Nat.le_trans hk50 K69q.1
          refine step (fun t k => st69.trans k) ?_
          show G T69 (mkF m 289 ls49 [])
          refine step (fun t k => XS.iload X69.here hx rfl (hb hby at_289) (by rw [hls49]; rfl) k) ?_
          show G T69 (mkF m 291 ls49 [(.int ee)])
          refine step (fun t k => XS.iconst X69.here hx rfl (hb hby at_291) k) ?_
          show G T69 (mkF m 292 ls49 [(.int 2), (.int ee)])
          by_cases hc73 : ee < (2 : Int32)
          · skip
            refine step (fun t k => XS.icmpYes X69.here hx rfl (pc0 := 292) (pc' := 302) rfl (hb hby at_292) rfl (tlt hc73).1 (by decide) (by decide) k) ?_
            show G T69 (mkF m 302 ls49 [])
            have hz : sz.toInt = 5 := by
              have q := c_iadd (4 : Int32) ee
              rw [← hsz] at q
              have q4 : (4 : Int32).toInt = 4 := by decide
              have q5 := own_e p3 ee hee
              have q1 : (1 : Int32).toInt = 1 := by decide
              have q2 : (2 : Int32).toInt = 2 := by decide
              have z  := hc54
              rw [own_xlt] at z 
              have z  := hc73
              rw [own_xlt] at z 
              have r := rng32 sz
              omega
            have hj := own_j5 p4 jj sz hz hjj
            refine step (fun t k => XS.aload X69.here hx rfl (hb hby at_302) (by rw [hls49]; rfl) rfl k) ?_
            show G T69 (mkF m 304 ls49 [(.ref b39)])
            refine step (fun t k => XS.iload X69.here hx rfl (hb hby at_304) (by rw [hls49]; rfl) k) ?_
            show G T69 (mkF m 306 ls49 [(.int jj), (.ref b39)])
            have hK74 := (backOf (R := room_1) (p := p) (e := e) (below := below) (args := #[(.long q0), (.int p1), (.int p2), (.int p3), (.int p4)]) (len := 3) (W := 0) (rm_get8 l Z a0 hw [] w_SLIDING w_CALENDAR w_SwitchMap_co b39 jj b69 kb_69 A0 A1 A2 A3 B0 (0 : Int64) (0 : Int64) (0 : Int64) (0 : Int32) T69.heap n0 (own_old_le O69) ST O69 Y69_2 Y69_3 Y69_5 (by rcases hj with rfl | rfl | rfl | rfl | rfl <;> decide)) hZ (ww95 hw) (ww44 hw) (by decide) (by decide))
            obtain ⟨cq74, kq74, q74a, q74b, q74c⟩ := isOf hZ rfl Y69_1
            obtain ⟨_, _, ⟨T74, L74, k74, n74⟩, -, X74, ⟨Lc74, hQ74, l74, y74, z74⟩, st74⟩ := X69.virtualBack hx (y := y_12) (z := y_12) hown (mvT hZ (ww91 hw)) (mvT hZ (ww92 hw)) (notFace_of_selects (args := #[]) (mvT hZ (ww94 hw))) (mvT hZ (ww94 hw)) (mvT hZ (ww93 hw)) (by decide) hK74 q74a q74c (g := (mkF m 306 ls49 [(.int jj), (.ref b39)])) rfl (by rw [hml, hls49]; rfl) (Steps.refl _) (argsL := [(.int jj)]) (rest := []) (lenOf pd_9 rfl) rfl (by show 2 * 0 + _ ≤ _; exact Nat.le_of_eq rfl) (hb hby at_306) (fun _ _ => ⟨rfl, rfl, (by decide : 7 + 0 ≤ _), (by decide : 44 + 0 ≤ _)⟩)
            dsimp only [Pt.U, Pt.locs, Pt.cells, Pt.slots] at X74 l74 y74 z74 st74 hQ74
            subst l74 y74 z74
            obtain ⟨rfl, N74q, e74⟩ := hQ74
            have N74 := Fr.app N69 N74q
            obtain ⟨lc74, X74, N74⟩ := own_gen X74 N74
            refine step (fun t k => st74.trans k) ?_
            show G T74 (mkF m 309 ls49 [(.long (f_get8 w_SLIDING w_CALENDAR w_SwitchMap_co b39 jj b69 kb_69 A0 A1 A2 A3 B0 (0 : Int64) (0 : Int64) (0 : Int64) (0 : Int32)))])
            have r75 : (f_get8 w_SLIDING w_CALENDAR w_SwitchMap_co b39 jj b69 kb_69 A0 A1 A2 A3 B0 (0 : Int64) (0 : Int64) (0 : Int64) (0 : Int32)) = (own_at8 A0 A1 A2 A3 B0 (0 : Int64) (0 : Int64) (0 : Int64) (((0 : Int32) + jj) % (8 : Int32))) := rfl
            rw [r75]
            show G T74 (mkF m 309 ls49 [(.long (own_at8 A0 A1 A2 A3 B0 (0 : Int64) (0 : Int64) (0 : Int64) (((0 : Int32) + jj) % (8 : Int32))))])
            refine step (fun t k => XS.aload X74.here hx rfl (hb hby at_309) (by rw [hls49]; rfl) rfl k) ?_
            show G T74 (mkF m 311 ls49 [(.ref b28), (.long (own_at8 A0 A1 A2 A3 B0 (0 : Int64) (0 : Int64) (0 : Int64) (((0 : Int32) + jj) % (8 : Int32))))])
            refine step (fun t k => XS.iload X74.here hx rfl (hb hby at_311) (by rw [hls49]; rfl) k) ?_
            show G T74 (mkF m 313 ls49 [(.int 0), (.ref b28), (.long (own_at8 A0 A1 A2 A3 B0 (0 : Int64) (0 : Int64) (0 : Int64) (((0 : Int32) + jj) % (8 : Int32))))])
            refine step (fun t k => XS.iload X74.here hx rfl (hb hby at_313) (by rw [hls49]; rfl) k) ?_
            show G T74 (mkF m 315 ls49 [(.int jj), (.int 0), (.ref b28), (.long (own_at8 A0 A1 A2 A3 B0 (0 : Int64) (0 : Int64) (0 : Int64) (((0 : Int32) + jj) % (8 : Int32))))])
            refine step (fun t k => XS.iadd X74.here hx rfl (hb hby at_315) rfl k) ?_
            show G T74 (mkF m 316 ls49 [(.int ((0 : Int32) + jj)), (.ref b28), (.long (own_at8 A0 A1 A2 A3 B0 (0 : Int64) (0 : Int64) (0 : Int64) (((0 : Int32) + jj) % (8 : Int32))))])
            have f76 := (Arv.keep (Arv.keep (Arv.keep (Arv.keep (Arv.keep (Arv.keep (Arv.keep ((Arv.keep V34 K36q nin0).ext E39) K41q (ninS (Nat.ne_of_lt lt_b28_b39) nin0)) K45q (ninS (Nat.ne_of_lt lt_b28_b39) (ninS (Nat.ne_of_lt lt_b28_b41) nin0))) K46q (ninS (Nat.ne_of_lt lt_b28_b39) (ninS (Nat.ne_of_lt lt_b28_b41) nin0))) K47q (ninS (Nat.ne_of_lt lt_b28_b39) (ninS (Nat.ne_of_lt lt_b28_b41) nin0))) K48q (ninS (Nat.ne_of_lt lt_b28_b39) (ninS (Nat.ne_of_lt lt_b28_b41) nin0))) K50q (ninS (Nat.ne_of_lt lt_b28_b39) nin0)) K69q (ninS (Nat.ne_of_lt lt_b28_b39) nin0))
            have q77 := own_ldJ X74 hx hZ e74 f76 (j := ((0 : Int32) + jj)) (v := .long (own_at6 A0 A1 A2 A3 B0 B1 ((0 : Int32) + jj))) (by rcases hj with rfl | rfl | rfl | rfl | rfl <;> decide) (own_get6 (by rcases hj with rfl | rfl | rfl | rfl | rfl <;> decide)) (g := (mkF m 316 ls49 [(.int ((0 : Int32) + jj)), (.ref b28), (.long (own_at8 A0 A1 A2 A3 B0 (0 : Int64) (0 : Int64) (0 : Int64) (((0 : Int32) + jj) % (8 : Int32))))])) rfl rfl (hb hby at_316)
            refine step q77 ?_
            show G T74 (mkF m 317 ls49 [(.long (own_at6 A0 A1 A2 A3 B0 B1 ((0 : Int32) + jj))), (.long (own_at8 A0 A1 A2 A3 B0 (0 : Int64) (0 : Int64) (0 : Int64) (((0 : Int32) + jj) % (8 : Int32))))])
            refine step (fun t k => XS.lcmp X74.here hx rfl (hb hby at_317) rfl k) ?_
            show G T74 (mkF m 318 ls49 [(.int (lcmpW (own_at8 A0 A1 A2 A3 B0 (0 : Int64) (0 : Int64) (0 : Int64) (((0 : Int32) + jj) % (8 : Int32))) (own_at6 A0 A1 A2 A3 B0 B1 ((0 : Int32) + jj))))])
            refine step (fun t k => XS.ifNo X74.here hx rfl (hb hby at_318) rfl ((if0 _ _).trans (teq ((lw_eq _ _).mpr (by rcases hj with rfl | rfl | rfl | rfl | rfl <;> rfl))).2) k) ?_
            show G T74 (mkF m 321 ls49 [])
            refine step (fun t k => XS.iconst X74.here hx rfl (hb hby at_321) k) ?_
            show G T74 (mkF m 322 ls49 [(.int 1)])
            refine step (fun t k => XS.goto X74.here hx rfl (pc0 := 322) (pc' := 326) rfl (hb hby at_322) (by decide) (by decide) k) ?_
            show G T74 (mkF m 326 ls49 [(.int 1)])
            exact ret (v := some (.int 1)) X74 hS hk69 (fun h => by rw [Bd.returns] at h; cases h) (fun fs hr => retN X74 hx (t := .boolean) Bd.returns (by simp) (hb hby at_326) hr) e74 ⟨rfl, N74⟩ (by decide) (by decide)
          · skip
            refine step (fun t k => XS.icmpNo X69.here hx rfl (hb hby at_292) rfl (flt hc73).1 k) ?_
            show G T69 (mkF m 295 ls49 [])
            refine step (fun t k => XS.aload X69.here hx rfl (hb hby at_295) (by rw [hls49]; rfl) rfl k) ?_
            show G T69 (mkF m 297 ls49 [(.ref b39)])
            refine step (fun t k => XS.lload X69.here hx rfl (hb hby at_297) (by rw [hls49]; rfl) k) ?_
            show G T69 (mkF m 299 ls49 [(.long B1), (.ref b39)])
            have hK78 := (backOf (R := room_1) (p := p) (e := e) (below := below) (args := #[(.long q0), (.int p1), (.int p2), (.int p3), (.int p4)]) (len := 3) (W := 0) (rm_add_8_5 l Z a0 hw [] w_SLIDING w_CALENDAR w_SwitchMap_co b39 B1 b69 kb_69 A0 A1 A2 A3 B0 (0 : Int64) (0 : Int64) (0 : Int64) (0 : Int32) (5 : Int32) (6 : Int32) T69.heap n0 (own_old_le O69) ST O69 Y69_1 ge_b39 Y69_2 ge_b69 Y69_3 Y69_4 Y69_5 (by decide : ¬ ((5 : Int32) = (8 : Int32))) (by decide : ((5 : Int32) + (1 : Int32)) = (6 : Int32)) (by decide : (((0 : Int32) + (5 : Int32)) % (8 : Int32)) = (5 : Int32))) hZ (ww55 hw) (ww44 hw) (by decide) (by decide))
            obtain ⟨cq78, kq78, q78a, q78b, q78c⟩ := isOf hZ rfl Y69_1
            obtain ⟨_, _, ⟨T78, L78, k78, n78⟩, -, X78, ⟨Lc78, hQ78, l78, y78, z78⟩, st78⟩ := X69.virtualBack hx (y := y_8) (z := y_8) hown (mvT hZ (ww51 hw)) (mvT hZ (ww52 hw)) (notFace_of_selects (args := #[]) (mvT hZ (ww54 hw))) (mvT hZ (ww54 hw)) (mvT hZ (ww53 hw)) (by decide) hK78 q78a q78c (g := (mkF m 299 ls49 [(.long B1), (.ref b39)])) rfl (by rw [hml, hls49]; rfl) (Steps.refl _) (argsL := [(.long B1)]) (rest := []) (lenOf pd_4 rfl) rfl (by show 2 * 0 + _ ≤ _; exact Nat.le_of_eq rfl) (hb hby at_299) (fun _ _ => ⟨rfl, rfl, (by decide : 7 + 0 ≤ _), (by decide : 44 + 0 ≤ _)⟩)
            dsimp only [Pt.U, Pt.locs, Pt.cells, Pt.slots] at X78 l78 y78 z78 st78 hQ78
            subst l78 y78 z78
            obtain ⟨rfl, N78q, K78q, Y78_0, Y78_1, Y78_2, Y78_3, Y78_4⟩ := hQ78
            have N78 := Fr.app N69 N78q
            obtain ⟨lc78, X78, N78⟩ := own_gen X78 N78
            have O78 := O69.keep K78q (allS ge_b39 (allS ge_b69 all0))
            have hk78 : _ ≤ T78.heap.size := Nat.le_trans hk69 K78q.1
            refine step (fun t k => st78.trans k) ?_
            show G T78 (mkF m 302 ls49 [])
            have hz : sz.toInt = 6 := by
              have q := c_iadd (4 : Int32) ee
              rw [← hsz] at q
              have q4 : (4 : Int32).toInt = 4 := by decide
              have q5 := own_e p3 ee hee
              have q1 : (1 : Int32).toInt = 1 := by decide
              have q2 : (2 : Int32).toInt = 2 := by decide
              have z  := hc54
              rw [own_xlt] at z 
              have z  := hc73
              rw [own_xlt] at z 
              have r := rng32 sz
              omega
            have hj := own_j6 p4 jj sz hz hjj
            refine step (fun t k => XS.aload X78.here hx rfl (hb hby at_302) (by rw [hls49]; rfl) rfl k) ?_
            show G T78 (mkF m 304 ls49 [(.ref b39)])
            refine step (fun t k => XS.iload X78.here hx rfl (hb hby at_304) (by rw [hls49]; rfl) k) ?_
            show G T78 (mkF m 306 ls49 [(.int jj), (.ref b39)])
            have hK79 := (backOf (R := room_1) (p := p) (e := e) (below := below) (args := #[(.long q0), (.int p1), (.int p2), (.int p3), (.int p4)]) (len := 3) (W := 0) (rm_get8 l Z a0 hw [] w_SLIDING w_CALENDAR w_SwitchMap_co b39 jj b69 kb_69 A0 A1 A2 A3 B0 B1 (0 : Int64) (0 : Int64) (0 : Int32) T78.heap n0 (own_old_le O78) ST O78 Y78_1 Y78_2 Y78_4 (by rcases hj with rfl | rfl | rfl | rfl | rfl | rfl <;> decide)) hZ (ww95 hw) (ww44 hw) (by decide) (by decide))
            obtain ⟨cq79, kq79, q79a, q79b, q79c⟩ := isOf hZ rfl Y78_0
            obtain ⟨_, _, ⟨T79, L79, k79, n79⟩, -, X79, ⟨Lc79, hQ79, l79, y79, z79⟩, st79⟩ := X78.virtualBack hx (y := y_12) (z := y_12) hown (mvT hZ (ww91 hw)) (mvT hZ (ww92 hw)) (notFace_of_selects (args := #[]) (mvT hZ (ww94 hw))) (mvT hZ (ww94 hw)) (mvT hZ (ww93 hw)) (by decide) hK79 q79a q79c (g := (mkF m 306 ls49 [(.int jj), (.ref b39)])) rfl (by rw [hml, hls49]; rfl) (Steps.refl _) (argsL := [(.int jj)]) (rest := []) (lenOf pd_9 rfl) rfl (by show 2 * 0 + _ ≤ _; exact Nat.le_of_eq rfl) (hb hby at_306) (fun _ _ => ⟨rfl, rfl, (by decide : 7 + 0 ≤ _), (by decide : 44 + 0 ≤ _)⟩)
            dsimp only [Pt.U, Pt.locs, Pt.cells, Pt.slots] at X79 l79 y79 z79 st79 hQ79
            subst l79 y79 z79
            obtain ⟨rfl, N79q, e79⟩ := hQ79
            have N79 := Fr.app N78 N79q
            obtain ⟨lc79, X79, N79⟩ := own_gen X79 N79
            refine step (fun t k => st79.trans k) ?_
            show G T79 (mkF m 309 ls49 [(.long (f_get8 w_SLIDING w_CALENDAR w_SwitchMap_co b39 jj b69 kb_69 A0 A1 A2 A3 B0 B1 (0 : Int64) (0 : Int64) (0 : Int32)))])
            have r80 : (f_get8 w_SLIDING w_CALENDAR w_SwitchMap_co b39 jj b69 kb_69 A0 A1 A2 A3 B0 B1 (0 : Int64) (0 : Int64) (0 : Int32)) = (own_at8 A0 A1 A2 A3 B0 B1 (0 : Int64) (0 : Int64) (((0 : Int32) + jj) % (8 : Int32))) := rfl
            rw [r80]
            show G T79 (mkF m 309 ls49 [(.long (own_at8 A0 A1 A2 A3 B0 B1 (0 : Int64) (0 : Int64) (((0 : Int32) + jj) % (8 : Int32))))])
            refine step (fun t k => XS.aload X79.here hx rfl (hb hby at_309) (by rw [hls49]; rfl) rfl k) ?_
            show G T79 (mkF m 311 ls49 [(.ref b28), (.long (own_at8 A0 A1 A2 A3 B0 B1 (0 : Int64) (0 : Int64) (((0 : Int32) + jj) % (8 : Int32))))])
            refine step (fun t k => XS.iload X79.here hx rfl (hb hby at_311) (by rw [hls49]; rfl) k) ?_
            show G T79 (mkF m 313 ls49 [(.int 0), (.ref b28), (.long (own_at8 A0 A1 A2 A3 B0 B1 (0 : Int64) (0 : Int64) (((0 : Int32) + jj) % (8 : Int32))))])
            refine step (fun t k => XS.iload X79.here hx rfl (hb hby at_313) (by rw [hls49]; rfl) k) ?_
            show G T79 (mkF m 315 ls49 [(.int jj), (.int 0), (.ref b28), (.long (own_at8 A0 A1 A2 A3 B0 B1 (0 : Int64) (0 : Int64) (((0 : Int32) + jj) % (8 : Int32))))])
            refine step (fun t k => XS.iadd X79.here hx rfl (hb hby at_315) rfl k) ?_
            show G T79 (mkF m 316 ls49 [(.int ((0 : Int32) + jj)), (.ref b28), (.long (own_at8 A0 A1 A2 A3 B0 B1 (0 : Int64) (0 : Int64) (((0 : Int32) + jj) % (8 : Int32))))])
            have f81 := (Arv.keep (Arv.keep (Arv.keep (Arv.keep (Arv.keep (Arv.keep (Arv.keep (Arv.keep ((Arv.keep V34 K36q nin0).ext E39) K41q (ninS (Nat.ne_of_lt lt_b28_b39) nin0)) K45q (ninS (Nat.ne_of_lt lt_b28_b39) (ninS (Nat.ne_of_lt lt_b28_b41) nin0))) K46q (ninS (Nat.ne_of_lt lt_b28_b39) (ninS (Nat.ne_of_lt lt_b28_b41) nin0))) K47q (ninS (Nat.ne_of_lt lt_b28_b39) (ninS (Nat.ne_of_lt lt_b28_b41) nin0))) K48q (ninS (Nat.ne_of_lt lt_b28_b39) (ninS (Nat.ne_of_lt lt_b28_b41) nin0))) K50q (ninS (Nat.ne_of_lt lt_b28_b39) nin0)) K69q (ninS (Nat.ne_of_lt lt_b28_b39) nin0)) K78q (ninS (Nat.ne_of_lt lt_b28_b39) (ninS (Nat.ne_of_lt lt_b28_b69) nin0)))
            have q82 := own_ldJ X79 hx hZ e79 f81 (j := ((0 : Int32) + jj)) (v := .long (own_at6 A0 A1 A2 A3 B0 B1 ((0 : Int32) + jj))) (by rcases hj with rfl | rfl | rfl | rfl | rfl | rfl <;> decide) (own_get6 (by rcases hj with rfl | rfl | rfl | rfl | rfl | rfl <;> decide)) (g := (mkF m 316 ls49 [(.int ((0 : Int32) + jj)), (.ref b28), (.long (own_at8 A0 A1 A2 A3 B0 B1 (0 : Int64) (0 : Int64) (((0 : Int32) + jj) % (8 : Int32))))])) rfl rfl (hb hby at_316)
            refine step q82 ?_
            show G T79 (mkF m 317 ls49 [(.long (own_at6 A0 A1 A2 A3 B0 B1 ((0 : Int32) + jj))), (.long (own_at8 A0 A1 A2 A3 B0 B1 (0 : Int64) (0 : Int64) (((0 : Int32) + jj) % (8 : Int32))))])
            refine step (fun t k => XS.lcmp X79.here hx rfl (hb hby at_317) rfl k) ?_
            show G T79 (mkF m 318 ls49 [(.int (lcmpW (own_at8 A0 A1 A2 A3 B0 B1 (0 : Int64) (0 : Int64) (((0 : Int32) + jj) % (8 : Int32))) (own_at6 A0 A1 A2 A3 B0 B1 ((0 : Int32) + jj))))])
            refine step (fun t k => XS.ifNo X79.here hx rfl (hb hby at_318) rfl ((if0 _ _).trans (teq ((lw_eq _ _).mpr (by rcases hj with rfl | rfl | rfl | rfl | rfl | rfl <;> rfl))).2) k) ?_
            show G T79 (mkF m 321 ls49 [])
            refine step (fun t k => XS.iconst X79.here hx rfl (hb hby at_321) k) ?_
            show G T79 (mkF m 322 ls49 [(.int 1)])
            refine step (fun t k => XS.goto X79.here hx rfl (pc0 := 322) (pc' := 326) rfl (hb hby at_322) (by decide) (by decide) k) ?_
            show G T79 (mkF m 326 ls49 [(.int 1)])
            exact ret (v := some (.int 1)) X79 hS hk78 (fun h => by rw [Bd.returns] at h; cases h) (fun fs hr => retN X79 hx (t := .boolean) Bd.returns (by simp) (hb hby at_326) hr) e79 ⟨rfl, N79⟩ (by decide) (by decide)
      · rw [hkq] at hsz
        obtain ⟨ls83, hls83⟩  := own_sl #[.val (.long q0), .second, .val (.int p1), .val (.int p2), .val (.int p3), .val (.int p4), .val (.long A0), .second, .val (.long A1), .second, .val (.long A2), .second, .val (.long A3), .second, .val (.long nw), .second, .val (.long B0), .second, .val (.long B1), .second, .val (.long mm), .second, .val (.int ee), .val (.long last), .second, .val (.int 1), .val (.int sz), .val (.int jj), .val (.ref b28), .val (.ref b36), .val (.ref b39)]
        rw [show ls44 = ls83 from by rw [hls44, hls83, hkq]]
        show G T48 (mkF m 272 ls83 [(.long nw), (.ref b36), (.ref b39)])
        rw [(by decide : ((4 : Int32) - (1 : Int32)) = (3 : Int32))] at hsz
        have f85 := (Exa.keep (Exa.keep (Exa.keep (Exa.keep (Exa.keep f43 K41q) K45q) K46q) K47q) K48q)
        have f86 := (Fld.keep (Fld.keep (Fld.keep (Fld.keep (Fld.keep (Fld.ext E39 Y36_2) K41q (ninS (Nat.ne_of_lt lt_b36_b39) nin0)) K45q (ninS (Nat.ne_of_lt lt_b36_b39) (ninS (Nat.ne_of_lt lt_b36_b41) nin0))) K46q (ninS (Nat.ne_of_lt lt_b36_b39) (ninS (Nat.ne_of_lt lt_b36_b41) nin0))) K47q (ninS (Nat.ne_of_lt lt_b36_b39) (ninS (Nat.ne_of_lt lt_b36_b41) nin0))) K48q (ninS (Nat.ne_of_lt lt_b36_b39) (ninS (Nat.ne_of_lt lt_b36_b41) nin0)))
        have f87 := (Fld.keep (Fld.keep (Fld.keep (Fld.keep (Fld.keep (Fld.ext E39 Y36_3) K41q (ninS (Nat.ne_of_lt lt_b36_b39) nin0)) K45q (ninS (Nat.ne_of_lt lt_b36_b39) (ninS (Nat.ne_of_lt lt_b36_b41) nin0))) K46q (ninS (Nat.ne_of_lt lt_b36_b39) (ninS (Nat.ne_of_lt lt_b36_b41) nin0))) K47q (ninS (Nat.ne_of_lt lt_b36_b39) (ninS (Nat.ne_of_lt lt_b36_b41) nin0))) K48q (ninS (Nat.ne_of_lt lt_b36_b39) (ninS (Nat.ne_of_lt lt_b36_b41) nin0)))
        have hK84 := (backOf (R := room_1) (p := p) (e := e) (below := below) (args := #[(.long q0), (.int p1), (.int p2), (.int p3), (.int p4)]) (len := 3) (W := 0) (rm_cnt_4_0_4_1 l Z a0 hw [] w_SLIDING w_CALENDAR w_SwitchMap_co b39 b36 nw b41 kb_41 A0 A1 A2 A3 mm T48.heap n0 (own_old_le O48) ST O48 Y48_0 ge_b39 Y48_1 ge_b41 Y48_2 Y48_3 Y48_4 f85 f86 f87 ((hlast ▸ hl0) : ¬ ((nw - mm) < A0)) ((hlast ▸ hl1) : (nw - mm) < A1)) hZ (ww64 hw) (ww44 hw) (by decide) (by decide))
        obtain ⟨cq84, kq84, q84a, q84b, q84c⟩ := isOf hZ rfl Y48_0
        obtain ⟨_, _, ⟨T84, L84, k84, n84⟩, -, X84, ⟨Lc84, hQ84, l84, y84, z84⟩, st84⟩ := X48.virtualBack hx (y := y_11) (z := y_11) hown (mvT hZ (ww60 hw)) (mvT hZ (ww61 hw)) (notFace_of_selects (args := #[]) (mvT hZ (ww63 hw))) (mvT hZ (ww63 hw)) (mvT hZ (ww62 hw)) (by decide) hK84 q84a q84c (g := (mkF m 272 ls83 [(.long nw), (.ref b36), (.ref b39)])) rfl (by rw [hml, hls83]; rfl) (Steps.refl _) (argsL := [(.ref b36), (.long nw)]) (rest := []) (lenOf pd_8 rfl) rfl (by show 2 * 0 + _ ≤ _; exact Nat.le_of_eq rfl) (hb hby at_272) (fun _ _ => ⟨rfl, rfl, (by decide : 6 + 0 ≤ _), (by decide : 36 + 0 ≤ _)⟩)
        dsimp only [Pt.U, Pt.locs, Pt.cells, Pt.slots] at X84 l84 y84 z84 st84 hQ84
        subst l84 y84 z84
        obtain ⟨rfl, N84q, K84q, Y84_0, Y84_1, Y84_2, Y84_3⟩ := hQ84
        have N84 := Fr.app N48 N84q
        obtain ⟨lc84, X84, N84⟩ := own_gen X84 N84
        have O84 := O48.keep K84q (allS ge_b39 all0)
        have hk84 : _ ≤ T84.heap.size := Nat.le_trans hk48 K84q.1
        refine step (fun t k => st84.trans k) ?_
        show G T84 (mkF m 275 ls83 [(.int 3)])
        refine step (fun t k => XS.pop X84.here hx rfl (hb hby at_275) rfl rfl k) ?_
        show G T84 (mkF m 276 ls83 [])
        refine step (fun t k => XS.iload X84.here hx rfl (hb hby at_276) (by rw [hls83]; rfl) k) ?_
        show G T84 (mkF m 278 ls83 [(.int ee)])
        refine step (fun t k => XS.iconst X84.here hx rfl (hb hby at_278) k) ?_
        show G T84 (mkF m 279 ls83 [(.int 1), (.int ee)])
        by_cases hc88 : ee < (1 : Int32)
        · skip
          refine step (fun t k => XS.icmpYes X84.here hx rfl (pc0 := 279) (pc' := 289) rfl (hb hby at_279) rfl (tlt hc88).1 (by decide) (by decide) k) ?_
          show G T84 (mkF m 289 ls83 [])
          refine step (fun t k => XS.iload X84.here hx rfl (hb hby at_289) (by rw [hls83]; rfl) k) ?_
          show G T84 (mkF m 291 ls83 [(.int ee)])
          refine step (fun t k => XS.iconst X84.here hx rfl (hb hby at_291) k) ?_
          show G T84 (mkF m 292 ls83 [(.int 2), (.int ee)])
          by_cases hc89 : ee < (2 : Int32)
          · skip
            refine step (fun t k => XS.icmpYes X84.here hx rfl (pc0 := 292) (pc' := 302) rfl (hb hby at_292) rfl (tlt hc89).1 (by decide) (by decide) k) ?_
            show G T84 (mkF m 302 ls83 [])
            have hz : sz.toInt = 3 := by
              have q := c_iadd (3 : Int32) ee
              rw [← hsz] at q
              have q4 : (3 : Int32).toInt = 3 := by decide
              have q5 := own_e p3 ee hee
              have q1 : (1 : Int32).toInt = 1 := by decide
              have q2 : (2 : Int32).toInt = 2 := by decide
              have z  := hc88
              rw [own_xlt] at z 
              have z  := hc89
              rw [own_xlt] at z 
              have r := rng32 sz
              omega
            have hj := own_j3 p4 jj sz hz hjj
            refine step (fun t k => XS.aload X84.here hx rfl (hb hby at_302) (by rw [hls83]; rfl) rfl k) ?_
            show G T84 (mkF m 304 ls83 [(.ref b39)])
            refine step (fun t k => XS.iload X84.here hx rfl (hb hby at_304) (by rw [hls83]; rfl) k) ?_
            show G T84 (mkF m 306 ls83 [(.int jj), (.ref b39)])
            have f91 := (Arv.keep Y48_4 K84q (ninS (Nat.ne_of_gt lt_b39_b41) nin0))
            have hK90 := (backOf (R := room_1) (p := p) (e := e) (below := below) (args := #[(.long q0), (.int p1), (.int p2), (.int p3), (.int p4)]) (len := 3) (W := 0) (rm_get4 l Z a0 hw [] w_SLIDING w_CALENDAR w_SwitchMap_co b39 jj b41 kb_41 A0 A1 A2 A3 (1 : Int32) T84.heap n0 (own_old_le O84) ST O84 Y84_1 Y84_2 f91 (by rcases hj with rfl | rfl | rfl <;> decide)) hZ (ww95 hw) (ww44 hw) (by decide) (by decide))
            obtain ⟨cq90, kq90, q90a, q90b, q90c⟩ := isOf hZ rfl Y84_0
            obtain ⟨_, _, ⟨T90, L90, k90, n90⟩, -, X90, ⟨Lc90, hQ90, l90, y90, z90⟩, st90⟩ := X84.virtualBack hx (y := y_12) (z := y_12) hown (mvT hZ (ww91 hw)) (mvT hZ (ww92 hw)) (notFace_of_selects (args := #[]) (mvT hZ (ww94 hw))) (mvT hZ (ww94 hw)) (mvT hZ (ww93 hw)) (by decide) hK90 q90a q90c (g := (mkF m 306 ls83 [(.int jj), (.ref b39)])) rfl (by rw [hml, hls83]; rfl) (Steps.refl _) (argsL := [(.int jj)]) (rest := []) (lenOf pd_9 rfl) rfl (by show 2 * 0 + _ ≤ _; exact Nat.le_of_eq rfl) (hb hby at_306) (fun _ _ => ⟨rfl, rfl, (by decide : 6 + 0 ≤ _), (by decide : 36 + 0 ≤ _)⟩)
            dsimp only [Pt.U, Pt.locs, Pt.cells, Pt.slots] at X90 l90 y90 z90 st90 hQ90
            subst l90 y90 z90
            obtain ⟨rfl, N90q, e90⟩ := hQ90
            have N90 := Fr.app N84 N90q
            obtain ⟨lc90, X90, N90⟩ := own_gen X90 N90
            refine step (fun t k => st90.trans k) ?_
            show G T90 (mkF m 309 ls83 [(.long (f_get4 w_SLIDING w_CALENDAR w_SwitchMap_co b39 jj b41 kb_41 A0 A1 A2 A3 (1 : Int32)))])
            have r92 : (f_get4 w_SLIDING w_CALENDAR w_SwitchMap_co b39 jj b41 kb_41 A0 A1 A2 A3 (1 : Int32)) = (own_at4 A0 A1 A2 A3 (((1 : Int32) + jj) % (4 : Int32))) := rfl
            rw [r92]
            show G T90 (mkF m 309 ls83 [(.long (own_at4 A0 A1 A2 A3 (((1 : Int32) + jj) % (4 : Int32))))])
            refine step (fun t k => XS.aload X90.here hx rfl (hb hby at_309) (by rw [hls83]; rfl) rfl k) ?_
            show G T90 (mkF m 311 ls83 [(.ref b28), (.long (own_at4 A0 A1 A2 A3 (((1 : Int32) + jj) % (4 : Int32))))])
            refine step (fun t k => XS.iload X90.here hx rfl (hb hby at_311) (by rw [hls83]; rfl) k) ?_
            show G T90 (mkF m 313 ls83 [(.int 1), (.ref b28), (.long (own_at4 A0 A1 A2 A3 (((1 : Int32) + jj) % (4 : Int32))))])
            refine step (fun t k => XS.iload X90.here hx rfl (hb hby at_313) (by rw [hls83]; rfl) k) ?_
            show G T90 (mkF m 315 ls83 [(.int jj), (.int 1), (.ref b28), (.long (own_at4 A0 A1 A2 A3 (((1 : Int32) + jj) % (4 : Int32))))])
            refine step (fun t k => XS.iadd X90.here hx rfl (hb hby at_315) rfl k) ?_
            show G T90 (mkF m 316 ls83 [(.int ((1 : Int32) + jj)), (.ref b28), (.long (own_at4 A0 A1 A2 A3 (((1 : Int32) + jj) % (4 : Int32))))])
            have f93 := (Arv.keep (Arv.keep (Arv.keep (Arv.keep (Arv.keep (Arv.keep ((Arv.keep V34 K36q nin0).ext E39) K41q (ninS (Nat.ne_of_lt lt_b28_b39) nin0)) K45q (ninS (Nat.ne_of_lt lt_b28_b39) (ninS (Nat.ne_of_lt lt_b28_b41) nin0))) K46q (ninS (Nat.ne_of_lt lt_b28_b39) (ninS (Nat.ne_of_lt lt_b28_b41) nin0))) K47q (ninS (Nat.ne_of_lt lt_b28_b39) (ninS (Nat.ne_of_lt lt_b28_b41) nin0))) K48q (ninS (Nat.ne_of_lt lt_b28_b39) (ninS (Nat.ne_of_lt lt_b28_b41) nin0))) K84q (ninS (Nat.ne_of_lt lt_b28_b39) nin0))
            have q94 := own_ldJ X90 hx hZ e90 f93 (j := ((1 : Int32) + jj)) (v := .long (own_at6 A0 A1 A2 A3 B0 B1 ((1 : Int32) + jj))) (by rcases hj with rfl | rfl | rfl <;> decide) (own_get6 (by rcases hj with rfl | rfl | rfl <;> decide)) (g := (mkF m 316 ls83 [(.int ((1 : Int32) + jj)), (.ref b28), (.long (own_at4 A0 A1 A2 A3 (((1 : Int32) + jj) % (4 : Int32))))])) rfl rfl (hb hby at_316)
            refine step q94 ?_
            show G T90 (mkF m 317 ls83 [(.long (own_at6 A0 A1 A2 A3 B0 B1 ((1 : Int32) + jj))), (.long (own_at4 A0 A1 A2 A3 (((1 : Int32) + jj) % (4 : Int32))))])
            refine step (fun t k => XS.lcmp X90.here hx rfl (hb hby at_317) rfl k) ?_
            show G T90 (mkF m 318 ls83 [(.int (lcmpW (own_at4 A0 A1 A2 A3 (((1 : Int32) + jj) % (4 : Int32))) (own_at6 A0 A1 A2 A3 B0 B1 ((1 : Int32) + jj))))])
            refine step (fun t k => XS.ifNo X90.here hx rfl (hb hby at_318) rfl ((if0 _ _).trans (teq ((lw_eq _ _).mpr (by rcases hj with rfl | rfl | rfl <;> rfl))).2) k) ?_
            show G T90 (mkF m 321 ls83 [])
            refine step (fun t k => XS.iconst X90.here hx rfl (hb hby at_321) k) ?_
            show G T90 (mkF m 322 ls83 [(.int 1)])
            refine step (fun t k => XS.goto X90.here hx rfl (pc0 := 322) (pc' := 326) rfl (hb hby at_322) (by decide) (by decide) k) ?_
            show G T90 (mkF m 326 ls83 [(.int 1)])
            exact ret (v := some (.int 1)) X90 hS hk84 (fun h => by rw [Bd.returns] at h; cases h) (fun fs hr => retN X90 hx (t := .boolean) Bd.returns (by simp) (hb hby at_326) hr) e90 ⟨rfl, N90⟩ (by decide) (by decide)
          · skip
            refine step (fun t k => XS.icmpNo X84.here hx rfl (hb hby at_292) rfl (flt hc89).1 k) ?_
            show G T84 (mkF m 295 ls83 [])
            refine step (fun t k => XS.aload X84.here hx rfl (hb hby at_295) (by rw [hls83]; rfl) rfl k) ?_
            show G T84 (mkF m 297 ls83 [(.ref b39)])
            refine step (fun t k => XS.lload X84.here hx rfl (hb hby at_297) (by rw [hls83]; rfl) k) ?_
            show G T84 (mkF m 299 ls83 [(.long B1), (.ref b39)])
            have f96 := (Arv.keep Y48_4 K84q (ninS (Nat.ne_of_gt lt_b39_b41) nin0))
            have hK95 := (backOf (R := room_1) (p := p) (e := e) (below := below) (args := #[(.long q0), (.int p1), (.int p2), (.int p3), (.int p4)]) (len := 3) (W := 0) (rm_add_4_0 l Z a0 hw [] w_SLIDING w_CALENDAR w_SwitchMap_co b39 B1 b41 kb_41 A0 A1 A2 A3 (1 : Int32) (3 : Int32) (4 : Int32) T84.heap n0 (own_old_le O84) ST O84 Y84_0 ge_b39 Y84_1 ge_b41 Y84_2 Y84_3 f96 (by decide : ¬ ((3 : Int32) = (4 : Int32))) (by decide : ((3 : Int32) + (1 : Int32)) = (4 : Int32)) (by decide : (((1 : Int32) + (3 : Int32)) % (4 : Int32)) = (0 : Int32))) hZ (ww55 hw) (ww44 hw) (by decide) (by decide))
            obtain ⟨cq95, kq95, q95a, q95b, q95c⟩ := isOf hZ rfl Y84_0
            obtain ⟨_, _, ⟨T95, L95, k95, n95⟩, -, X95, ⟨Lc95, hQ95, l95, y95, z95⟩, st95⟩ := X84.virtualBack hx (y := y_8) (z := y_8) hown (mvT hZ (ww51 hw)) (mvT hZ (ww52 hw)) (notFace_of_selects (args := #[]) (mvT hZ (ww54 hw))) (mvT hZ (ww54 hw)) (mvT hZ (ww53 hw)) (by decide) hK95 q95a q95c (g := (mkF m 299 ls83 [(.long B1), (.ref b39)])) rfl (by rw [hml, hls83]; rfl) (Steps.refl _) (argsL := [(.long B1)]) (rest := []) (lenOf pd_4 rfl) rfl (by show 2 * 0 + _ ≤ _; exact Nat.le_of_eq rfl) (hb hby at_299) (fun _ _ => ⟨rfl, rfl, (by decide : 6 + 0 ≤ _), (by decide : 36 + 0 ≤ _)⟩)
            dsimp only [Pt.U, Pt.locs, Pt.cells, Pt.slots] at X95 l95 y95 z95 st95 hQ95
            subst l95 y95 z95
            obtain ⟨rfl, N95q, K95q, Y95_0, Y95_1, Y95_2, Y95_3, Y95_4⟩ := hQ95
            have N95 := Fr.app N84 N95q
            obtain ⟨lc95, X95, N95⟩ := own_gen X95 N95
            have O95 := O84.keep K95q (allS ge_b39 (allS ge_b41 all0))
            have hk95 : _ ≤ T95.heap.size := Nat.le_trans hk84 K95q.1
            refine step (fun t k => st95.trans k) ?_
            show G T95 (mkF m 302 ls83 [])
            have hz : sz.toInt = 3 := by
              have q := c_iadd (3 : Int32) ee
              rw [← hsz] at q
              have q4 : (3 : Int32).toInt = 3 := by decide
              have q5 := own_e p3 ee hee
              have q1 : (1 : Int32).toInt = 1 := by decide
              have q2 : (2 : Int32).toInt = 2 := by decide
              have z  := hc88
              rw [own_xlt] at z 
              have z  := hc89
              rw [own_xlt] at z 
              have r := rng32 sz
              omega
            have hj := own_j3 p4 jj sz hz hjj
            refine step (fun t k => XS.aload X95.here hx rfl (hb hby at_302) (by rw [hls83]; rfl) rfl k) ?_
            show G T95 (mkF m 304 ls83 [(.ref b39)])
            refine step (fun t k => XS.iload X95.here hx rfl (hb hby at_304) (by rw [hls83]; rfl) k) ?_
            show G T95 (mkF m 306 ls83 [(.int jj), (.ref b39)])
            have hK97 := (backOf (R := room_1) (p := p) (e := e) (below := below) (args := #[(.long q0), (.int p1), (.int p2), (.int p3), (.int p4)]) (len := 3) (W := 0) (rm_get4 l Z a0 hw [] w_SLIDING w_CALENDAR w_SwitchMap_co b39 jj b41 kb_41 B1 A1 A2 A3 (1 : Int32) T95.heap n0 (own_old_le O95) ST O95 Y95_1 Y95_2 Y95_4 (by rcases hj with rfl | rfl | rfl <;> decide)) hZ (ww95 hw) (ww44 hw) (by decide) (by decide))
            obtain ⟨cq97, kq97, q97a, q97b, q97c⟩ := isOf hZ rfl Y95_0
            obtain ⟨_, _, ⟨T97, L97, k97, n97⟩, -, X97, ⟨Lc97, hQ97, l97, y97, z97⟩, st97⟩ := X95.virtualBack hx (y := y_12) (z := y_12) hown (mvT hZ (ww91 hw)) (mvT hZ (ww92 hw)) (notFace_of_selects (args := #[]) (mvT hZ (ww94 hw))) (mvT hZ (ww94 hw)) (mvT hZ (ww93 hw)) (by decide) hK97 q97a q97c (g := (mkF m 306 ls83 [(.int jj), (.ref b39)])) rfl (by rw [hml, hls83]; rfl) (Steps.refl _) (argsL := [(.int jj)]) (rest := []) (lenOf pd_9 rfl) rfl (by show 2 * 0 + _ ≤ _; exact Nat.le_of_eq rfl) (hb hby at_306) (fun _ _ => ⟨rfl, rfl, (by decide : 6 + 0 ≤ _), (by decide : 36 + 0 ≤ _)⟩)
            dsimp only [Pt.U, Pt.locs, Pt.cells, Pt.slots] at X97 l97 y97 z97 st97 hQ97
            subst l97 y97 z97
            obtain ⟨rfl, N97q, e97⟩ := hQ97
            have N97 := Fr.app N95 N97q
            obtain ⟨lc97, X97, N97⟩ := own_gen X97 N97
            refine step (fun t k => st97.trans k) ?_
            show G T97 (mkF m 309 ls83 [(.long (f_get4 w_SLIDING w_CALENDAR w_SwitchMap_co b39 jj b41 kb_41 B1 A1 A2 A3 (1 : Int32)))])
            have r98 : (f_get4 w_SLIDING w_CALENDAR w_SwitchMap_co b39 jj b41 kb_41 B1 A1 A2 A3 (1 : Int32)) = (own_at4 B1 A1 A2 A3 (((1 : Int32) + jj) % (4 : Int32))) := rfl
            rw [r98]
            show G T97 (mkF m 309 ls83 [(.long (own_at4 B1 A1 A2 A3 (((1 : Int32) + jj) % (4 : Int32))))])
            refine step (fun t k => XS.aload X97.here hx rfl (hb hby at_309) (by rw [hls83]; rfl) rfl k) ?_
            show G T97 (mkF m 311 ls83 [(.ref b28), (.long (own_at4 B1 A1 A2 A3 (((1 : Int32) + jj) % (4 : Int32))))])
            refine step (fun t k => XS.iload X97.here hx rfl (hb hby at_311) (by rw [hls83]; rfl) k) ?_
            show G T97 (mkF m 313 ls83 [(.int 1), (.ref b28), (.long (own_at4 B1 A1 A2 A3 (((1 : Int32) + jj) % (4 : Int32))))])
            refine step (fun t k => XS.iload X97.here hx rfl (hb hby at_313) (by rw [hls83]; rfl) k) ?_
            show G T97 (mkF m 315 ls83 [(.int jj), (.int 1), (.ref b28), (.long (own_at4 B1 A1 A2 A3 (((1 : Int32) + jj) % (4 : Int32))))])
            refine step (fun t k => XS.iadd X97.here hx rfl (hb hby at_315) rfl k) ?_
            show G T97 (mkF m 316 ls83 [(.int ((1 : Int32) + jj)), (.ref b28), (.long (own_at4 B1 A1 A2 A3 (((1 : Int32) + jj) % (4 : Int32))))])
            have f99 := (Arv.keep (Arv.keep (Arv.keep (Arv.keep (Arv.keep (Arv.keep (Arv.keep ((Arv.keep V34 K36q nin0).ext E39) K41q (ninS (Nat.ne_of_lt lt_b28_b39) nin0)) K45q (ninS (Nat.ne_of_lt lt_b28_b39) (ninS (Nat.ne_of_lt lt_b28_b41) nin0))) K46q (ninS (Nat.ne_of_lt lt_b28_b39) (ninS (Nat.ne_of_lt lt_b28_b41) nin0))) K47q (ninS (Nat.ne_of_lt lt_b28_b39) (ninS (Nat.ne_of_lt lt_b28_b41) nin0))) K48q (ninS (Nat.ne_of_lt lt_b28_b39) (ninS (Nat.ne_of_lt lt_b28_b41) nin0))) K84q (ninS (Nat.ne_of_lt lt_b28_b39) nin0)) K95q (ninS (Nat.ne_of_lt lt_b28_b39) (ninS (Nat.ne_of_lt lt_b28_b41) nin0)))
            have q100 := own_ldJ X97 hx hZ e97 f99 (j := ((1 : Int32) + jj)) (v := .long (own_at6 A0 A1 A2 A3 B0 B1 ((1 : Int32) + jj))) (by rcases hj with rfl | rfl | rfl <;> decide) (own_get6 (by rcases hj with rfl | rfl | rfl <;> decide)) (g := (mkF m 316 ls83 [(.int ((1 : Int32) + jj)), (.ref b28), (.long (own_at4 B1 A1 A2 A3 (((1 : Int32) + jj) % (4 : Int32))))])) rfl rfl (hb hby at_316)
            refine step q100 ?_
            show G T97 (mkF m 317 ls83 [(.long (own_at6 A0 A1 A2 A3 B0 B1 ((1 : Int32) + jj))), (.long (own_at4 B1 A1 A2 A3 (((1 : Int32) + jj) % (4 : Int32))))])
            refine step (fun t k => XS.lcmp X97.here hx rfl (hb hby at_317) rfl k) ?_
            show G T97 (mkF m 318 ls83 [(.int (lcmpW (own_at4 B1 A1 A2 A3 (((1 : Int32) + jj) % (4 : Int32))) (own_at6 A0 A1 A2 A3 B0 B1 ((1 : Int32) + jj))))])
            refine step (fun t k => XS.ifNo X97.here hx rfl (hb hby at_318) rfl ((if0 _ _).trans (teq ((lw_eq _ _).mpr (by rcases hj with rfl | rfl | rfl <;> rfl))).2) k) ?_
            show G T97 (mkF m 321 ls83 [])
            refine step (fun t k => XS.iconst X97.here hx rfl (hb hby at_321) k) ?_
            show G T97 (mkF m 322 ls83 [(.int 1)])
            refine step (fun t k => XS.goto X97.here hx rfl (pc0 := 322) (pc' := 326) rfl (hb hby at_322) (by decide) (by decide) k) ?_
            show G T97 (mkF m 326 ls83 [(.int 1)])
            exact ret (v := some (.int 1)) X97 hS hk95 (fun h => by rw [Bd.returns] at h; cases h) (fun fs hr => retN X97 hx (t := .boolean) Bd.returns (by simp) (hb hby at_326) hr) e97 ⟨rfl, N97⟩ (by decide) (by decide)
        · skip
          refine step (fun t k => XS.icmpNo X84.here hx rfl (hb hby at_279) rfl (flt hc88).1 k) ?_
          show G T84 (mkF m 282 ls83 [])
          refine step (fun t k => XS.aload X84.here hx rfl (hb hby at_282) (by rw [hls83]; rfl) rfl k) ?_
          show G T84 (mkF m 284 ls83 [(.ref b39)])
          refine step (fun t k => XS.lload X84.here hx rfl (hb hby at_284) (by rw [hls83]; rfl) k) ?_
          show G T84 (mkF m 286 ls83 [(.long B0), (.ref b39)])
          have f102 := (Arv.keep Y48_4 K84q (ninS (Nat.ne_of_gt lt_b39_b41) nin0))
          have hK101 := (backOf (R := room_1) (p := p) (e := e) (below := below) (args := #[(.long q0), (.int p1), (.int p2), (.int p3), (.int p4)]) (len := 3) (W := 0) (rm_add_4_0 l Z a0 hw [] w_SLIDING w_CALENDAR w_SwitchMap_co b39 B0 b41 kb_41 A0 A1 A2 A3 (1 : Int32) (3 : Int32) (4 : Int32) T84.heap n0 (own_old_le O84) ST O84 Y84_0 ge_b39 Y84_1 ge_b41 Y84_2 Y84_3 f102 (by decide : ¬ ((3 : Int32) = (4 : Int32))) (by decide : ((3 : Int32) + (1 : Int32)) = (4 : Int32)) (by decide : (((1 : Int32) + (3 : Int32)) % (4 : Int32)) = (0 : Int32))) hZ (ww55 hw) (ww44 hw) (by decide) (by decide))
          obtain ⟨cq101, kq101, q101a, q101b, q101c⟩ := isOf hZ rfl Y84_0
          obtain ⟨_, _, ⟨T101, L101, k101, n101⟩, -, X101, ⟨Lc101, hQ101, l101, y101, z101⟩, st101⟩ := X84.virtualBack hx (y := y_8) (z := y_8) hown (mvT hZ (ww51 hw)) (mvT hZ (ww52 hw)) (notFace_of_selects (args := #[]) (mvT hZ (ww54 hw))) (mvT hZ (ww54 hw)) (mvT hZ (ww53 hw)) (by decide) hK101 q101a q101c (g := (mkF m 286 ls83 [(.long B0), (.ref b39)])) rfl (by rw [hml, hls83]; rfl) (Steps.refl _) (argsL := [(.long B0)]) (rest := []) (lenOf pd_4 rfl) rfl (by show 2 * 0 + _ ≤ _; exact Nat.le_of_eq rfl) (hb hby at_286) (fun _ _ => ⟨rfl, rfl, (by decide : 6 + 0 ≤ _), (by decide : 36 + 0 ≤ _)⟩)
          dsimp only [Pt.U, Pt.locs, Pt.cells, Pt.slots] at X101 l101 y101 z101 st101 hQ101
          subst l101 y101 z101
          obtain ⟨rfl, N101q, K101q, Y101_0, Y101_1, Y101_2, Y101_3, Y101_4⟩ := hQ101
          have N101 := Fr.app N84 N101q
          obtain ⟨lc101, X101, N101⟩ := own_gen X101 N101
          have O101 := O84.keep K101q (allS ge_b39 (allS ge_b41 all0))
          have hk101 : _ ≤ T101.heap.size := Nat.le_trans hk84 K101q.1
          refine step (fun t k => st101.trans k) ?_
          show G T101 (mkF m 289 ls83 [])
          refine step (fun t k => XS.iload X101.here hx rfl (hb hby at_289) (by rw [hls83]; rfl) k) ?_
          show G T101 (mkF m 291 ls83 [(.int ee)])
          refine step (fun t k => XS.iconst X101.here hx rfl (hb hby at_291) k) ?_
          show G T101 (mkF m 292 ls83 [(.int 2), (.int ee)])
          by_cases hc103 : ee < (2 : Int32)
          · skip
            refine step (fun t k => XS.icmpYes X101.here hx rfl (pc0 := 292) (pc' := 302) rfl (hb hby at_292) rfl (tlt hc103).1 (by decide) (by decide) k) ?_
            show G T101 (mkF m 302 ls83 [])
            have hz : sz.toInt = 4 := by
              have q := c_iadd (3 : Int32) ee
              rw [← hsz] at q
              have q4 : (3 : Int32).toInt = 3 := by decide
              have q5 := own_e p3 ee hee
              have q1 : (1 : Int32).toInt = 1 := by decide
              have q2 : (2 : Int32).toInt = 2 := by decide
              have z  := hc88
              rw [own_xlt] at z 
              have z  := hc103
              rw [own_xlt] at z 
              have r := rng32 sz
              omega
            have hj := own_j4 p4 jj sz hz hjj
            refine step (fun t k => XS.aload X101.here hx rfl (hb hby at_302) (by rw [hls83]; rfl) rfl k) ?_
            show G T101 (mkF m 304 ls83 [(.ref b39)])
            refine step (fun t k => XS.iload X101.here hx rfl (hb hby at_304) (by rw [hls83]; rfl) k) ?_
            show G T101 (mkF m 306 ls83 [(.int jj), (.ref b39)])
            have hK104 := (backOf (R := room_1) (p := p) (e := e) (below := below) (args := #[(.long q0), (.int p1), (.int p2), (.int p3), (.int p4)]) (len := 3) (W := 0) (rm_get4 l Z a0 hw [] w_SLIDING w_CALENDAR w_SwitchMap_co b39 jj b41 kb_41 B0 A1 A2 A3 (1 : Int32) T101.heap n0 (own_old_le O101) ST O101 Y101_1 Y101_2 Y101_4 (by rcases hj with rfl | rfl | rfl | rfl <;> decide)) hZ (ww95 hw) (ww44 hw) (by decide) (by decide))
            obtain ⟨cq104, kq104, q104a, q104b, q104c⟩ := isOf hZ rfl Y101_0
            obtain ⟨_, _, ⟨T104, L104, k104, n104⟩, -, X104, ⟨Lc104, hQ104, l104, y104, z104⟩, st104⟩ := X101.virtualBack hx (y := y_12) (z := y_12) hown (mvT hZ (ww91 hw)) (mvT hZ (ww92 hw)) (notFace_of_selects (args := #[]) (mvT hZ (ww94 hw))) (mvT hZ (ww94 hw)) (mvT hZ (ww93 hw)) (by decide) hK104 q104a q104c (g := (mkF m 306 ls83 [(.int jj), (.ref b39)])) rfl (by rw [hml, hls83]; rfl) (Steps.refl _) (argsL := [(.int jj)]) (rest := []) (lenOf pd_9 rfl) rfl (by show 2 * 0 + _ ≤ _; exact Nat.le_of_eq rfl) (hb hby at_306) (fun _ _ => ⟨rfl, rfl, (by decide : 6 + 0 ≤ _), (by decide : 36 + 0 ≤ _)⟩)
            dsimp only [Pt.U, Pt.locs, Pt.cells, Pt.slots] at X104 l104 y104 z104 st104 hQ104
            subst l104 y104 z104
            obtain ⟨rfl, N104q, e104⟩ := hQ104
            have N104 := Fr.app N101 N104q
            obtain ⟨lc104, X104, N104⟩ := own_gen X104 N104
            refine step (fun t k => st104.trans k) ?_
            show G T104 (mkF m 309 ls83 [(.long (f_get4 w_SLIDING w_CALENDAR w_SwitchMap_co b39 jj b41 kb_41 B0 A1 A2 A3 (1 : Int32)))])
            have r105 : (f_get4 w_SLIDING w_CALENDAR w_SwitchMap_co b39 jj b41 kb_41 B0 A1 A2 A3 (1 : Int32)) = (own_at4 B0 A1 A2 A3 (((1 : Int32) + jj) % (4 : Int32))) := rfl
            rw [r105]
            show G T104 (mkF m 309 ls83 [(.long (own_at4 B0 A1 A2 A3 (((1 : Int32) + jj) % (4 : Int32))))])
            refine step (fun t k => XS.aload X104.here hx rfl (hb hby at_309) (by rw [hls83]; rfl) rfl k) ?_
            show G T104 (mkF m 311 ls83 [(.ref b28), (.long (own_at4 B0 A1 A2 A3 (((1 : Int32) + jj) % (4 : Int32))))])
            refine step (fun t k => XS.iload X104.here hx rfl (hb hby at_311) (by rw [hls83]; rfl) k) ?_
            show G T104 (mkF m 313 ls83 [(.int 1), (.ref b28), (.long (own_at4 B0 A1 A2 A3 (((1 : Int32) + jj) % (4 : Int32))))])
            refine step (fun t k => XS.iload X104.here hx rfl (hb hby at_313) (by rw [hls83]; rfl) k) ?_
            show G T104 (mkF m 315 ls83 [(.int jj), (.int 1), (.ref b28), (.long (own_at4 B0 A1 A2 A3 (((1 : Int32) + jj) % (4 : Int32))))])
            refine step (fun t k => XS.iadd X104.here hx rfl (hb hby at_315) rfl k) ?_
            show G T104 (mkF m 316 ls83 [(.int ((1 : Int32) + jj)), (.ref b28), (.long (own_at4 B0 A1 A2 A3 (((1 : Int32) + jj) % (4 : Int32))))])
            have f106 := (Arv.keep (Arv.keep (Arv.keep (Arv.keep (Arv.keep (Arv.keep (Arv.keep ((Arv.keep V34 K36q nin0).ext E39) K41q (ninS (Nat.ne_of_lt lt_b28_b39) nin0)) K45q (ninS (Nat.ne_of_lt lt_b28_b39) (ninS (Nat.ne_of_lt lt_b28_b41) nin0))) K46q (ninS (Nat.ne_of_lt lt_b28_b39) (ninS (Nat.ne_of_lt lt_b28_b41) nin0))) K47q (ninS (Nat.ne_of_lt lt_b28_b39) (ninS (Nat.ne_of_lt lt_b28_b41) nin0))) K48q (ninS (Nat.ne_of_lt lt_b28_b39) (ninS (Nat.ne_of_lt lt_b28_b41) nin0))) K84q (ninS (Nat.ne_of_lt lt_b28_b39) nin0)) K101q (ninS (Nat.ne_of_lt lt_b28_b39) (ninS (Nat.ne_of_lt lt_b28_b41) nin0)))
            have q107 := own_ldJ X104 hx hZ e104 f106 (j := ((1 : Int32) + jj)) (v := .long (own_at6 A0 A1 A2 A3 B0 B1 ((1 : Int32) + jj))) (by rcases hj with rfl | rfl | rfl | rfl <;> decide) (own_get6 (by rcases hj with rfl | rfl | rfl | rfl <;> decide)) (g := (mkF m 316 ls83 [(.int ((1 : Int32) + jj)), (.ref b28), (.long (own_at4 B0 A1 A2 A3 (((1 : Int32) + jj) % (4 : Int32))))])) rfl rfl (hb hby at_316)
            refine step q107 ?_
            show G T104 (mkF m 317 ls83 [(.long (own_at6 A0 A1 A2 A3 B0 B1 ((1 : Int32) + jj))), (.long (own_at4 B0 A1 A2 A3 (((1 : Int32) + jj) % (4 : Int32))))])
            refine step (fun t k => XS.lcmp X104.here hx rfl (hb hby at_317) rfl k) ?_
            show G T104 (mkF m 318 ls83 [(.int (lcmpW (own_at4 B0 A1 A2 A3 (((1 : Int32) + jj) % (4 : Int32))) (own_at6 A0 A1 A2 A3 B0 B1 ((1 : Int32) + jj))))])
            refine step (fun t k => XS.ifNo X104.here hx rfl (hb hby at_318) rfl ((if0 _ _).trans (teq ((lw_eq _ _).mpr (by rcases hj with rfl | rfl | rfl | rfl <;> rfl))).2) k) ?_
            show G T104 (mkF m 321 ls83 [])
            refine step (fun t k => XS.iconst X104.here hx rfl (hb hby at_321) k) ?_
            show G T104 (mkF m 322 ls83 [(.int 1)])
            refine step (fun t k => XS.goto X104.here hx rfl (pc0 := 322) (pc' := 326) rfl (hb hby at_322) (by decide) (by decide) k) ?_
            show G T104 (mkF m 326 ls83 [(.int 1)])
            exact ret (v := some (.int 1)) X104 hS hk101 (fun h => by rw [Bd.returns] at h; cases h) (fun fs hr => retN X104 hx (t := .boolean) Bd.returns (by simp) (hb hby at_326) hr) e104 ⟨rfl, N104⟩ (by decide) (by decide)
          · skip
            refine step (fun t k => XS.icmpNo X101.here hx rfl (hb hby at_292) rfl (flt hc103).1 k) ?_
            show G T101 (mkF m 295 ls83 [])
            refine step (fun t k => XS.aload X101.here hx rfl (hb hby at_295) (by rw [hls83]; rfl) rfl k) ?_
            show G T101 (mkF m 297 ls83 [(.ref b39)])
            refine step (fun t k => XS.lload X101.here hx rfl (hb hby at_297) (by rw [hls83]; rfl) k) ?_
            show G T101 (mkF m 299 ls83 [(.long B1), (.ref b39)])
            have hK108 := (backOf (R := room_1) (p := p) (e := e) (below := below) (args := #[(.long q0), (.int p1), (.int p2), (.int p3), (.int p4)]) (len := 3) (W := 0) (rm_addg_4_1 l Z a0 hw [] w_SLIDING w_CALENDAR w_SwitchMap_co b39 B1 b41 kb_41 B0 A1 A2 A3 T101.heap n0 (own_old_le O101) ST O101 Y101_0 ge_b39 Y101_1 ge_b41 Y101_2 Y101_3 Y101_4) hZ (ww55 hw) (ww44 hw) (by decide) (by decide))
            obtain ⟨cq108, kq108, q108a, q108b, q108c⟩ := isOf hZ rfl Y101_0
            obtain ⟨_, _, ⟨T108, L108, k108, n108⟩, -, X108, ⟨Lc108, hQ108, l108, y108, z108⟩, st108⟩ := X101.virtualBack hx (y := y_8) (z := y_8) hown (mvT hZ (ww51 hw)) (mvT hZ (ww52 hw)) (notFace_of_selects (args := #[]) (mvT hZ (ww54 hw))) (mvT hZ (ww54 hw)) (mvT hZ (ww53 hw)) (by decide) hK108 q108a q108c (g := (mkF m 299 ls83 [(.long B1), (.ref b39)])) rfl (by rw [hml, hls83]; rfl) (Steps.refl _) (argsL := [(.long B1)]) (rest := []) (lenOf pd_4 rfl) rfl (by show 2 * 0 + _ ≤ _; exact Nat.le_of_eq rfl) (hb hby at_299) (fun _ _ => ⟨rfl, rfl, (by decide : 6 + 1 ≤ _), (by decide : 36 + 8 ≤ _)⟩)
            dsimp only [Pt.U, Pt.locs, Pt.cells, Pt.slots] at X108 l108 y108 z108 st108 hQ108
            subst l108 y108 z108
            have f109 := (Exa.keep (Exa.keep (Exa.keep (Exa.keep (Exa.keep (Exa.keep (Exa.keep f42 K41q) K45q) K46q) K47q) K48q) K84q) K101q)
            have f110 := (Exa.keep (Exa.keep f85 K84q) K101q)
            obtain ⟨b108, kb_108, rfl, N108q, K108q, Y108_0, Y108_1, Y108_2, Y108_3, Y108_4, Y108_5⟩ := hQ108
            have N108 := Fr.app N101 N108q
            obtain ⟨lc108, X108, N108⟩ := own_gen X108 N108
            have O108 := O101.keep K108q (allS ge_b39 all0)
            have ge_b108 : n0 ≤ b108 := Nat.le_trans (own_old_le O101) Y108_0
            have lt_b28_b108 : b28 < b108 := Nat.lt_of_lt_of_le f109.lt Y108_0
            have lt_b36_b108 : b36 < b108 := Nat.lt_of_lt_of_le f110.lt Y108_0
            have lt_b39_b108 : b39 < b108 := Nat.lt_of_lt_of_le Y101_0.lt Y108_0
            have lt_b41_b108 : b41 < b108 := Nat.lt_of_lt_of_le Y101_4.lt Y108_0
            have hk108 : _ ≤ T108.heap.size := Nat.le_trans hk101 K108q.1
            refine step (fun t k => st108.trans k) ?_
            show G T108 (mkF m 302 ls83 [])
            have hz : sz.toInt = 5 := by
              have q := c_iadd (3 : Int32) ee
              rw [← hsz] at q
              have q4 : (3 : Int32).toInt = 3 := by decide
              have q5 := own_e p3 ee hee
              have q1 : (1 : Int32).toInt = 1 := by decide
              have q2 : (2 : Int32).toInt = 2 := by decide
              have z  := hc88
              rw [own_xlt] at z 
              have z  := hc103
              rw [own_xlt] at z 
              have r := rng32 sz
              omega
            have hj := own_j5 p4 jj sz hz hjj
            refine step (fun t k => XS.aload X108.here hx rfl (hb hby at_302) (by rw [hls83]; rfl) rfl k) ?_
            show G T108 (mkF m 304 ls83 [(.ref b39)])
            refine step (fun t k => XS.iload X108.here hx rfl (hb hby at_304) (by rw [hls83]; rfl) k) ?_
            show G T108 (mkF m 306 ls83 [(.int jj), (.ref b39)])
            have hK111 := (backOf (R := room_1) (p := p) (e := e) (below := below) (args := #[(.long q0), (.int p1), (.int p2), (.int p3), (.int p4)]) (len := 3) (W := 0) (rm_get8 l Z a0 hw [] w_SLIDING w_CALENDAR w_SwitchMap_co b39 jj b108 kb_108 A1 A2 A3 B0 B1 (0 : Int64) (0 : Int64) (0 : Int64) (0 : Int32) T108.heap n0 (own_old_le O108) ST O108 Y108_2 Y108_3 Y108_5 (by rcases hj with rfl | rfl | rfl | rfl | rfl <;> decide)) hZ (ww95 hw) (ww44 hw) (by decide) (by decide))
            obtain ⟨cq111, kq111, q111a, q111b, q111c⟩ := isOf hZ rfl Y108_1
            obtain ⟨_, _, ⟨T111, L111, k111, n111⟩, -, X111, ⟨Lc111, hQ111, l111, y111, z111⟩, st111⟩ := X108.virtualBack hx (y := y_12) (z := y_12) hown (mvT hZ (ww91 hw)) (mvT hZ (ww92 hw)) (notFace_of_selects (args := #[]) (mvT hZ (ww94 hw))) (mvT hZ (ww94 hw)) (mvT hZ (ww93 hw)) (by decide) hK111 q111a q111c (g := (mkF m 306 ls83 [(.int jj), (.ref b39)])) rfl (by rw [hml, hls83]; rfl) (Steps.refl _) (argsL := [(.int jj)]) (rest := []) (lenOf pd_9 rfl) rfl (by show 2 * 0 + _ ≤ _; exact Nat.le_of_eq rfl) (hb hby at_306) (fun _ _ => ⟨rfl, rfl, (by decide : 7 + 0 ≤ _), (by decide : 44 + 0 ≤ _)⟩)
            dsimp only [Pt.U, Pt.locs, Pt.cells, Pt.slots] at X111 l111 y111 z111 st111 hQ111
            subst l111 y111 z111
            obtain ⟨rfl, N111q, e111⟩ := hQ111
            have N111 := Fr.app N108 N111q
            obtain ⟨lc111, X111, N111⟩ := own_gen X111 N111
            refine step (fun t k => st111.trans k) ?_
            show G T111 (mkF m 309 ls83 [(.long (f_get8 w_SLIDING w_CALENDAR w_SwitchMap_co b39 jj b108 kb_108 A1 A2 A3 B0 B1 (0 : Int64) (0 : Int64) (0 : Int64) (0 : Int32)))])
            have r112 : (f_get8 w_SLIDING w_CALENDAR w_SwitchMap_co b39 jj b108 kb_108 A1 A2 A3 B0 B1 (0 : Int64) (0 : Int64) (0 : Int64) (0 : Int32)) = (own_at8 A1 A2 A3 B0 B1 (0 : Int64) (0 : Int64) (0 : Int64) (((0 : Int32) + jj) % (8 : Int32))) := rfl
            rw [r112]
            show G T111 (mkF m 309 ls83 [(.long (own_at8 A1 A2 A3 B0 B1 (0 : Int64) (0 : Int64) (0 : Int64) (((0 : Int32) + jj) % (8 : Int32))))])
            refine step (fun t k => XS.aload X111.here hx rfl (hb hby at_309) (by rw [hls83]; rfl) rfl k) ?_
            show G T111 (mkF m 311 ls83 [(.ref b28), (.long (own_at8 A1 A2 A3 B0 B1 (0 : Int64) (0 : Int64) (0 : Int64) (((0 : Int32) + jj) % (8 : Int32))))])
            refine step (fun t k => XS.iload X111.here hx rfl (hb hby at_311) (by rw [hls83]; rfl) k) ?_
            show G T111 (mkF m 313 ls83 [(.int 1), (.ref b28), (.long (own_at8 A1 A2 A3 B0 B1 (0 : Int64) (0 : Int64) (0 : Int64) (((0 : Int32) + jj) % (8 : Int32))))])
            refine step (fun t k => XS.iload X111.here hx rfl (hb hby at_313) (by rw [hls83]; rfl) k) ?_
            show G T111 (mkF m 315 ls83 [(.int jj), (.int 1), (.ref b28), (.long (own_at8 A1 A2 A3 B0 B1 (0 : Int64) (0 : Int64) (0 : Int64) (((0 : Int32) + jj) % (8 : Int32))))])
            refine step (fun t k => XS.iadd X111.here hx rfl (hb hby at_315) rfl k) ?_
            show G T111 (mkF m 316 ls83 [(.int ((1 : Int32) + jj)), (.ref b28), (.long (own_at8 A1 A2 A3 B0 B1 (0 : Int64) (0 : Int64) (0 : Int64) (((0 : Int32) + jj) % (8 : Int32))))])
            have f113 := (Arv.keep (Arv.keep (Arv.keep (Arv.keep (Arv.keep (Arv.keep (Arv.keep (Arv.keep ((Arv.keep V34 K36q nin0).ext E39) K41q (ninS (Nat.ne_of_lt lt_b28_b39) nin0)) K45q (ninS (Nat.ne_of_lt lt_b28_b39) (ninS (Nat.ne_of_lt lt_b28_b41) nin0))) K46q (ninS (Nat.ne_of_lt lt_b28_b39) (ninS (Nat.ne_of_lt lt_b28_b41) nin0))) K47q (ninS (Nat.ne_of_lt lt_b28_b39) (ninS (Nat.ne_of_lt lt_b28_b41) nin0))) K48q (ninS (Nat.ne_of_lt lt_b28_b39) (ninS (Nat.ne_of_lt lt_b28_b41) nin0))) K84q (ninS (Nat.ne_of_lt lt_b28_b39) nin0)) K101q (ninS (Nat.ne_of_lt lt_b28_b39) (ninS (Nat.ne_of_lt lt_b28_b41) nin0))) K108q (ninS (Nat.ne_of_lt lt_b28_b39) nin0))
            have q114 := own_ldJ X111 hx hZ e111 f113 (j := ((1 : Int32) + jj)) (v := .long (own_at6 A0 A1 A2 A3 B0 B1 ((1 : Int32) + jj))) (by rcases hj with rfl | rfl | rfl | rfl | rfl <;> decide) (own_get6 (by rcases hj with rfl | rfl | rfl | rfl | rfl <;> decide)) (g := (mkF m 316 ls83 [(.int ((1 : Int32) + jj)), (.ref b28), (.long (own_at8 A1 A2 A3 B0 B1 (0 : Int64) (0 : Int64) (0 : Int64) (((0 : Int32) + jj) % (8 : Int32))))])) rfl rfl (hb hby at_316)
            refine step q114 ?_
            show G T111 (mkF m 317 ls83 [(.long (own_at6 A0 A1 A2 A3 B0 B1 ((1 : Int32) + jj))), (.long (own_at8 A1 A2 A3 B0 B1 (0 : Int64) (0 : Int64) (0 : Int64) (((0 : Int32) + jj) % (8 : Int32))))])
            refine step (fun t k => XS.lcmp X111.here hx rfl (hb hby at_317) rfl k) ?_
            show G T111 (mkF m 318 ls83 [(.int (lcmpW (own_at8 A1 A2 A3 B0 B1 (0 : Int64) (0 : Int64) (0 : Int64) (((0 : Int32) + jj) % (8 : Int32))) (own_at6 A0 A1 A2 A3 B0 B1 ((1 : Int32) + jj))))])
            refine step (fun t k => XS.ifNo X111.here hx rfl (hb hby at_318) rfl ((if0 _ _).trans (teq ((lw_eq _ _).mpr (by rcases hj with rfl | rfl | rfl | rfl | rfl <;> rfl))).2) k) ?_
            show G T111 (mkF m 321 ls83 [])
            refine step (fun t k => XS.iconst X111.here hx rfl (hb hby at_321) k) ?_
            show G T111 (mkF m 322 ls83 [(.int 1)])
            refine step (fun t k => XS.goto X111.here hx rfl (pc0 := 322) (pc' := 326) rfl (hb hby at_322) (by decide) (by decide) k) ?_
            show G T111 (mkF m 326 ls83 [(.int 1)])
            exact ret (v := some (.int 1)) X111 hS hk108 (fun h => by rw [Bd.returns] at h; cases h) (fun fs hr => retN X111 hx (t := .boolean) Bd.returns (by simp) (hb hby at_326) hr) e111 ⟨rfl, N111⟩ (by decide) (by decide)
      · rw [hkq] at hsz
        obtain ⟨ls115, hls115⟩  := own_sl #[.val (.long q0), .second, .val (.int p1), .val (.int p2), .val (.int p3), .val (.int p4), .val (.long A0), .second, .val (.long A1), .second, .val (.long A2), .second, .val (.long A3), .second, .val (.long nw), .second, .val (.long B0), .second, .val (.long B1), .second, .val (.long mm), .second, .val (.int ee), .val (.long last), .second, .val (.int 2), .val (.int sz), .val (.int jj), .val (.ref b28), .val (.ref b36), .val (.ref b39)]
        rw [show ls44 = ls115 from by rw [hls44, hls115, hkq]]
        show G T48 (mkF m 272 ls115 [(.long nw), (.ref b36), (.ref b39)])
        rw [(by decide : ((4 : Int32) - (2 : Int32)) = (2 : Int32))] at hsz
        have f117 := (Exa.keep (Exa.keep (Exa.keep (Exa.keep (Exa.keep f43 K41q) K45q) K46q) K47q) K48q)
        have f118 := (Fld.keep (Fld.keep (Fld.keep (Fld.keep (Fld.keep (Fld.ext E39 Y36_2) K41q (ninS (Nat.ne_of_lt lt_b36_b39) nin0)) K45q (ninS (Nat.ne_of_lt lt_b36_b39) (ninS (Nat.ne_of_lt lt_b36_b41) nin0))) K46q (ninS (Nat.ne_of_lt lt_b36_b39) (ninS (Nat.ne_of_lt lt_b36_b41) nin0))) K47q (ninS (Nat.ne_of_lt lt_b36_b39) (ninS (Nat.ne_of_lt lt_b36_b41) nin0))) K48q (ninS (Nat.ne_of_lt lt_b36_b39) (ninS (Nat.ne_of_lt lt_b36_b41) nin0)))
        have f119 := (Fld.keep (Fld.keep (Fld.keep (Fld.keep (Fld.keep (Fld.ext E39 Y36_3) K41q (ninS (Nat.ne_of_lt lt_b36_b39) nin0)) K45q (ninS (Nat.ne_of_lt lt_b36_b39) (ninS (Nat.ne_of_lt lt_b36_b41) nin0))) K46q (ninS (Nat.ne_of_lt lt_b36_b39) (ninS (Nat.ne_of_lt lt_b36_b41) nin0))) K47q (ninS (Nat.ne_of_lt lt_b36_b39) (ninS (Nat.ne_of_lt lt_b36_b41) nin0))) K48q (ninS (Nat.ne_of_lt lt_b36_b39) (ninS (Nat.ne_of_lt lt_b36_b41) nin0)))
        have hK116 := (backOf (R := room_1) (p := p) (e := e) (below := below) (args := #[(.long q0), (.int p1), (.int p2), (.int p3), (.int p4)]) (len := 3) (W := 0) (rm_cnt_4_0_4_2 l Z a0 hw [] w_SLIDING w_CALENDAR w_SwitchMap_co b39 b36 nw b41 kb_41 A0 A1 A2 A3 mm T48.heap n0 (own_old_le O48) ST O48 Y48_0 ge_b39 Y48_1 ge_b41 Y48_2 Y48_3 Y48_4 f117 f118 f119 ((hlast ▸ hl0) : ¬ ((nw - mm) < A0)) ((hlast ▸ hl1) : ¬ ((nw - mm) < A1)) ((hlast ▸ hl2) : (nw - mm) < A2)) hZ (ww64 hw) (ww44 hw) (by decide) (by decide))
        obtain ⟨cq116, kq116, q116a, q116b, q116c⟩ := isOf hZ rfl Y48_0
        obtain ⟨_, _, ⟨T116, L116, k116, n116⟩, -, X116, ⟨Lc116, hQ116, l116, y116, z116⟩, st116⟩ := X48.virtualBack hx (y := y_11) (z := y_11) hown (mvT hZ (ww60 hw)) (mvT hZ (ww61 hw)) (notFace_of_selects (args := #[]) (mvT hZ (ww63 hw))) (mvT hZ (ww63 hw)) (mvT hZ (ww62 hw)) (by decide) hK116 q116a q116c (g := (mkF m 272 ls115 [(.long nw), (.ref b36), (.ref b39)])) rfl (by rw [hml, hls115]; rfl) (Steps.refl _) (argsL := [(.ref b36), (.long nw)]) (rest := []) (lenOf pd_8 rfl) rfl (by show 2 * 0 + _ ≤ _; exact Nat.le_of_eq rfl) (hb hby at_272) (fun _ _ => ⟨rfl, rfl, (by decide : 6 + 0 ≤ _), (by decide : 36 + 0 ≤ _)⟩)
        dsimp only [Pt.U, Pt.locs, Pt.cells, Pt.slots] at X116 l116 y116 z116 st116 hQ116
        subst l116 y116 z116
        obtain ⟨rfl, N116q, K116q, Y116_0, Y116_1, Y116_2, Y116_3⟩ := hQ116
        have N116 := Fr.app N48 N116q
        obtain ⟨lc116, X116, N116⟩ := own_gen X116 N116
        have O116 := O48.keep K116q (allS ge_b39 all0)
        have hk116 : _ ≤ T116.heap.size := Nat.le_trans hk48 K116q.1
        refine step (fun t k => st116.trans k) ?_
        show G T116 (mkF m 275 ls115 [(.int 2)])
        refine step (fun t k => XS.pop X116.here hx rfl (hb hby at_275) rfl rfl k) ?_
        show G T116 (mkF m 276 ls115 [])
        refine step (fun t k => XS.iload X116.here hx rfl (hb hby at_276) (by rw [hls115]; rfl) k) ?_
        show G T116 (mkF m 278 ls115 [(.int ee)])
        refine step (fun t k => XS.iconst X116.here hx rfl (hb hby at_278) k) ?_
        show G T116 (mkF m 279 ls115 [(.int 1), (.int ee)])
        by_cases hc120 : ee < (1 : Int32)
        · skip
          refine step (fun t k => XS.icmpYes X116.here hx rfl (pc0 := 279) (pc' := 289) rfl (hb hby at_279) rfl (tlt hc120).1 (by decide) (by decide) k) ?_
          show G T116 (mkF m 289 ls115 [])
          refine step (fun t k => XS.iload X116.here hx rfl (hb hby at_289) (by rw [hls115]; rfl) k) ?_
          show G T116 (mkF m 291 ls115 [(.int ee)])
          refine step (fun t k => XS.iconst X116.here hx rfl (hb hby at_291) k) ?_
          show G T116 (mkF m 292 ls115 [(.int 2), (.int ee)])
          by_cases hc121 : ee < (2 : Int32)
          · skip
            refine step (fun t k => XS.icmpYes X116.here hx rfl (pc0 := 292) (pc' := 302) rfl (hb hby at_292) rfl (tlt hc121).1 (by decide) (by decide) k) ?_
            show G T116 (mkF m 302 ls115 [])
            have hz : sz.toInt = 2 := by
              have q := c_iadd (2 : Int32) ee
              rw [← hsz] at q
              have q4 : (2 : Int32).toInt = 2 := by decide
              have q5 := own_e p3 ee hee
              have q1 : (1 : Int32).toInt = 1 := by decide
              have q2 : (2 : Int32).toInt = 2 := by decide
              have z  := hc120
              rw [own_xlt] at z 
              have z  := hc121
              rw [own_xlt] at z 
              have r := rng32 sz
              omega
            have hj := own_j2 p4 jj sz hz hjj
            refine step (fun t k => XS.aload X116.here hx rfl (hb hby at_302) (by rw [hls115]; rfl) rfl k) ?_
            show G T116 (mkF m 304 ls115 [(.ref b39)])
            refine step (fun t k => XS.iload X116.here hx rfl (hb hby at_304) (by rw [hls115]; rfl) k) ?_
            show G T116 (mkF m 306 ls115 [(.int jj), (.ref b39)])
            have f123 := (Arv.keep Y48_4 K116q (ninS (Nat.ne_of_gt lt_b39_b41) nin0))
            have hK122 := (backOf (R := room_1) (p := p) (e := e) (below := below) (args := #[(.long q0), (.int p1), (.int p2), (.int p3), (.int p4)]) (len := 3) (W := 0) (rm_get4 l Z a0 hw [] w_SLIDING w_CALENDAR w_SwitchMap_co b39 jj b41 kb_41 A0 A1 A2 A3 (2 : Int32) T116.heap n0 (own_old_le O116) ST O116 Y116_1 Y116_2 f123 (by rcases hj with rfl | rfl <;> decide)) hZ (ww95 hw) (ww44 hw) (by decide) (by decide))
            obtain ⟨cq122, kq122, q122a, q122b, q122c⟩ := isOf hZ rfl Y116_0
            obtain ⟨_, _, ⟨T122, L122, k122, n122⟩, -, X122, ⟨Lc122, hQ122, l122, y122, z122⟩, st122⟩ := X116.virtualBack hx (y := y_12) (z := y_12) hown (mvT hZ (ww91 hw)) (mvT hZ (ww92 hw)) (notFace_of_selects (args := #[]) (mvT hZ (ww94 hw))) (mvT hZ (ww94 hw)) (mvT hZ (ww93 hw)) (by decide) hK122 q122a q122c (g := (mkF m 306 ls115 [(.int jj), (.ref b39)])) rfl (by rw [hml, hls115]; rfl) (Steps.refl _) (argsL := [(.int jj)]) (rest := []) (lenOf pd_9 rfl) rfl (by show 2 * 0 + _ ≤ _; exact Nat.le_of_eq rfl) (hb hby at_306) (fun _ _ => ⟨rfl, rfl, (by decide : 6 + 0 ≤ _), (by decide : 36 + 0 ≤ _)⟩)
            dsimp only [Pt.U, Pt.locs, Pt.cells, Pt.slots] at X122 l122 y122 z122 st122 hQ122
            subst l122 y122 z122
            obtain ⟨rfl, N122q, e122⟩ := hQ122
            have N122 := Fr.app N116 N122q
            obtain ⟨lc122, X122, N122⟩ := own_gen X122 N122
            refine step (fun t k => st122.trans k) ?_
            show G T122 (mkF m 309 ls115 [(.long (f_get4 w_SLIDING w_CALENDAR w_SwitchMap_co b39 jj b41 kb_41 A0 A1 A2 A3 (2 : Int32)))])
            have r124 : (f_get4 w_SLIDING w_CALENDAR w_SwitchMap_co b39 jj b41 kb_41 A0 A1 A2 A3 (2 : Int32)) = (own_at4 A0 A1 A2 A3 (((2 : Int32) + jj) % (4 : Int32))) := rfl
            rw [r124]
            show G T122 (mkF m 309 ls115 [(.long (own_at4 A0 A1 A2 A3 (((2 : Int32) + jj) % (4 : Int32))))])
            refine step (fun t k => XS.aload X122.here hx rfl (hb hby at_309) (by rw [hls115]; rfl) rfl k) ?_
            show G T122 (mkF m 311 ls115 [(.ref b28), (.long (own_at4 A0 A1 A2 A3 (((2 : Int32) + jj) % (4 : Int32))))])
            refine step (fun t k => XS.iload X122.here hx rfl (hb hby at_311) (by rw [hls115]; rfl) k) ?_
            show G T122 (mkF m 313 ls115 [(.int 2), (.ref b28), (.long (own_at4 A0 A1 A2 A3 (((2 : Int32) + jj) % (4 : Int32))))])
            refine step (fun t k => XS.iload X122.here hx rfl (hb hby at_313) (by rw [hls115]; rfl) k) ?_
            show G T122 (mkF m 315 ls115 [(.int jj), (.int 2), (.ref b28), (.long (own_at4 A0 A1 A2 A3 (((2 : Int32) + jj) % (4 : Int32))))])
            refine step (fun t k => XS.iadd X122.here hx rfl (hb hby at_315) rfl k) ?_
            show G T122 (mkF m 316 ls115 [(.int ((2 : Int32) + jj)), (.ref b28), (.long (own_at4 A0 A1 A2 A3 (((2 : Int32) + jj) % (4 : Int32))))])
            have f125 := (Arv.keep (Arv.keep (Arv.keep (Arv.keep (Arv.keep (Arv.keep ((Arv.keep V34 K36q nin0).ext E39) K41q (ninS (Nat.ne_of_lt lt_b28_b39) nin0)) K45q (ninS (Nat.ne_of_lt lt_b28_b39) (ninS (Nat.ne_of_lt lt_b28_b41) nin0))) K46q (ninS (Nat.ne_of_lt lt_b28_b39) (ninS (Nat.ne_of_lt lt_b28_b41) nin0))) K47q (ninS (Nat.ne_of_lt lt_b28_b39) (ninS (Nat.ne_of_lt lt_b28_b41) nin0))) K48q (ninS (Nat.ne_of_lt lt_b28_b39) (ninS (Nat.ne_of_lt lt_b28_b41) nin0))) K116q (ninS (Nat.ne_of_lt lt_b28_b39) nin0))
            have q126 := own_ldJ X122 hx hZ e122 f125 (j := ((2 : Int32) + jj)) (v := .long (own_at6 A0 A1 A2 A3 B0 B1 ((2 : Int32) + jj))) (by rcases hj with rfl | rfl <;> decide) (own_get6 (by rcases hj with rfl | rfl <;> decide)) (g := (mkF m 316 ls115 [(.int ((2 : Int32) + jj)), (.ref b28), (.long (own_at4 A0 A1 A2 A3 (((2 : Int32) + jj) % (4 : Int32))))])) rfl rfl (hb hby at_316)
            refine step q126 ?_
            show G T122 (mkF m 317 ls115 [(.long (own_at6 A0 A1 A2 A3 B0 B1 ((2 : Int32) + jj))), (.long (own_at4 A0 A1 A2 A3 (((2 : Int32) + jj) % (4 : Int32))))])
            refine step (fun t k => XS.lcmp X122.here hx rfl (hb hby at_317) rfl k) ?_
            show G T122 (mkF m 318 ls115 [(.int (lcmpW (own_at4 A0 A1 A2 A3 (((2 : Int32) + jj) % (4 : Int32))) (own_at6 A0 A1 A2 A3 B0 B1 ((2 : Int32) + jj))))])
            refine step (fun t k => XS.ifNo X122.here hx rfl (hb hby at_318) rfl ((if0 _ _).trans (teq ((lw_eq _ _).mpr (by rcases hj with rfl | rfl <;> rfl))).2) k) ?_
            show G T122 (mkF m 321 ls115 [])
            refine step (fun t k => XS.iconst X122.here hx rfl (hb hby at_321) k) ?_
            show G T122 (mkF m 322 ls115 [(.int 1)])
            refine step (fun t k => XS.goto X122.here hx rfl (pc0 := 322) (pc' := 326) rfl (hb hby at_322) (by decide) (by decide) k) ?_
            show G T122 (mkF m 326 ls115 [(.int 1)])
            exact ret (v := some (.int 1)) X122 hS hk116 (fun h => by rw [Bd.returns] at h; cases h) (fun fs hr => retN X122 hx (t := .boolean) Bd.returns (by simp) (hb hby at_326) hr) e122 ⟨rfl, N122⟩ (by decide) (by decide)
          · skip
            refine step (fun t k => XS.icmpNo X116.here hx rfl (hb hby at_292) rfl (flt hc121).1 k) ?_
            show G T116 (mkF m 295 ls115 [])
            refine step (fun t k => XS.aload X116.here hx rfl (hb hby at_295) (by rw [hls115]; rfl) rfl k) ?_
            show G T116 (mkF m 297 ls115 [(.ref b39)])
            refine step (fun t k => XS.lload X116.here hx rfl (hb hby at_297) (by rw [hls115]; rfl) k) ?_
            show G T116 (mkF m 299 ls115 [(.long B1), (.ref b39)])
            have f128 := (Arv.keep Y48_4 K116q (ninS (Nat.ne_of_gt lt_b39_b41) nin0))
            have hK127 := (backOf (R := room_1) (p := p) (e := e) (below := below) (args := #[(.long q0), (.int p1), (.int p2), (.int p3), (.int p4)]) (len := 3) (W := 0) (rm_add_4_0 l Z a0 hw [] w_SLIDING w_CALENDAR w_SwitchMap_co b39 B1 b41 kb_41 A0 A1 A2 A3 (2 : Int32) (2 : Int32) (3 : Int32) T116.heap n0 (own_old_le O116) ST O116 Y116_0 ge_b39 Y116_1 ge_b41 Y116_2 Y116_3 f128 (by decide : ¬ ((2 : Int32) = (4 : Int32))) (by decide : ((2 : Int32) + (1 : Int32)) = (3 : Int32)) (by decide : (((2 : Int32) + (2 : Int32)) % (4 : Int32)) = (0 : Int32))) hZ (ww55 hw) (ww44 hw) (by decide) (by decide))
            obtain ⟨cq127, kq127, q127a, q127b, q127c⟩ := isOf hZ rfl Y116_0
            obtain ⟨_, _, ⟨T127, L127, k127, n127⟩, -, X127, ⟨Lc127, hQ127, l127, y127, z127⟩, st127⟩ := X116.virtualBack hx (y := y_8) (z := y_8) hown (mvT hZ (ww51 hw)) (mvT hZ (ww52 hw)) (notFace_of_selects (args := #[]) (mvT hZ (ww54 hw))) (mvT hZ (ww54 hw)) (mvT hZ (ww53 hw)) (by decide) hK127 q127a q127c (g := (mkF m 299 ls115 [(.long B1), (.ref b39)])) rfl (by rw [hml, hls115]; rfl) (Steps.refl _) (argsL := [(.long B1)]) (rest := []) (lenOf pd_4 rfl) rfl (by show 2 * 0 + _ ≤ _; exact Nat.le_of_eq rfl) (hb hby at_299) (fun _ _ => ⟨rfl, rfl, (by decide : 6 + 0 ≤ _), (by decide : 36 + 0 ≤ _)⟩)
            dsimp only [Pt.U, Pt.locs, Pt.cells, Pt.slots] at X127 l127 y127 z127 st127 hQ127
            subst l127 y127 z127
            obtain ⟨rfl, N127q, K127q, Y127_0, Y127_1, Y127_2, Y127_3, Y127_4⟩ := hQ127
            have N127 := Fr.app N116 N127q
            obtain ⟨lc127, X127, N127⟩ := own_gen X127 N127
            have O127 := O116.keep K127q (allS ge_b39 (allS ge_b41 all0))
            have hk127 : _ ≤ T127.heap.size := Nat.le_trans hk116 K127q.1
            refine step (fun t k => st127.trans k) ?_
            show G T127 (mkF m 302 ls115 [])
            have hz : sz.toInt = 2 := by
              have q := c_iadd (2 : Int32) ee
              rw [← hsz] at q
              have q4 : (2 : Int32).toInt = 2 := by decide
              have q5 := own_e p3 ee hee
              have q1 : (1 : Int32).toInt = 1 := by decide
              have q2 : (2 : Int32).toInt = 2 := by decide
              have z  := hc120
              rw [own_xlt] at z 
              have z  := hc121
              rw [own_xlt] at z 
              have r := rng32 sz
              omega
            have hj := own_j2 p4 jj sz hz hjj
            refine step (fun t k => XS.aload X127.here hx rfl (hb hby at_302) (by rw [hls115]; rfl) rfl k) ?_
            show G T127 (mkF m 304 ls115 [(.ref b39)])
            refine step (fun t k => XS.iload X127.here hx rfl (hb hby at_304) (by rw [hls115]; rfl) k) ?_
            show G T127 (mkF m 306 ls115 [(.int jj), (.ref b39)])
            have hK129 := (backOf (R := room_1) (p := p) (e := e) (below := below) (args := #[(.long q0), (.int p1), (.int p2), (.int p3), (.int p4)]) (len := 3) (W := 0) (rm_get4 l Z a0 hw [] w_SLIDING w_CALENDAR w_SwitchMap_co b39 jj b41 kb_41 B1 A1 A2 A3 (2 : Int32) T127.heap n0 (own_old_le O127) ST O127 Y127_1 Y127_2 Y127_4 (by rcases hj with rfl | rfl <;> decide)) hZ (ww95 hw) (ww44 hw) (by decide) (by decide))
            obtain ⟨cq129, kq129, q129a, q129b, q129c⟩ := isOf hZ rfl Y127_0
            obtain ⟨_, _, ⟨T129, L129, k129, n129⟩, -, X129, ⟨Lc129, hQ129, l129, y129, z129⟩, st129⟩ := X127.virtualBack hx (y := y_12) (z := y_12) hown (mvT hZ (ww91 hw)) (mvT hZ (ww92 hw)) (notFace_of_selects (args := #[]) (mvT hZ (ww94 hw))) (mvT hZ (ww94 hw)) (mvT hZ (ww93 hw)) (by decide) hK129 q129a q129c (g := (mkF m 306 ls115 [(.int jj), (.ref b39)])) rfl (by rw [hml, hls115]; rfl) (Steps.refl _) (argsL := [(.int jj)]) (rest := []) (lenOf pd_9 rfl) rfl (by show 2 * 0 + _ ≤ _; exact Nat.le_of_eq rfl) (hb hby at_306) (fun _ _ => ⟨rfl, rfl, (by decide : 6 + 0 ≤ _), (by decide : 36 + 0 ≤ _)⟩)
            dsimp only [Pt.U, Pt.locs, Pt.cells, Pt.slots] at X129 l129 y129 z129 st129 hQ129
            subst l129 y129 z129
            obtain ⟨rfl, N129q, e129⟩ := hQ129
            have N129 := Fr.app N127 N129q
            obtain ⟨lc129, X129, N129⟩ := own_gen X129 N129
            refine step (fun t k => st129.trans k) ?_
            show G T129 (mkF m 309 ls115 [(.long (f_get4 w_SLIDING w_CALENDAR w_SwitchMap_co b39 jj b41 kb_41 B1 A1 A2 A3 (2 : Int32)))])
            have r130 : (f_get4 w_SLIDING w_CALENDAR w_SwitchMap_co b39 jj b41 kb_41 B1 A1 A2 A3 (2 : Int32)) = (own_at4 B1 A1 A2 A3 (((2 : Int32) + jj) % (4 : Int32))) := rfl
            rw [r130]
            show G T129 (mkF m 309 ls115 [(.long (own_at4 B1 A1 A2 A3 (((2 : Int32) + jj) % (4 : Int32))))])
            refine step (fun t k => XS.aload X129.here hx rfl (hb hby at_309) (by rw [hls115]; rfl) rfl k) ?_
            show G T129 (mkF m 311 ls115 [(.ref b28), (.long (own_at4 B1 A1 A2 A3 (((2 : Int32) + jj) % (4 : Int32))))])
            refine step (fun t k => XS.iload X129.here hx rfl (hb hby at_311) (by rw [hls115]; rfl) k) ?_
            show G T129 (mkF m 313 ls115 [(.int 2), (.ref b28), (.long (own_at4 B1 A1 A2 A3 (((2 : Int32) + jj) % (4 : Int32))))])
            refine step (fun t k => XS.iload X129.here hx rfl (hb hby at_313) (by rw [hls115]; rfl) k) ?_
            show G T129 (mkF m 315 ls115 [(.int jj), (.int 2), (.ref b28), (.long (own_at4 B1 A1 A2 A3 (((2 : Int32) + jj) % (4 : Int32))))])
            refine step (fun t k => XS.iadd X129.here hx rfl (hb hby at_315) rfl k) ?_
            show G T129 (mkF m 316 ls115 [(.int ((2 : Int32) + jj)), (.ref b28), (.long (own_at4 B1 A1 A2 A3 (((2 : Int32) + jj) % (4 : Int32))))])
            have f131 := (Arv.keep (Arv.keep (Arv.keep (Arv.keep (Arv.keep (Arv.keep (Arv.keep ((Arv.keep V34 K36q nin0).ext E39) K41q (ninS (Nat.ne_of_lt lt_b28_b39) nin0)) K45q (ninS (Nat.ne_of_lt lt_b28_b39) (ninS (Nat.ne_of_lt lt_b28_b41) nin0))) K46q (ninS (Nat.ne_of_lt lt_b28_b39) (ninS (Nat.ne_of_lt lt_b28_b41) nin0))) K47q (ninS (Nat.ne_of_lt lt_b28_b39) (ninS (Nat.ne_of_lt lt_b28_b41) nin0))) K48q (ninS (Nat.ne_of_lt lt_b28_b39) (ninS (Nat.ne_of_lt lt_b28_b41) nin0))) K116q (ninS (Nat.ne_of_lt lt_b28_b39) nin0)) K127q (ninS (Nat.ne_of_lt lt_b28_b39) (ninS (Nat.ne_of_lt lt_b28_b41) nin0)))
            have q132 := own_ldJ X129 hx hZ e129 f131 (j := ((2 : Int32) + jj)) (v := .long (own_at6 A0 A1 A2 A3 B0 B1 ((2 : Int32) + jj))) (by rcases hj with rfl | rfl <;> decide) (own_get6 (by rcases hj with rfl | rfl <;> decide)) (g := (mkF m 316 ls115 [(.int ((2 : Int32) + jj)), (.ref b28), (.long (own_at4 B1 A1 A2 A3 (((2 : Int32) + jj) % (4 : Int32))))])) rfl rfl (hb hby at_316)
            refine step q132 ?_
            show G T129 (mkF m 317 ls115 [(.long (own_at6 A0 A1 A2 A3 B0 B1 ((2 : Int32) + jj))), (.long (own_at4 B1 A1 A2 A3 (((2 : Int32) + jj) % (4 : Int32))))])
            refine step (fun t k => XS.lcmp X129.here hx rfl (hb hby at_317) rfl k) ?_
            show G T129 (mkF m 318 ls115 [(.int (lcmpW (own_at4 B1 A1 A2 A3 (((2 : Int32) + jj) % (4 : Int32))) (own_at6 A0 A1 A2 A3 B0 B1 ((2 : Int32) + jj))))])
            refine step (fun t k => XS.ifNo X129.here hx rfl (hb hby at_318) rfl ((if0 _ _).trans (teq ((lw_eq _ _).mpr (by rcases hj with rfl | rfl <;> rfl))).2) k) ?_
            show G T129 (mkF m 321 ls115 [])
            refine step (fun t k => XS.iconst X129.here hx rfl (hb hby at_321) k) ?_
            show G T129 (mkF m 322 ls115 [(.int 1)])
            refine step (fun t k => XS.goto X129.here hx rfl (pc0 := 322) (pc' := 326) rfl (hb hby at_322) (by decide) (by decide) k) ?_
            show G T129 (mkF m 326 ls115 [(.int 1)])
            exact ret (v := some (.int 1)) X129 hS hk127 (fun h => by rw [Bd.returns] at h; cases h) (fun fs hr => retN X129 hx (t := .boolean) Bd.returns (by simp) (hb hby at_326) hr) e129 ⟨rfl, N129⟩ (by decide) (by decide)
        · skip
          refine step (fun t k => XS.icmpNo X116.here hx rfl (hb hby at_279) rfl (flt hc120).1 k) ?_
          show G T116 (mkF m 282 ls115 [])
          refine step (fun t k => XS.aload X116.here hx rfl (hb hby at_282) (by rw [hls115]; rfl) rfl k) ?_
          show G T116 (mkF m 284 ls115 [(.ref b39)])
          refine step (fun t k => XS.lload X116.here hx rfl (hb hby at_284) (by rw [hls115]; rfl) k) ?_
          show G T116 (mkF m 286 ls115 [(.long B0), (.ref b39)])
          have f134 := (Arv.keep Y48_4 K116q (ninS (Nat.ne_of_gt lt_b39_b41) nin0))
          have hK133 := (backOf (R := room_1) (p := p) (e := e) (below := below) (args := #[(.long q0), (.int p1), (.int p2), (.int p3), (.int p4)]) (len := 3) (W := 0) (rm_add_4_0 l Z a0 hw [] w_SLIDING w_CALENDAR w_SwitchMap_co b39 B0 b41 kb_41 A0 A1 A2 A3 (2 : Int32) (2 : Int32) (3 : Int32) T116.heap n0 (own_old_le O116) ST O116 Y116_0 ge_b39 Y116_1 ge_b41 Y116_2 Y116_3 f134 (by decide : ¬ ((2 : Int32) = (4 : Int32))) (by decide : ((2 : Int32) + (1 : Int32)) = (3 : Int32)) (by decide : (((2 : Int32) + (2 : Int32)) % (4 : Int32)) = (0 : Int32))) hZ (ww55 hw) (ww44 hw) (by decide) (by decide))
          obtain ⟨cq133, kq133, q133a, q133b, q133c⟩ := isOf hZ rfl Y116_0
          obtain ⟨_, _, ⟨T133, L133, k133, n133⟩, -, X133, ⟨Lc133, hQ133, l133, y133, z133⟩, st133⟩ := X116.virtualBack hx (y := y_8) (z := y_8) hown (mvT hZ (ww51 hw)) (mvT hZ (ww52 hw)) (notFace_of_selects (args := #[]) (mvT hZ (ww54 hw))) (mvT hZ (ww54 hw)) (mvT hZ (ww53 hw)) (by decide) hK133 q133a q133c (g := (mkF m 286 ls115 [(.long B0), (.ref b39)])) rfl (by rw [hml, hls115]; rfl) (Steps.refl _) (argsL := [(.long B0)]) (rest := []) (lenOf pd_4 rfl) rfl (by show 2 * 0 + _ ≤ _; exact Nat.le_of_eq rfl) (hb hby at_286) (fun _ _ => ⟨rfl, rfl, (by decide : 6 + 0 ≤ _), (by decide : 36 + 0 ≤ _)⟩)
          dsimp only [Pt.U, Pt.locs, Pt.cells, Pt.slots] at X133 l133 y133 z133 st133 hQ133
          subst l133 y133 z133
          obtain ⟨rfl, N133q, K133q, Y133_0, Y133_1, Y133_2, Y133_3, Y133_4⟩ := hQ133
          have N133 := Fr.app N116 N133q
          obtain ⟨lc133, X133, N133⟩ := own_gen X133 N133
          have O133 := O116.keep K133q (allS ge_b39 (allS ge_b41 all0))
          have hk133 : _ ≤ T133.heap.size := Nat.le_trans hk116 K133q.1
          refine step (fun t k => st133.trans k) ?_
          show G T133 (mkF m 289 ls115 [])
          refine step (fun t k => XS.iload X133.here hx rfl (hb hby at_289) (by rw [hls115]; rfl) k) ?_
          show G T133 (mkF m 291 ls115 [(.int ee)])
          refine step (fun t k => XS.iconst X133.here hx rfl (hb hby at_291) k) ?_
          show G T133 (mkF m 292 ls115 [(.int 2), (.int ee)])
          by_cases hc135 : ee < (2 : Int32)
          · skip
            refine step (fun t k => XS.icmpYes X133.here hx rfl (pc0 := 292) (pc' := 302) rfl (hb hby at_292) rfl (tlt hc135).1 (by decide) (by decide) k) ?_
            show G T133 (mkF m 302 ls115 [])
            have hz : sz.toInt = 3 := by
              have q := c_iadd (2 : Int32) ee
              rw [← hsz] at q
              have q4 : (2 : Int32).toInt = 2 := by decide
              have q5 := own_e p3 ee hee
              have q1 : (1 : Int32).toInt = 1 := by decide
              have q2 : (2 : Int32).toInt = 2 := by decide
              have z  := hc120
              rw [own_xlt] at z 
              have z  := hc135
              rw [own_xlt] at z 
              have r := rng32 sz
              omega
            have hj := own_j3 p4 jj sz hz hjj
            refine step (fun t k => XS.aload X133.here hx rfl (hb hby at_302) (by rw [hls115]; rfl) rfl k) ?_
            show G T133 (mkF m 304 ls115 [(.ref b39)])
            refine step (fun t k => XS.iload X133.here hx rfl (hb hby at_304) (by rw [hls115]; rfl) k) ?_
            show G T133 (mkF m 306 ls115 [(.int jj), (.ref b39)])
            have hK136 := (backOf (R := room_1) (p := p) (e := e) (below := below) (args := #[(.long q0), (.int p1), (.int p2), (.int p3), (.int p4)]) (len := 3) (W := 0) (rm_get4 l Z a0 hw [] w_SLIDING w_CALENDAR w_SwitchMap_co b39 jj b41 kb_41 B0 A1 A2 A3 (2 : Int32) T133.heap n0 (own_old_le O133) ST O133 Y133_1 Y133_2 Y133_4 (by rcases hj with rfl | rfl | rfl <;> decide)) hZ (ww95 hw) (ww44 hw) (by decide) (by decide))
            obtain ⟨cq136, kq136, q136a, q136b, q136c⟩ := isOf hZ rfl Y133_0
            obtain ⟨_, _, ⟨T136, L136, k136, n136⟩, -, X136, ⟨Lc136, hQ136, l136, y136, z136⟩, st136⟩ := X133.virtualBack hx (y := y_12) (z := y_12) hown (mvT hZ (ww91 hw)) (mvT hZ (ww92 hw)) (notFace_of_selects (args := #[]) (mvT hZ (ww94 hw))) (mvT hZ (ww94 hw)) (mvT hZ (ww93 hw)) (by decide) hK136 q136a q136c (g := (mkF m 306 ls115 [(.int jj), (.ref b39)])) rfl (by rw [hml, hls115]; rfl) (Steps.refl _) (argsL := [(.int jj)]) (rest := []) (lenOf pd_9 rfl) rfl (by show 2 * 0 + _ ≤ _; exact Nat.le_of_eq rfl) (hb hby at_306) (fun _ _ => ⟨rfl, rfl, (by decide : 6 + 0 ≤ _), (by decide : 36 + 0 ≤ _)⟩)
            dsimp only [Pt.U, Pt.locs, Pt.cells, Pt.slots] at X136 l136 y136 z136 st136 hQ136
            subst l136 y136 z136
            obtain ⟨rfl, N136q, e136⟩ := hQ136
            have N136 := Fr.app N133 N136q
            obtain ⟨lc136, X136, N136⟩ := own_gen X136 N136
            refine step (fun t k => st136.trans k) ?_
            show G T136 (mkF m 309 ls115 [(.long (f_get4 w_SLIDING w_CALENDAR w_SwitchMap_co b39 jj b41 kb_41 B0 A1 A2 A3 (2 : Int32)))])
            have r137 : (f_get4 w_SLIDING w_CALENDAR w_SwitchMap_co b39 jj b41 kb_41 B0 A1 A2 A3 (2 : Int32)) = (own_at4 B0 A1 A2 A3 (((2 : Int32) + jj) % (4 : Int32))) := rfl
            rw [r137]
            show G T136 (mkF m 309 ls115 [(.long (own_at4 B0 A1 A2 A3 (((2 : Int32) + jj) % (4 : Int32))))])
            refine step (fun t k => XS.aload X136.here hx rfl (hb hby at_309) (by rw [hls115]; rfl) rfl k) ?_
            show G T136 (mkF m 311 ls115 [(.ref b28), (.long (own_at4 B0 A1 A2 A3 (((2 : Int32) + jj) % (4 : Int32))))])
            refine step (fun t k => XS.iload X136.here hx rfl (hb hby at_311) (by rw [hls115]; rfl) k) ?_
            show G T136 (mkF m 313 ls115 [(.int 2), (.ref b28), (.long (own_at4 B0 A1 A2 A3 (((2 : Int32) + jj) % (4 : Int32))))])
            refine step (fun t k => XS.iload X136.here hx rfl (hb hby at_313) (by rw [hls115]; rfl) k) ?_
            show G T136 (mkF m 315 ls115 [(.int jj), (.int 2), (.ref b28), (.long (own_at4 B0 A1 A2 A3 (((2 : Int32) + jj) % (4 : Int32))))])
            refine step (fun t k => XS.iadd X136.here hx rfl (hb hby at_315) rfl k) ?_
            show G T136 (mkF m 316 ls115 [(.int ((2 : Int32) + jj)), (.ref b28), (.long (own_at4 B0 A1 A2 A3 (((2 : Int32) + jj) % (4 : Int32))))])
            have f138 := (Arv.keep (Arv.keep (Arv.keep (Arv.keep (Arv.keep (Arv.keep (Arv.keep ((Arv.keep V34 K36q nin0).ext E39) K41q (ninS (Nat.ne_of_lt lt_b28_b39) nin0)) K45q (ninS (Nat.ne_of_lt lt_b28_b39) (ninS (Nat.ne_of_lt lt_b28_b41) nin0))) K46q (ninS (Nat.ne_of_lt lt_b28_b39) (ninS (Nat.ne_of_lt lt_b28_b41) nin0))) K47q (ninS (Nat.ne_of_lt lt_b28_b39) (ninS (Nat.ne_of_lt lt_b28_b41) nin0))) K48q (ninS (Nat.ne_of_lt lt_b28_b39) (ninS (Nat.ne_of_lt lt_b28_b41) nin0))) K116q (ninS (Nat.ne_of_lt lt_b28_b39) nin0)) K133q (ninS (Nat.ne_of_lt lt_b28_b39) (ninS (Nat.ne_of_lt lt_b28_b41) nin0)))
            have q139 := own_ldJ X136 hx hZ e136 f138 (j := ((2 : Int32) + jj)) (v := .long (own_at6 A0 A1 A2 A3 B0 B1 ((2 : Int32) + jj))) (by rcases hj with rfl | rfl | rfl <;> decide) (own_get6 (by rcases hj with rfl | rfl | rfl <;> decide)) (g := (mkF m 316 ls115 [(.int ((2 : Int32) + jj)), (.ref b28), (.long (own_at4 B0 A1 A2 A3 (((2 : Int32) + jj) % (4 : Int32))))])) rfl rfl (hb hby at_316)
            refine step q139 ?_
            show G T136 (mkF m 317 ls115 [(.long (own_at6 A0 A1 A2 A3 B0 B1 ((2 : Int32) + jj))), (.long (own_at4 B0 A1 A2 A3 (((2 : Int32) + jj) % (4 : Int32))))])
            refine step (fun t k => XS.lcmp X136.here hx rfl (hb hby at_317) rfl k) ?_
            show G T136 (mkF m 318 ls115 [(.int (lcmpW (own_at4 B0 A1 A2 A3 (((2 : Int32) + jj) % (4 : Int32))) (own_at6 A0 A1 A2 A3 B0 B1 ((2 : Int32) + jj))))])
            refine step (fun t k => XS.ifNo X136.here hx rfl (hb hby at_318) rfl ((if0 _ _).trans (teq ((lw_eq _ _).mpr (by rcases hj with rfl | rfl | rfl <;> rfl))).2) k) ?_
            show G T136 (mkF m 321 ls115 [])
            refine step (fun t k => XS.iconst X136.here hx rfl (hb hby at_321) k) ?_
            show G T136 (mkF m 322 ls115 [(.int 1)])
            refine step (fun t k => XS.goto X136.here hx rfl (pc0 := 322) (pc' := 326) rfl (hb hby at_322) (by decide) (by decide) k) ?_
            show G T136 (mkF m 326 ls115 [(.int 1)])
            exact ret (v := some (.int 1)) X136 hS hk133 (fun h => by rw [Bd.returns] at h; cases h) (fun fs hr => retN X136 hx (t := .boolean) Bd.returns (by simp) (hb hby at_326) hr) e136 ⟨rfl, N136⟩ (by decide) (by decide)
          · skip
            refine step (fun t k => XS.icmpNo X133.here hx rfl (hb hby at_292) rfl (flt hc135).1 k) ?_
            show G T133 (mkF m 295 ls115 [])
            refine step (fun t k => XS.aload X133.here hx rfl (hb hby at_295) (by rw [hls115]; rfl) rfl k) ?_
            show G T133 (mkF m 297 ls115 [(.ref b39)])
            refine step (fun t k => XS.lload X133.here hx rfl (hb hby at_297) (by rw [hls115]; rfl) k) ?_
            show G T133 (mkF m 299 ls115 [(.long B1), (.ref b39)])
            have hK140 := (backOf (R := room_1) (p := p) (e := e) (below := below) (args := #[(.long q0), (.int p1), (.int p2), (.int p3), (.int p4)]) (len := 3) (W := 0) (rm_add_4_1 l Z a0 hw [] w_SLIDING w_CALENDAR w_SwitchMap_co b39 B1 b41 kb_41 B0 A1 A2 A3 (2 : Int32) (3 : Int32) (4 : Int32) T133.heap n0 (own_old_le O133) ST O133 Y133_0 ge_b39 Y133_1 ge_b41 Y133_2 Y133_3 Y133_4 (by decide : ¬ ((3 : Int32) = (4 : Int32))) (by decide : ((3 : Int32) + (1 : Int32)) = (4 : Int32)) (by decide : (((2 : Int32) + (3 : Int32)) % (4 : Int32)) = (1 : Int32))) hZ (ww55 hw) (ww44 hw) (by decide) (by decide))
            obtain ⟨cq140, kq140, q140a, q140b, q140c⟩ := isOf hZ rfl Y133_0
            obtain ⟨_, _, ⟨T140, L140, k140, n140⟩, -, X140, ⟨Lc140, hQ140, l140, y140, z140⟩, st140⟩ := X133.virtualBack hx (y := y_8) (z := y_8) hown (mvT hZ (ww51 hw)) (mvT hZ (ww52 hw)) (notFace_of_selects (args := #[]) (mvT hZ (ww54 hw))) (mvT hZ (ww54 hw)) (mvT hZ (ww53 hw)) (by decide) hK140 q140a q140c (g := (mkF m 299 ls115 [(.long B1), (.ref b39)])) rfl (by rw [hml, hls115]; rfl) (Steps.refl _) (argsL := [(.long B1)]) (rest := []) (lenOf pd_4 rfl) rfl (by show 2 * 0 + _ ≤ _; exact Nat.le_of_eq rfl) (hb hby at_299) (fun _ _ => ⟨rfl, rfl, (by decide : 6 + 0 ≤ _), (by decide : 36 + 0 ≤ _)⟩)
            dsimp only [Pt.U, Pt.locs, Pt.cells, Pt.slots] at X140 l140 y140 z140 st140 hQ140
            subst l140 y140 z140
            obtain ⟨rfl, N140q, K140q, Y140_0, Y140_1, Y140_2, Y140_3, Y140_4⟩ := hQ140
            have N140 := Fr.app N133 N140q
            obtain ⟨lc140, X140, N140⟩ := own_gen X140 N140
            have O140 := O133.keep K140q (allS ge_b39 (allS ge_b41 all0))
            have hk140 : _ ≤ T140.heap.size := Nat.le_trans hk133 K140q.1
            refine step (fun t k => st140.trans k) ?_
            show G T140 (mkF m 302 ls115 [])
            have hz : sz.toInt = 4 := by
              have q := c_iadd (2 : Int32) ee
              rw [← hsz] at q
              have q4 : (2 : Int32).toInt = 2 := by decide
              have q5 := own_e p3 ee hee
              have q1 : (1 : Int32).toInt = 1 := by decide
              have q2 : (2 : Int32).toInt = 2 := by decide
              have z  := hc120
              rw [own_xlt] at z 
              have z  := hc135
              rw [own_xlt] at z 
              have r := rng32 sz
              omega
            have hj := own_j4 p4 jj sz hz hjj
            refine step (fun t k => XS.aload X140.here hx rfl (hb hby at_302) (by rw [hls115]; rfl) rfl k) ?_
            show G T140 (mkF m 304 ls115 [(.ref b39)])
            refine step (fun t k => XS.iload X140.here hx rfl (hb hby at_304) (by rw [hls115]; rfl) k) ?_
            show G T140 (mkF m 306 ls115 [(.int jj), (.ref b39)])
            have hK141 := (backOf (R := room_1) (p := p) (e := e) (below := below) (args := #[(.long q0), (.int p1), (.int p2), (.int p3), (.int p4)]) (len := 3) (W := 0) (rm_get4 l Z a0 hw [] w_SLIDING w_CALENDAR w_SwitchMap_co b39 jj b41 kb_41 B0 B1 A2 A3 (2 : Int32) T140.heap n0 (own_old_le O140) ST O140 Y140_1 Y140_2 Y140_4 (by rcases hj with rfl | rfl | rfl | rfl <;> decide)) hZ (ww95 hw) (ww44 hw) (by decide) (by decide))
            obtain ⟨cq141, kq141, q141a, q141b, q141c⟩ := isOf hZ rfl Y140_0
            obtain ⟨_, _, ⟨T141, L141, k141, n141⟩, -, X141, ⟨Lc141, hQ141, l141, y141, z141⟩, st141⟩ := X140.virtualBack hx (y := y_12) (z := y_12) hown (mvT hZ (ww91 hw)) (mvT hZ (ww92 hw)) (notFace_of_selects (args := #[]) (mvT hZ (ww94 hw))) (mvT hZ (ww94 hw)) (mvT hZ (ww93 hw)) (by decide) hK141 q141a q141c (g := (mkF m 306 ls115 [(.int jj), (.ref b39)])) rfl (by rw [hml, hls115]; rfl) (Steps.refl _) (argsL := [(.int jj)]) (rest := []) (lenOf pd_9 rfl) rfl (by show 2 * 0 + _ ≤ _; exact Nat.le_of_eq rfl) (hb hby at_306) (fun _ _ => ⟨rfl, rfl, (by decide : 6 + 0 ≤ _), (by decide : 36 + 0 ≤ _)⟩)
            dsimp only [Pt.U, Pt.locs, Pt.cells, Pt.slots] at X141 l141 y141 z141 st141 hQ141
            subst l141 y141 z141
            obtain ⟨rfl, N141q, e141⟩ := hQ141
            have N141 := Fr.app N140 N141q
            obtain ⟨lc141, X141, N141⟩ := own_gen X141 N141
            refine step (fun t k => st141.trans k) ?_
            show G T141 (mkF m 309 ls115 [(.long (f_get4 w_SLIDING w_CALENDAR w_SwitchMap_co b39 jj b41 kb_41 B0 B1 A2 A3 (2 : Int32)))])
            have r142 : (f_get4 w_SLIDING w_CALENDAR w_SwitchMap_co b39 jj b41 kb_41 B0 B1 A2 A3 (2 : Int32)) = (own_at4 B0 B1 A2 A3 (((2 : Int32) + jj) % (4 : Int32))) := rfl
            rw [r142]
            show G T141 (mkF m 309 ls115 [(.long (own_at4 B0 B1 A2 A3 (((2 : Int32) + jj) % (4 : Int32))))])
            refine step (fun t k => XS.aload X141.here hx rfl (hb hby at_309) (by rw [hls115]; rfl) rfl k) ?_
            show G T141 (mkF m 311 ls115 [(.ref b28), (.long (own_at4 B0 B1 A2 A3 (((2 : Int32) + jj) % (4 : Int32))))])
            refine step (fun t k => XS.iload X141.here hx rfl (hb hby at_311) (by rw [hls115]; rfl) k) ?_
            show G T141 (mkF m 313 ls115 [(.int 2), (.ref b28), (.long (own_at4 B0 B1 A2 A3 (((2 : Int32) + jj) % (4 : Int32))))])
            refine step (fun t k => XS.iload X141.here hx rfl (hb hby at_313) (by rw [hls115]; rfl) k) ?_
            show G T141 (mkF m 315 ls115 [(.int jj), (.int 2), (.ref b28), (.long (own_at4 B0 B1 A2 A3 (((2 : Int32) + jj) % (4 : Int32))))])
            refine step (fun t k => XS.iadd X141.here hx rfl (hb hby at_315) rfl k) ?_
            show G T141 (mkF m 316 ls115 [(.int ((2 : Int32) + jj)), (.ref b28), (.long (own_at4 B0 B1 A2 A3 (((2 : Int32) + jj) % (4 : Int32))))])
            have f143 := (Arv.keep (Arv.keep (Arv.keep (Arv.keep (Arv.keep (Arv.keep (Arv.keep (Arv.keep ((Arv.keep V34 K36q nin0).ext E39) K41q (ninS (Nat.ne_of_lt lt_b28_b39) nin0)) K45q (ninS (Nat.ne_of_lt lt_b28_b39) (ninS (Nat.ne_of_lt lt_b28_b41) nin0))) K46q (ninS (Nat.ne_of_lt lt_b28_b39) (ninS (Nat.ne_of_lt lt_b28_b41) nin0))) K47q (ninS (Nat.ne_of_lt lt_b28_b39) (ninS (Nat.ne_of_lt lt_b28_b41) nin0))) K48q (ninS (Nat.ne_of_lt lt_b28_b39) (ninS (Nat.ne_of_lt lt_b28_b41) nin0))) K116q (ninS (Nat.ne_of_lt lt_b28_b39) nin0)) K133q (ninS (Nat.ne_of_lt lt_b28_b39) (ninS (Nat.ne_of_lt lt_b28_b41) nin0))) K140q (ninS (Nat.ne_of_lt lt_b28_b39) (ninS (Nat.ne_of_lt lt_b28_b41) nin0)))
            have q144 := own_ldJ X141 hx hZ e141 f143 (j := ((2 : Int32) + jj)) (v := .long (own_at6 A0 A1 A2 A3 B0 B1 ((2 : Int32) + jj))) (by rcases hj with rfl | rfl | rfl | rfl <;> decide) (own_get6 (by rcases hj with rfl | rfl | rfl | rfl <;> decide)) (g := (mkF m 316 ls115 [(.int ((2 : Int32) + jj)), (.ref b28), (.long (own_at4 B0 B1 A2 A3 (((2 : Int32) + jj) % (4 : Int32))))])) rfl rfl (hb hby at_316)
            refine step q144 ?_
            show G T141 (mkF m 317 ls115 [(.long (own_at6 A0 A1 A2 A3 B0 B1 ((2 : Int32) + jj))), (.long (own_at4 B0 B1 A2 A3 (((2 : Int32) + jj) % (4 : Int32))))])
            refine step (fun t k => XS.lcmp X141.here hx rfl (hb hby at_317) rfl k) ?_
            show G T141 (mkF m 318 ls115 [(.int (lcmpW (own_at4 B0 B1 A2 A3 (((2 : Int32) + jj) % (4 : Int32))) (own_at6 A0 A1 A2 A3 B0 B1 ((2 : Int32) + jj))))])
            refine step (fun t k => XS.ifNo X141.here hx rfl (hb hby at_318) rfl ((if0 _ _).trans (teq ((lw_eq _ _).mpr (by rcases hj with rfl | rfl | rfl | rfl <;> rfl))).2) k) ?_
            show G T141 (mkF m 321 ls115 [])
            refine step (fun t k => XS.iconst X141.here hx rfl (hb hby at_321) k) ?_
            show G T141 (mkF m 322 ls115 [(.int 1)])
            refine step (fun t k => XS.goto X141.here hx rfl (pc0 := 322) (pc' := 326) rfl (hb hby at_322) (by decide) (by decide) k) ?_
            show G T141 (mkF m 326 ls115 [(.int 1)])
            exact ret (v := some (.int 1)) X141 hS hk140 (fun h => by rw [Bd.returns] at h; cases h) (fun fs hr => retN X141 hx (t := .boolean) Bd.returns (by simp) (hb hby at_326) hr) e141 ⟨rfl, N141⟩ (by decide) (by decide)
      · rw [hkq] at hsz
        obtain ⟨ls145, hls145⟩  := own_sl #[.val (.long q0), .second, .val (.int p1), .val (.int p2), .val (.int p3), .val (.int p4), .val (.long A0), .second, .val (.long A1), .second, .val (.long A2), .second, .val (.long A3), .second, .val (.long nw), .second, .val (.long B0), .second, .val (.long B1), .second, .val (.long mm), .second, .val (.int ee), .val (.long last), .second, .val (.int 3), .val (.int sz), .val (.int jj), .val (.ref b28), .val (.ref b36), .val (.ref b39)]
        rw [show ls44 = ls145 from by rw [hls44, hls145, hkq]]
        show G T48 (mkF m 272 ls145 [(.long nw), (.ref b36), (.ref b39)])
        rw [(by decide : ((4 : Int32) - (3 : Int32)) = (1 : Int32))] at hsz
        have f147 := (Exa.keep (Exa.keep (Exa.keep (Exa.keep (Exa.keep f43 K41q) K45q) K46q) K47q) K48q)
        have f148 := (Fld.keep (Fld.keep (Fld.keep (Fld.keep (Fld.keep (Fld.ext E39 Y36_2) K41q (ninS (Nat.ne_of_lt lt_b36_b39) nin0)) K45q (ninS (Nat.ne_of_lt lt_b36_b39) (ninS (Nat.ne_of_lt lt_b36_b41) nin0))) K46q (ninS (Nat.ne_of_lt lt_b36_b39) (ninS (Nat.ne_of_lt lt_b36_b41) nin0))) K47q (ninS (Nat.ne_of_lt lt_b36_b39) (ninS (Nat.ne_of_lt lt_b36_b41) nin0))) K48q (ninS (Nat.ne_of_lt lt_b36_b39) (ninS (Nat.ne_of_lt lt_b36_b41) nin0)))
        have f149 := (Fld.keep (Fld.keep (Fld.keep (Fld.keep (Fld.keep (Fld.ext E39 Y36_3) K41q (ninS (Nat.ne_of_lt lt_b36_b39) nin0)) K45q (ninS (Nat.ne_of_lt lt_b36_b39) (ninS (Nat.ne_of_lt lt_b36_b41) nin0))) K46q (ninS (Nat.ne_of_lt lt_b36_b39) (ninS (Nat.ne_of_lt lt_b36_b41) nin0))) K47q (ninS (Nat.ne_of_lt lt_b36_b39) (ninS (Nat.ne_of_lt lt_b36_b41) nin0))) K48q (ninS (Nat.ne_of_lt lt_b36_b39) (ninS (Nat.ne_of_lt lt_b36_b41) nin0)))
        have hK146 := (backOf (R := room_1) (p := p) (e := e) (below := below) (args := #[(.long q0), (.int p1), (.int p2), (.int p3), (.int p4)]) (len := 3) (W := 0) (rm_cnt_4_0_4_3 l Z a0 hw [] w_SLIDING w_CALENDAR w_SwitchMap_co b39 b36 nw b41 kb_41 A0 A1 A2 A3 mm T48.heap n0 (own_old_le O48) ST O48 Y48_0 ge_b39 Y48_1 ge_b41 Y48_2 Y48_3 Y48_4 f147 f148 f149 ((hlast ▸ hl0) : ¬ ((nw - mm) < A0)) ((hlast ▸ hl1) : ¬ ((nw - mm) < A1)) ((hlast ▸ hl2) : ¬ ((nw - mm) < A2)) ((hlast ▸ hl3) : (nw - mm) < A3)) hZ (ww64 hw) (ww44 hw) (by decide) (by decide))
        obtain ⟨cq146, kq146, q146a, q146b, q146c⟩ := isOf hZ rfl Y48_0
        obtain ⟨_, _, ⟨T146, L146, k146, n146⟩, -, X146, ⟨Lc146, hQ146, l146, y146, z146⟩, st146⟩ := X48.virtualBack hx (y := y_11) (z := y_11) hown (mvT hZ (ww60 hw)) (mvT hZ (ww61 hw)) (notFace_of_selects (args := #[]) (mvT hZ (ww63 hw))) (mvT hZ (ww63 hw)) (mvT hZ (ww62 hw)) (by decide) hK146 q146a q146c (g := (mkF m 272 ls145 [(.long nw), (.ref b36), (.ref b39)])) rfl (by rw [hml, hls145]; rfl) (Steps.refl _) (argsL := [(.ref b36), (.long nw)]) (rest := []) (lenOf pd_8 rfl) rfl (by show 2 * 0 + _ ≤ _; exact Nat.le_of_eq rfl) (hb hby at_272) (fun _ _ => ⟨rfl, rfl, (by decide : 6 + 0 ≤ _), (by decide : 36 + 0 ≤ _)⟩)
        dsimp only [Pt.U, Pt.locs, Pt.cells, Pt.slots] at X146 l146 y146 z146 st146 hQ146
        subst l146 y146 z146
        obtain ⟨rfl, N146q, K146q, Y146_0, Y146_1, Y146_2, Y146_3⟩ := hQ146
        have N146 := Fr.app N48 N146q
        obtain ⟨lc146, X146, N146⟩ := own_gen X146 N146
        have O146 := O48.keep K146q (allS ge_b39 all0)
        have hk146 : _ ≤ T146.heap.size := Nat.le_trans hk48 K146q.1
        refine step (fun t k => st146.trans k) ?_
        show G T146 (mkF m 275 ls145 [(.int 1)])
        refine step (fun t k => XS.pop X146.here hx rfl (hb hby at_275) rfl rfl k) ?_
        show G T146 (mkF m 276 ls145 [])
        refine step (fun t k => XS.iload X146.here hx rfl (hb hby at_276) (by rw [hls145]; rfl) k) ?_
        show G T146 (mkF m 278 ls145 [(.int ee)])
        refine step (fun t k => XS.iconst X146.here hx rfl (hb hby at_278) k) ?_
        show G T146 (mkF m 279 ls145 [(.int 1), (.int ee)])
        by_cases hc150 : ee < (1 : Int32)
        · skip
          refine step (fun t k => XS.icmpYes X146.here hx rfl (pc0 := 279) (pc' := 289) rfl (hb hby at_279) rfl (tlt hc150).1 (by decide) (by decide) k) ?_
          show G T146 (mkF m 289 ls145 [])
          refine step (fun t k => XS.iload X146.here hx rfl (hb hby at_289) (by rw [hls145]; rfl) k) ?_
          show G T146 (mkF m 291 ls145 [(.int ee)])
          refine step (fun t k => XS.iconst X146.here hx rfl (hb hby at_291) k) ?_
          show G T146 (mkF m 292 ls145 [(.int 2), (.int ee)])
          by_cases hc151 : ee < (2 : Int32)
          · skip
            refine step (fun t k => XS.icmpYes X146.here hx rfl (pc0 := 292) (pc' := 302) rfl (hb hby at_292) rfl (tlt hc151).1 (by decide) (by decide) k) ?_
            show G T146 (mkF m 302 ls145 [])
            have hz : sz.toInt = 1 := by
              have q := c_iadd (1 : Int32) ee
              rw [← hsz] at q
              have q4 : (1 : Int32).toInt = 1 := by decide
              have q5 := own_e p3 ee hee
              have q1 : (1 : Int32).toInt = 1 := by decide
              have q2 : (2 : Int32).toInt = 2 := by decide
              have z  := hc150
              rw [own_xlt] at z 
              have z  := hc151
              rw [own_xlt] at z 
              have r := rng32 sz
              omega
            have hj := own_j1 p4 jj sz hz hjj
            refine step (fun t k => XS.aload X146.here hx rfl (hb hby at_302) (by rw [hls145]; rfl) rfl k) ?_
            show G T146 (mkF m 304 ls145 [(.ref b39)])
            refine step (fun t k => XS.iload X146.here hx rfl (hb hby at_304) (by rw [hls145]; rfl) k) ?_
            show G T146 (mkF m 306 ls145 [(.int jj), (.ref b39)])
            have f153 := (Arv.keep Y48_4 K146q (ninS (Nat.ne_of_gt lt_b39_b41) nin0))
            have hK152 := (backOf (R := room_1) (p := p) (e := e) (below := below) (args := #[(.long q0), (.int p1), (.int p2), (.int p3), (.int p4)]) (len := 3) (W := 0) (rm_get4 l Z a0 hw [] w_SLIDING w_CALENDAR w_SwitchMap_co b39 jj b41 kb_41 A0 A1 A2 A3 (3 : Int32) T146.heap n0 (own_old_le O146) ST O146 Y146_1 Y146_2 f153 (by rw [hj]; decide)) hZ (ww95 hw) (ww44 hw) (by decide) (by decide))
            obtain ⟨cq152, kq152, q152a, q152b, q152c⟩ := isOf hZ rfl Y146_0
            obtain ⟨_, _, ⟨T152, L152, k152, n152⟩, -, X152, ⟨Lc152, hQ152, l152, y152, z152⟩, st152⟩ := X146.virtualBack hx (y := y_12) (z := y_12) hown (mvT hZ (ww91 hw)) (mvT hZ (ww92 hw)) (notFace_of_selects (args := #[]) (mvT hZ (ww94 hw))) (mvT hZ (ww94 hw)) (mvT hZ (ww93 hw)) (by decide) hK152 q152a q152c (g := (mkF m 306 ls145 [(.int jj), (.ref b39)])) rfl (by rw [hml, hls145]; rfl) (Steps.refl _) (argsL := [(.int jj)]) (rest := []) (lenOf pd_9 rfl) rfl (by show 2 * 0 + _ ≤ _; exact Nat.le_of_eq rfl) (hb hby at_306) (fun _ _ => ⟨rfl, rfl, (by decide : 6 + 0 ≤ _), (by decide : 36 + 0 ≤ _)⟩)
            dsimp only [Pt.U, Pt.locs, Pt.cells, Pt.slots] at X152 l152 y152 z152 st152 hQ152
            subst l152 y152 z152
            obtain ⟨rfl, N152q, e152⟩ := hQ152
            have N152 := Fr.app N146 N152q
            obtain ⟨lc152, X152, N152⟩ := own_gen X152 N152
            refine step (fun t k => st152.trans k) ?_
            show G T152 (mkF m 309 ls145 [(.long (f_get4 w_SLIDING w_CALENDAR w_SwitchMap_co b39 jj b41 kb_41 A0 A1 A2 A3 (3 : Int32)))])
            have r154 : (f_get4 w_SLIDING w_CALENDAR w_SwitchMap_co b39 jj b41 kb_41 A0 A1 A2 A3 (3 : Int32)) = (own_at4 A0 A1 A2 A3 (((3 : Int32) + jj) % (4 : Int32))) := rfl
            rw [r154]
            show G T152 (mkF m 309 ls145 [(.long (own_at4 A0 A1 A2 A3 (((3 : Int32) + jj) % (4 : Int32))))])
            refine step (fun t k => XS.aload X152.here hx rfl (hb hby at_309) (by rw [hls145]; rfl) rfl k) ?_
            show G T152 (mkF m 311 ls145 [(.ref b28), (.long (own_at4 A0 A1 A2 A3 (((3 : Int32) + jj) % (4 : Int32))))])
            refine step (fun t k => XS.iload X152.here hx rfl (hb hby at_311) (by rw [hls145]; rfl) k) ?_
            show G T152 (mkF m 313 ls145 [(.int 3), (.ref b28), (.long (own_at4 A0 A1 A2 A3 (((3 : Int32) + jj) % (4 : Int32))))])
            refine step (fun t k => XS.iload X152.here hx rfl (hb hby at_313) (by rw [hls145]; rfl) k) ?_
            show G T152 (mkF m 315 ls145 [(.int jj), (.int 3), (.ref b28), (.long (own_at4 A0 A1 A2 A3 (((3 : Int32) + jj) % (4 : Int32))))])
            refine step (fun t k => XS.iadd X152.here hx rfl (hb hby at_315) rfl k) ?_
            show G T152 (mkF m 316 ls145 [(.int ((3 : Int32) + jj)), (.ref b28), (.long (own_at4 A0 A1 A2 A3 (((3 : Int32) + jj) % (4 : Int32))))])
            have f155 := (Arv.keep (Arv.keep (Arv.keep (Arv.keep (Arv.keep (Arv.keep ((Arv.keep V34 K36q nin0).ext E39) K41q (ninS (Nat.ne_of_lt lt_b28_b39) nin0)) K45q (ninS (Nat.ne_of_lt lt_b28_b39) (ninS (Nat.ne_of_lt lt_b28_b41) nin0))) K46q (ninS (Nat.ne_of_lt lt_b28_b39) (ninS (Nat.ne_of_lt lt_b28_b41) nin0))) K47q (ninS (Nat.ne_of_lt lt_b28_b39) (ninS (Nat.ne_of_lt lt_b28_b41) nin0))) K48q (ninS (Nat.ne_of_lt lt_b28_b39) (ninS (Nat.ne_of_lt lt_b28_b41) nin0))) K146q (ninS (Nat.ne_of_lt lt_b28_b39) nin0))
            have q156 := own_ldJ X152 hx hZ e152 f155 (j := ((3 : Int32) + jj)) (v := .long (own_at6 A0 A1 A2 A3 B0 B1 ((3 : Int32) + jj))) (by rw [hj]; decide) (own_get6 (by rw [hj]; decide)) (g := (mkF m 316 ls145 [(.int ((3 : Int32) + jj)), (.ref b28), (.long (own_at4 A0 A1 A2 A3 (((3 : Int32) + jj) % (4 : Int32))))])) rfl rfl (hb hby at_316)
            refine step q156 ?_
            show G T152 (mkF m 317 ls145 [(.long (own_at6 A0 A1 A2 A3 B0 B1 ((3 : Int32) + jj))), (.long (own_at4 A0 A1 A2 A3 (((3 : Int32) + jj) % (4 : Int32))))])
            refine step (fun t k => XS.lcmp X152.here hx rfl (hb hby at_317) rfl k) ?_
            show G T152 (mkF m 318 ls145 [(.int (lcmpW (own_at4 A0 A1 A2 A3 (((3 : Int32) + jj) % (4 : Int32))) (own_at6 A0 A1 A2 A3 B0 B1 ((3 : Int32) + jj))))])
            refine step (fun t k => XS.ifNo X152.here hx rfl (hb hby at_318) rfl ((if0 _ _).trans (teq ((lw_eq _ _).mpr (by rw [hj]; rfl))).2) k) ?_
            show G T152 (mkF m 321 ls145 [])
            refine step (fun t k => XS.iconst X152.here hx rfl (hb hby at_321) k) ?_
            show G T152 (mkF m 322 ls145 [(.int 1)])
            refine step (fun t k => XS.goto X152.here hx rfl (pc0 := 322) (pc' := 326) rfl (hb hby at_322) (by decide) (by decide) k) ?_
            show G T152 (mkF m 326 ls145 [(.int 1)])
            exact ret (v := some (.int 1)) X152 hS hk146 (fun h => by rw [Bd.returns] at h; cases h) (fun fs hr => retN X152 hx (t := .boolean) Bd.returns (by simp) (hb hby at_326) hr) e152 ⟨rfl, N152⟩ (by decide) (by decide)
          · skip
            refine step (fun t k => XS.icmpNo X146.here hx rfl (hb hby at_292) rfl (flt hc151).1 k) ?_
            show G T146 (mkF m 295 ls145 [])
            refine step (fun t k => XS.aload X146.here hx rfl (hb hby at_295) (by rw [hls145]; rfl) rfl k) ?_
            show G T146 (mkF m 297 ls145 [(.ref b39)])
            refine step (fun t k => XS.lload X146.here hx rfl (hb hby at_297) (by rw [hls145]; rfl) k) ?_
            show G T146 (mkF m 299 ls145 [(.long B1), (.ref b39)])
            have f158 := (Arv.keep Y48_4 K146q (ninS (Nat.ne_of_gt lt_b39_b41) nin0))
            have hK157 := (backOf (R := room_1) (p := p) (e := e) (below := below) (args := #[(.long q0), (.int p1), (.int p2), (.int p3), (.int p4)]) (len := 3) (W := 0) (rm_add_4_0 l Z a0 hw [] w_SLIDING w_CALENDAR w_SwitchMap_co b39 B1 b41 kb_41 A0 A1 A2 A3 (3 : Int32) (1 : Int32) (2 : Int32) T146.heap n0 (own_old_le O146) ST O146 Y146_0 ge_b39 Y146_1 ge_b41 Y146_2 Y146_3 f158 (by decide : ¬ ((1 : Int32) = (4 : Int32))) (by decide : ((1 : Int32) + (1 : Int32)) = (2 : Int32)) (by decide : (((3 : Int32) + (1 : Int32)) % (4 : Int32)) = (0 : Int32))) hZ (ww55 hw) (ww44 hw) (by decide) (by decide))
            obtain ⟨cq157, kq157, q157a, q157b, q157c⟩ := isOf hZ rfl Y146_0
            obtain ⟨_, _, ⟨T157, L157, k157, n157⟩, -, X157, ⟨Lc157, hQ157, l157, y157, z157⟩, st157⟩ := X146.virtualBack hx (y := y_8) (z := y_8) hown (mvT hZ (ww51 hw)) (mvT hZ (ww52 hw)) (notFace_of_selects (args := #[]) (mvT hZ (ww54 hw))) (mvT hZ (ww54 hw)) (mvT hZ (ww53 hw)) (by decide) hK157 q157a q157c (g := (mkF m 299 ls145 [(.long B1), (.ref b39)])) rfl (by rw [hml, hls145]; rfl) (Steps.refl _) (argsL := [(.long B1)]) (rest := []) (lenOf pd_4 rfl) rfl (by show 2 * 0 + _ ≤ _; exact Nat.le_of_eq rfl) (hb hby at_299) (fun _ _ => ⟨rfl, rfl, (by decide : 6 + 0 ≤ _), (by decide : 36 + 0 ≤ _)⟩)
            dsimp only [Pt.U, Pt.locs, Pt.cells, Pt.slots] at X157 l157 y157 z157 st157 hQ157
            subst l157 y157 z157
            obtain ⟨rfl, N157q, K157q, Y157_0, Y157_1, Y157_2, Y157_3, Y157_4⟩ := hQ157
            have N157 := Fr.app N146 N157q
            obtain ⟨lc157, X157, N157⟩ := own_gen X157 N157
            have O157 := O146.keep K157q (allS ge_b39 (allS ge_b41 all0))
            have hk157 : _ ≤ T157.heap.size := Nat.le_trans hk146 K157q.1
            refine step (fun t k => st157.trans k) ?_
            show G T157 (mkF m 302 ls145 [])
            have hz : sz.toInt = 1 := by
              have q := c_iadd (1 : Int32) ee
              rw [← hsz] at q
              have q4 : (1 : Int32).toInt = 1 := by decide
              have q5 := own_e p3 ee hee
              have q1 : (1 : Int32).toInt = 1 := by decide
              have q2 : (2 : Int32).toInt = 2 := by decide
              have z  := hc150
              rw [own_xlt] at z 
              have z  := hc151
              rw [own_xlt] at z 
              have r := rng32 sz
              omega
            have hj := own_j1 p4 jj sz hz hjj
            refine step (fun t k => XS.aload X157.here hx rfl (hb hby at_302) (by rw [hls145]; rfl) rfl k) ?_
            show G T157 (mkF m 304 ls145 [(.ref b39)])
            refine step (fun t k => XS.iload X157.here hx rfl (hb hby at_304) (by rw [hls145]; rfl) k) ?_
            show G T157 (mkF m 306 ls145 [(.int jj), (.ref b39)])
            have hK159 := (backOf (R := room_1) (p := p) (e := e) (below := below) (args := #[(.long q0), (.int p1), (.int p2), (.int p3), (.int p4)]) (len := 3) (W := 0) (rm_get4 l Z a0 hw [] w_SLIDING w_CALENDAR w_SwitchMap_co b39 jj b41 kb_41 B1 A1 A2 A3 (3 : Int32) T157.heap n0 (own_old_le O157) ST O157 Y157_1 Y157_2 Y157_4 (by rw [hj]; decide)) hZ (ww95 hw) (ww44 hw) (by decide) (by decide))
            obtain ⟨cq159, kq159, q159a, q159b, q159c⟩ := isOf hZ rfl Y157_0
            obtain ⟨_, _, ⟨T159, L159, k159, n159⟩, -, X159, ⟨Lc159, hQ159, l159, y159, z159⟩, st159⟩ := X157.virtualBack hx (y := y_12) (z := y_12) hown (mvT hZ (ww91 hw)) (mvT hZ (ww92 hw)) (notFace_of_selects (args := #[]) (mvT hZ (ww94 hw))) (mvT hZ (ww94 hw)) (mvT hZ (ww93 hw)) (by decide) hK159 q159a q159c (g := (mkF m 306 ls145 [(.int jj), (.ref b39)])) rfl (by rw [hml, hls145]; rfl) (Steps.refl _) (argsL := [(.int jj)]) (rest := []) (lenOf pd_9 rfl) rfl (by show 2 * 0 + _ ≤ _; exact Nat.le_of_eq rfl) (hb hby at_306) (fun _ _ => ⟨rfl, rfl, (by decide : 6 + 0 ≤ _), (by decide : 36 + 0 ≤ _)⟩)
            dsimp only [Pt.U, Pt.locs, Pt.cells, Pt.slots] at X159 l159 y159 z159 st159 hQ159
            subst l159 y159 z159
            obtain ⟨rfl, N159q, e159⟩ := hQ159
            have N159 := Fr.app N157 N159q
            obtain ⟨lc159, X159, N159⟩ := own_gen X159 N159
            refine step (fun t k => st159.trans k) ?_
            show G T159 (mkF m 309 ls145 [(.long (f_get4 w_SLIDING w_CALENDAR w_SwitchMap_co b39 jj b41 kb_41 B1 A1 A2 A3 (3 : Int32)))])
            have r160 : (f_get4 w_SLIDING w_CALENDAR w_SwitchMap_co b39 jj b41 kb_41 B1 A1 A2 A3 (3 : Int32)) = (own_at4 B1 A1 A2 A3 (((3 : Int32) + jj) % (4 : Int32))) := rfl
            rw [r160]
            show G T159 (mkF m 309 ls145 [(.long (own_at4 B1 A1 A2 A3 (((3 : Int32) + jj) % (4 : Int32))))])
            refine step (fun t k => XS.aload X159.here hx rfl (hb hby at_309) (by rw [hls145]; rfl) rfl k) ?_
            show G T159 (mkF m 311 ls145 [(.ref b28), (.long (own_at4 B1 A1 A2 A3 (((3 : Int32) + jj) % (4 : Int32))))])
            refine step (fun t k => XS.iload X159.here hx rfl (hb hby at_311) (by rw [hls145]; rfl) k) ?_
            show G T159 (mkF m 313 ls145 [(.int 3), (.ref b28), (.long (own_at4 B1 A1 A2 A3 (((3 : Int32) + jj) % (4 : Int32))))])
            refine step (fun t k => XS.iload X159.here hx rfl (hb hby at_313) (by rw [hls145]; rfl) k) ?_
            show G T159 (mkF m 315 ls145 [(.int jj), (.int 3), (.ref b28), (.long (own_at4 B1 A1 A2 A3 (((3 : Int32) + jj) % (4 : Int32))))])
            refine step (fun t k => XS.iadd X159.here hx rfl (hb hby at_315) rfl k) ?_
            show G T159 (mkF m 316 ls145 [(.int ((3 : Int32) + jj)), (.ref b28), (.long (own_at4 B1 A1 A2 A3 (((3 : Int32) + jj) % (4 : Int32))))])
            have f161 := (Arv.keep (Arv.keep (Arv.keep (Arv.keep (Arv.keep (Arv.keep (Arv.keep ((Arv.keep V34 K36q nin0).ext E39) K41q (ninS (Nat.ne_of_lt lt_b28_b39) nin0)) K45q (ninS (Nat.ne_of_lt lt_b28_b39) (ninS (Nat.ne_of_lt lt_b28_b41) nin0))) K46q (ninS (Nat.ne_of_lt lt_b28_b39) (ninS (Nat.ne_of_lt lt_b28_b41) nin0))) K47q (ninS (Nat.ne_of_lt lt_b28_b39) (ninS (Nat.ne_of_lt lt_b28_b41) nin0))) K48q (ninS (Nat.ne_of_lt lt_b28_b39) (ninS (Nat.ne_of_lt lt_b28_b41) nin0))) K146q (ninS (Nat.ne_of_lt lt_b28_b39) nin0)) K157q (ninS (Nat.ne_of_lt lt_b28_b39) (ninS (Nat.ne_of_lt lt_b28_b41) nin0)))
            have q162 := own_ldJ X159 hx hZ e159 f161 (j := ((3 : Int32) + jj)) (v := .long (own_at6 A0 A1 A2 A3 B0 B1 ((3 : Int32) + jj))) (by rw [hj]; decide) (own_get6 (by rw [hj]; decide)) (g := (mkF m 316 ls145 [(.int ((3 : Int32) + jj)), (.ref b28), (.long (own_at4 B1 A1 A2 A3 (((3 : Int32) + jj) % (4 : Int32))))])) rfl rfl (hb hby at_316)
            refine step q162 ?_
            show G T159 (mkF m 317 ls145 [(.long (own_at6 A0 A1 A2 A3 B0 B1 ((3 : Int32) + jj))), (.long (own_at4 B1 A1 A2 A3 (((3 : Int32) + jj) % (4 : Int32))))])
            refine step (fun t k => XS.lcmp X159.here hx rfl (hb hby at_317) rfl k) ?_
            show G T159 (mkF m 318 ls145 [(.int (lcmpW (own_at4 B1 A1 A2 A3 (((3 : Int32) + jj) % (4 : Int32))) (own_at6 A0 A1 A2 A3 B0 B1 ((3 : Int32) + jj))))])
            refine step (fun t k => XS.ifNo X159.here hx rfl (hb hby at_318) rfl ((if0 _ _).trans (teq ((lw_eq _ _).mpr (by rw [hj]; rfl))).2) k) ?_
            show G T159 (mkF m 321 ls145 [])
            refine step (fun t k => XS.iconst X159.here hx rfl (hb hby at_321) k) ?_
            show G T159 (mkF m 322 ls145 [(.int 1)])
            refine step (fun t k => XS.goto X159.here hx rfl (pc0 := 322) (pc' := 326) rfl (hb hby at_322) (by decide) (by decide) k) ?_
            show G T159 (mkF m 326 ls145 [(.int 1)])
            exact ret (v := some (.int 1)) X159 hS hk157 (fun h => by rw [Bd.returns] at h; cases h) (fun fs hr => retN X159 hx (t := .boolean) Bd.returns (by simp) (hb hby at_326) hr) e159 ⟨rfl, N159⟩ (by decide) (by decide)
        · skip
          refine step (fun t k => XS.icmpNo X146.here hx rfl (hb hby at_279) rfl (flt hc150).1 k) ?_
          show G T146 (mkF m 282 ls145 [])
          refine step (fun t k => XS.aload X146.here hx rfl (hb hby at_282) (by rw [hls145]; rfl) rfl k) ?_
          show G T146 (mkF m 284 ls145 [(.ref b39)])
          refine step (fun t k => XS.lload X146.here hx rfl (hb hby at_284) (by rw [hls145]; rfl) k) ?_
          show G T146 (mkF m 286 ls145 [(.long B0), (.ref b39)])
          have f164 := (Arv.keep Y48_4 K146q (ninS (Nat.ne_of_gt lt_b39_b41) nin0))
          have hK163 := (backOf (R := room_1) (p := p) (e := e) (below := below) (args := #[(.long q0), (.int p1), (.int p2), (.int p3), (.int p4)]) (len := 3) (W := 0) (rm_add_4_0 l Z a0 hw [] w_SLIDING w_CALENDAR w_SwitchMap_co b39 B0 b41 kb_41 A0 A1 A2 A3 (3 : Int32) (1 : Int32) (2 : Int32) T146.heap n0 (own_old_le O146) ST O146 Y146_0 ge_b39 Y146_1 ge_b41 Y146_2 Y146_3 f164 (by decide : ¬ ((1 : Int32) = (4 : Int32))) (by decide : ((1 : Int32) + (1 : Int32)) = (2 : Int32)) (by decide : (((3 : Int32) + (1 : Int32)) % (4 : Int32)) = (0 : Int32))) hZ (ww55 hw) (ww44 hw) (by decide) (by decide))
          obtain ⟨cq163, kq163, q163a, q163b, q163c⟩ := isOf hZ rfl Y146_0
          obtain ⟨_, _, ⟨T163, L163, k163, n163⟩, -, X163, ⟨Lc163, hQ163, l163, y163, z163⟩, st163⟩ := X146.virtualBack hx (y := y_8) (z := y_8) hown (mvT hZ (ww51 hw)) (mvT hZ (ww52 hw)) (notFace_of_selects (args := #[]) (mvT hZ (ww54 hw))) (mvT hZ (ww54 hw)) (mvT hZ (ww53 hw)) (by decide) hK163 q163a q163c (g := (mkF m 286 ls145 [(.long B0), (.ref b39)])) rfl (by rw [hml, hls145]; rfl) (Steps.refl _) (argsL := [(.long B0)]) (rest := []) (lenOf pd_4 rfl) rfl (by show 2 * 0 + _ ≤ _; exact Nat.le_of_eq rfl) (hb hby at_286) (fun _ _ => ⟨rfl, rfl, (by decide : 6 + 0 ≤ _), (by decide : 36 + 0 ≤ _)⟩)
          dsimp only [Pt.U, Pt.locs, Pt.cells, Pt.slots] at X163 l163 y163 z163 st163 hQ163
          subst l163 y163 z163
          obtain ⟨rfl, N163q, K163q, Y163_0, Y163_1, Y163_2, Y163_3, Y163_4⟩ := hQ163
          have N163 := Fr.app N146 N163q
          obtain ⟨lc163, X163, N163⟩ := own_gen X163 N163
          have O163 := O146.keep K163q (allS ge_b39 (allS ge_b41 all0))
          have hk163 : _ ≤ T163.heap.size := Nat.le_trans hk146 K163q.1
          refine step (fun t k => st163.trans k) ?_
          show G T163 (mkF m 289 ls145 [])
          refine step (fun t k => XS.iload X163.here hx rfl (hb hby at_289) (by rw [hls145]; rfl) k) ?_
          show G T163 (mkF m 291 ls145 [(.int ee)])
          refine step (fun t k => XS.iconst X163.here hx rfl (hb hby at_291) k) ?_
          show G T163 (mkF m 292 ls145 [(.int 2), (.int ee)])
          by_cases hc165 : ee < (2 : Int32)
          · skip
            refine step (fun t k => XS.icmpYes X163.here hx rfl (pc0 := 292) (pc' := 302) rfl (hb hby at_292) rfl (tlt hc165).1 (by decide) (by decide) k) ?_
            show G T163 (mkF m 302 ls145 [])
            have hz : sz.toInt = 2 := by
              have q := c_iadd (1 : Int32) ee
              rw [← hsz] at q
              have q4 : (1 : Int32).toInt = 1 := by decide
              have q5 := own_e p3 ee hee
              have q1 : (1 : Int32).toInt = 1 := by decide
              have q2 : (2 : Int32).toInt = 2 := by decide
              have z  := hc150
              rw [own_xlt] at z 
              have z  := hc165
              rw [own_xlt] at z 
              have r := rng32 sz
              omega
            have hj := own_j2 p4 jj sz hz hjj
            refine step (fun t k => XS.aload X163.here hx rfl (hb hby at_302) (by rw [hls145]; rfl) rfl k) ?_
            show G T163 (mkF m 304 ls145 [(.ref b39)])
            refine step (fun t k => XS.iload X163.here hx rfl (hb hby at_304) (by rw [hls145]; rfl) k) ?_
            show G T163 (mkF m 306 ls145 [(.int jj), (.ref b39)])
            have hK166 := (backOf (R := room_1) (p := p) (e := e) (below := below) (args := #[(.long q0), (.int p1), (.int p2), (.int p3), (.int p4)]) (len := 3) (W := 0) (rm_get4 l Z a0 hw [] w_SLIDING w_CALENDAR w_SwitchMap_co b39 jj b41 kb_41 B0 A1 A2 A3 (3 : Int32) T163.heap n0 (own_old_le O163) ST O163 Y163_1 Y163_2 Y163_4 (by rcases hj with rfl | rfl <;> decide)) hZ (ww95 hw) (ww44 hw) (by decide) (by decide))
            obtain ⟨cq166, kq166, q166a, q166b, q166c⟩ := isOf hZ rfl Y163_0
            obtain ⟨_, _, ⟨T166, L166, k166, n166⟩, -, X166, ⟨Lc166, hQ166, l166, y166, z166⟩, st166⟩ := X163.virtualBack hx (y := y_12) (z := y_12) hown (mvT hZ (ww91 hw)) (mvT hZ (ww92 hw)) (notFace_of_selects (args := #[]) (mvT hZ (ww94 hw))) (mvT hZ (ww94 hw)) (mvT hZ (ww93 hw)) (by decide) hK166 q166a q166c (g := (mkF m 306 ls145 [(.int jj), (.ref b39)])) rfl (by rw [hml, hls145]; rfl) (Steps.refl _) (argsL := [(.int jj)]) (rest := []) (lenOf pd_9 rfl) rfl (by show 2 * 0 + _ ≤ _; exact Nat.le_of_eq rfl) (hb hby at_306) (fun _ _ => ⟨rfl, rfl, (by decide : 6 + 0 ≤ _), (by decide : 36 + 0 ≤ _)⟩)
            dsimp only [Pt.U, Pt.locs, Pt.cells, Pt.slots] at X166 l166 y166 z166 st166 hQ166
            subst l166 y166 z166
            obtain ⟨rfl, N166q, e166⟩ := hQ166
            have N166 := Fr.app N163 N166q
            obtain ⟨lc166, X166, N166⟩ := own_gen X166 N166
            refine step (fun t k => st166.trans k) ?_
            show G T166 (mkF m 309 ls145 [(.long (f_get4 w_SLIDING w_CALENDAR w_SwitchMap_co b39 jj b41 kb_41 B0 A1 A2 A3 (3 : Int32)))])
            have r167 : (f_get4 w_SLIDING w_CALENDAR w_SwitchMap_co b39 jj b41 kb_41 B0 A1 A2 A3 (3 : Int32)) = (own_at4 B0 A1 A2 A3 (((3 : Int32) + jj) % (4 : Int32))) := rfl
            rw [r167]
            show G T166 (mkF m 309 ls145 [(.long (own_at4 B0 A1 A2 A3 (((3 : Int32) + jj) % (4 : Int32))))])
            refine step (fun t k => XS.aload X166.here hx rfl (hb hby at_309) (by rw [hls145]; rfl) rfl k) ?_
            show G T166 (mkF m 311 ls145 [(.ref b28), (.long (own_at4 B0 A1 A2 A3 (((3 : Int32) + jj) % (4 : Int32))))])
            refine step (fun t k => XS.iload X166.here hx rfl (hb hby at_311) (by rw [hls145]; rfl) k) ?_
            show G T166 (mkF m 313 ls145 [(.int 3), (.ref b28), (.long (own_at4 B0 A1 A2 A3 (((3 : Int32) + jj) % (4 : Int32))))])
            refine step (fun t k => XS.iload X166.here hx rfl (hb hby at_313) (by rw [hls145]; rfl) k) ?_
            show G T166 (mkF m 315 ls145 [(.int jj), (.int 3), (.ref b28), (.long (own_at4 B0 A1 A2 A3 (((3 : Int32) + jj) % (4 : Int32))))])
            refine step (fun t k => XS.iadd X166.here hx rfl (hb hby at_315) rfl k) ?_
            show G T166 (mkF m 316 ls145 [(.int ((3 : Int32) + jj)), (.ref b28), (.long (own_at4 B0 A1 A2 A3 (((3 : Int32) + jj) % (4 : Int32))))])
            have f168 := (Arv.keep (Arv.keep (Arv.keep (Arv.keep (Arv.keep (Arv.keep (Arv.keep ((Arv.keep V34 K36q nin0).ext E39) K41q (ninS (Nat.ne_of_lt lt_b28_b39) nin0)) K45q (ninS (Nat.ne_of_lt lt_b28_b39) (ninS (Nat.ne_of_lt lt_b28_b41) nin0))) K46q (ninS (Nat.ne_of_lt lt_b28_b39) (ninS (Nat.ne_of_lt lt_b28_b41) nin0))) K47q (ninS (Nat.ne_of_lt lt_b28_b39) (ninS (Nat.ne_of_lt lt_b28_b41) nin0))) K48q (ninS (Nat.ne_of_lt lt_b28_b39) (ninS (Nat.ne_of_lt lt_b28_b41) nin0))) K146q (ninS (Nat.ne_of_lt lt_b28_b39) nin0)) K163q (ninS (Nat.ne_of_lt lt_b28_b39) (ninS (Nat.ne_of_lt lt_b28_b41) nin0)))
            have q169 := own_ldJ X166 hx hZ e166 f168 (j := ((3 : Int32) + jj)) (v := .long (own_at6 A0 A1 A2 A3 B0 B1 ((3 : Int32) + jj))) (by rcases hj with rfl | rfl <;> decide) (own_get6 (by rcases hj with rfl | rfl <;> decide)) (g := (mkF m 316 ls145 [(.int ((3 : Int32) + jj)), (.ref b28), (.long (own_at4 B0 A1 A2 A3 (((3 : Int32) + jj) % (4 : Int32))))])) rfl rfl (hb hby at_316)
            refine step q169 ?_
            show G T166 (mkF m 317 ls145 [(.long (own_at6 A0 A1 A2 A3 B0 B1 ((3 : Int32) + jj))), (.long (own_at4 B0 A1 A2 A3 (((3 : Int32) + jj) % (4 : Int32))))])
            refine step (fun t k => XS.lcmp X166.here hx rfl (hb hby at_317) rfl k) ?_
            show G T166 (mkF m 318 ls145 [(.int (lcmpW (own_at4 B0 A1 A2 A3 (((3 : Int32) + jj) % (4 : Int32))) (own_at6 A0 A1 A2 A3 B0 B1 ((3 : Int32) + jj))))])
            refine step (fun t k => XS.ifNo X166.here hx rfl (hb hby at_318) rfl ((if0 _ _).trans (teq ((lw_eq _ _).mpr (by rcases hj with rfl | rfl <;> rfl))).2) k) ?_
            show G T166 (mkF m 321 ls145 [])
            refine step (fun t k => XS.iconst X166.here hx rfl (hb hby at_321) k) ?_
            show G T166 (mkF m 322 ls145 [(.int 1)])
            refine step (fun t k => XS.goto X166.here hx rfl (pc0 := 322) (pc' := 326) rfl (hb hby at_322) (by decide) (by decide) k) ?_
            show G T166 (mkF m 326 ls145 [(.int 1)])
            exact ret (v := some (.int 1)) X166 hS hk163 (fun h => by rw [Bd.returns] at h; cases h) (fun fs hr => retN X166 hx (t := .boolean) Bd.returns (by simp) (hb hby at_326) hr) e166 ⟨rfl, N166⟩ (by decide) (by decide)
          · skip
            refine step (fun t k => XS.icmpNo X163.here hx rfl (hb hby at_292) rfl (flt hc165).1 k) ?_
            show G T163 (mkF m 295 ls145 [])
            refine step (fun t k => XS.aload X163.here hx rfl (hb hby at_295) (by rw [hls145]; rfl) rfl k) ?_
            show G T163 (mkF m 297 ls145 [(.ref b39)])
            refine step (fun t k => XS.lload X163.here hx rfl (hb hby at_297) (by rw [hls145]; rfl) k) ?_
            show G T163 (mkF m 299 ls145 [(.long B1), (.ref b39)])
            have hK170 := (backOf (R := room_1) (p := p) (e := e) (below := below) (args := #[(.long q0), (.int p1), (.int p2), (.int p3), (.int p4)]) (len := 3) (W := 0) (rm_add_4_1 l Z a0 hw [] w_SLIDING w_CALENDAR w_SwitchMap_co b39 B1 b41 kb_41 B0 A1 A2 A3 (3 : Int32) (2 : Int32) (3 : Int32) T163.heap n0 (own_old_le O163) ST O163 Y163_0 ge_b39 Y163_1 ge_b41 Y163_2 Y163_3 Y163_4 (by decide : ¬ ((2 : Int32) = (4 : Int32))) (by decide : ((2 : Int32) + (1 : Int32)) = (3 : Int32)) (by decide : (((3 : Int32) + (2 : Int32)) % (4 : Int32)) = (1 : Int32))) hZ (ww55 hw) (ww44 hw) (by decide) (by decide))
            obtain ⟨cq170, kq170, q170a, q170b, q170c⟩ := isOf hZ rfl Y163_0
            obtain ⟨_, _, ⟨T170, L170, k170, n170⟩, -, X170, ⟨Lc170, hQ170, l170, y170, z170⟩, st170⟩ := X163.virtualBack hx (y := y_8) (z := y_8) hown (mvT hZ (ww51 hw)) (mvT hZ (ww52 hw)) (notFace_of_selects (args := #[]) (mvT hZ (ww54 hw))) (mvT hZ (ww54 hw)) (mvT hZ (ww53 hw)) (by decide) hK170 q170a q170c (g := (mkF m 299 ls145 [(.long B1), (.ref b39)])) rfl (by rw [hml, hls145]; rfl) (Steps.refl _) (argsL := [(.long B1)]) (rest := []) (lenOf pd_4 rfl) rfl (by show 2 * 0 + _ ≤ _; exact Nat.le_of_eq rfl) (hb hby at_299) (fun _ _ => ⟨rfl, rfl, (by decide : 6 + 0 ≤ _), (by decide : 36 + 0 ≤ _)⟩)
            dsimp only [Pt.U, Pt.locs, Pt.cells, Pt.slots] at X170 l170 y170 z170 st170 hQ170
            subst l170 y170 z170
            obtain ⟨rfl, N170q, K170q, Y170_0, Y170_1, Y170_2, Y170_3, Y170_4⟩ := hQ170
            have N170 := Fr.app N163 N170q
            obtain ⟨lc170, X170, N170⟩ := own_gen X170 N170
            have O170 := O163.keep K170q (allS ge_b39 (allS ge_b41 all0))
            have hk170 : _ ≤ T170.heap.size := Nat.le_trans hk163 K170q.1
            refine step (fun t k => st170.trans k) ?_
            show G T170 (mkF m 302 ls145 [])
            have hz : sz.toInt = 3 := by
              have q := c_iadd (1 : Int32) ee
              rw [← hsz] at q
              have q4 : (1 : Int32).toInt = 1 := by decide
              have q5 := own_e p3 ee hee
              have q1 : (1 : Int32).toInt = 1 := by decide
              have q2 : (2 : Int32).toInt = 2 := by decide
              have z  := hc150
              rw [own_xlt] at z 
              have z  := hc165
              rw [own_xlt] at z 
              have r := rng32 sz
              omega
            have hj := own_j3 p4 jj sz hz hjj
            refine step (fun t k => XS.aload X170.here hx rfl (hb hby at_302) (by rw [hls145]; rfl) rfl k) ?_
            show G T170 (mkF m 304 ls145 [(.ref b39)])
            refine step (fun t k => XS.iload X170.here hx rfl (hb hby at_304) (by rw [hls145]; rfl) k) ?_
            show G T170 (mkF m 306 ls145 [(.int jj), (.ref b39)])
            have hK171 := (backOf (R := room_1) (p := p) (e := e) (below := below) (args := #[(.long q0), (.int p1), (.int p2), (.int p3), (.int p4)]) (len := 3) (W := 0) (rm_get4 l Z a0 hw [] w_SLIDING w_CALENDAR w_SwitchMap_co b39 jj b41 kb_41 B0 B1 A2 A3 (3 : Int32) T170.heap n0 (own_old_le O170) ST O170 Y170_1 Y170_2 Y170_4 (by rcases hj with rfl | rfl | rfl <;> decide)) hZ (ww95 hw) (ww44 hw) (by decide) (by decide))
            obtain ⟨cq171, kq171, q171a, q171b, q171c⟩ := isOf hZ rfl Y170_0
            obtain ⟨_, _, ⟨T171, L171, k171, n171⟩, -, X171, ⟨Lc171, hQ171, l171, y171, z171⟩, st171⟩ := X170.virtualBack hx (y := y_12) (z := y_12) hown (mvT hZ (ww91 hw)) (mvT hZ (ww92 hw)) (notFace_of_selects (args := #[]) (mvT hZ (ww94 hw))) (mvT hZ (ww94 hw)) (mvT hZ (ww93 hw)) (by decide) hK171 q171a q171c (g := (mkF m 306 ls145 [(.int jj), (.ref b39)])) rfl (by rw [hml, hls145]; rfl) (Steps.refl _) (argsL := [(.int jj)]) (rest := []) (lenOf pd_9 rfl) rfl (by show 2 * 0 + _ ≤ _; exact Nat.le_of_eq rfl) (hb hby at_306) (fun _ _ => ⟨rfl, rfl, (by decide : 6 + 0 ≤ _), (by decide : 36 + 0 ≤ _)⟩)
            dsimp only [Pt.U, Pt.locs, Pt.cells, Pt.slots] at X171 l171 y171 z171 st171 hQ171
            subst l171 y171 z171
            obtain ⟨rfl, N171q, e171⟩ := hQ171
            have N171 := Fr.app N170 N171q
            obtain ⟨lc171, X171, N171⟩ := own_gen X171 N171
            refine step (fun t k => st171.trans k) ?_
            show G T171 (mkF m 309 ls145 [(.long (f_get4 w_SLIDING w_CALENDAR w_SwitchMap_co b39 jj b41 kb_41 B0 B1 A2 A3 (3 : Int32)))])
            have r172 : (f_get4 w_SLIDING w_CALENDAR w_SwitchMap_co b39 jj b41 kb_41 B0 B1 A2 A3 (3 : Int32)) = (own_at4 B0 B1 A2 A3 (((3 : Int32) + jj) % (4 : Int32))) := rfl
            rw [r172]
            show G T171 (mkF m 309 ls145 [(.long (own_at4 B0 B1 A2 A3 (((3 : Int32) + jj) % (4 : Int32))))])
            refine step (fun t k => XS.aload X171.here hx rfl (hb hby at_309) (by rw [hls145]; rfl) rfl k) ?_
            show G T171 (mkF m 311 ls145 [(.ref b28), (.long (own_at4 B0 B1 A2 A3 (((3 : Int32) + jj) % (4 : Int32))))])
            refine step (fun t k => XS.iload X171.here hx rfl (hb hby at_311) (by rw [hls145]; rfl) k) ?_
            show G T171 (mkF m 313 ls145 [(.int 3), (.ref b28), (.long (own_at4 B0 B1 A2 A3 (((3 : Int32) + jj) % (4 : Int32))))])
            refine step (fun t k => XS.iload X171.here hx rfl (hb hby at_313) (by rw [hls145]; rfl) k) ?_
            show G T171 (mkF m 315 ls145 [(.int jj), (.int 3), (.ref b28), (.long (own_at4 B0 B1 A2 A3 (((3 : Int32) + jj) % (4 : Int32))))])
            refine step (fun t k => XS.iadd X171.here hx rfl (hb hby at_315) rfl k) ?_
            show G T171 (mkF m 316 ls145 [(.int ((3 : Int32) + jj)), (.ref b28), (.long (own_at4 B0 B1 A2 A3 (((3 : Int32) + jj) % (4 : Int32))))])
            have f173 := (Arv.keep (Arv.keep (Arv.keep (Arv.keep (Arv.keep (Arv.keep (Arv.keep (Arv.keep ((Arv.keep V34 K36q nin0).ext E39) K41q (ninS (Nat.ne_of_lt lt_b28_b39) nin0)) K45q (ninS (Nat.ne_of_lt lt_b28_b39) (ninS (Nat.ne_of_lt lt_b28_b41) nin0))) K46q (ninS (Nat.ne_of_lt lt_b28_b39) (ninS (Nat.ne_of_lt lt_b28_b41) nin0))) K47q (ninS (Nat.ne_of_lt lt_b28_b39) (ninS (Nat.ne_of_lt lt_b28_b41) nin0))) K48q (ninS (Nat.ne_of_lt lt_b28_b39) (ninS (Nat.ne_of_lt lt_b28_b41) nin0))) K146q (ninS (Nat.ne_of_lt lt_b28_b39) nin0)) K163q (ninS (Nat.ne_of_lt lt_b28_b39) (ninS (Nat.ne_of_lt lt_b28_b41) nin0))) K170q (ninS (Nat.ne_of_lt lt_b28_b39) (ninS (Nat.ne_of_lt lt_b28_b41) nin0)))
            have q174 := own_ldJ X171 hx hZ e171 f173 (j := ((3 : Int32) + jj)) (v := .long (own_at6 A0 A1 A2 A3 B0 B1 ((3 : Int32) + jj))) (by rcases hj with rfl | rfl | rfl <;> decide) (own_get6 (by rcases hj with rfl | rfl | rfl <;> decide)) (g := (mkF m 316 ls145 [(.int ((3 : Int32) + jj)), (.ref b28), (.long (own_at4 B0 B1 A2 A3 (((3 : Int32) + jj) % (4 : Int32))))])) rfl rfl (hb hby at_316)
            refine step q174 ?_
            show G T171 (mkF m 317 ls145 [(.long (own_at6 A0 A1 A2 A3 B0 B1 ((3 : Int32) + jj))), (.long (own_at4 B0 B1 A2 A3 (((3 : Int32) + jj) % (4 : Int32))))])
            refine step (fun t k => XS.lcmp X171.here hx rfl (hb hby at_317) rfl k) ?_
            show G T171 (mkF m 318 ls145 [(.int (lcmpW (own_at4 B0 B1 A2 A3 (((3 : Int32) + jj) % (4 : Int32))) (own_at6 A0 A1 A2 A3 B0 B1 ((3 : Int32) + jj))))])
            refine step (fun t k => XS.ifNo X171.here hx rfl (hb hby at_318) rfl ((if0 _ _).trans (teq ((lw_eq _ _).mpr (by rcases hj with rfl | rfl | rfl <;> rfl))).2) k) ?_
            show G T171 (mkF m 321 ls145 [])
            refine step (fun t k => XS.iconst X171.here hx rfl (hb hby at_321) k) ?_
            show G T171 (mkF m 322 ls145 [(.int 1)])
            refine step (fun t k => XS.goto X171.here hx rfl (pc0 := 322) (pc' := 326) rfl (hb hby at_322) (by decide) (by decide) k) ?_
            show G T171 (mkF m 326 ls145 [(.int 1)])
            exact ret (v := some (.int 1)) X171 hS hk170 (fun h => by rw [Bd.returns] at h; cases h) (fun fs hr => retN X171 hx (t := .boolean) Bd.returns (by simp) (hb hby at_326) hr) e171 ⟨rfl, N171⟩ (by decide) (by decide)
      · rw [hkq] at hsz
        obtain ⟨ls175, hls175⟩  := own_sl #[.val (.long q0), .second, .val (.int p1), .val (.int p2), .val (.int p3), .val (.int p4), .val (.long A0), .second, .val (.long A1), .second, .val (.long A2), .second, .val (.long A3), .second, .val (.long nw), .second, .val (.long B0), .second, .val (.long B1), .second, .val (.long mm), .second, .val (.int ee), .val (.long last), .second, .val (.int 4), .val (.int sz), .val (.int jj), .val (.ref b28), .val (.ref b36), .val (.ref b39)]
        rw [show ls44 = ls175 from by rw [hls44, hls175, hkq]]
        show G T48 (mkF m 272 ls175 [(.long nw), (.ref b36), (.ref b39)])
        rw [(by decide : ((4 : Int32) - (4 : Int32)) = (0 : Int32))] at hsz
        have f177 := (Exa.keep (Exa.keep (Exa.keep (Exa.keep (Exa.keep f43 K41q) K45q) K46q) K47q) K48q)
        have f178 := (Fld.keep (Fld.keep (Fld.keep (Fld.keep (Fld.keep (Fld.ext E39 Y36_2) K41q (ninS (Nat.ne_of_lt lt_b36_b39) nin0)) K45q (ninS (Nat.ne_of_lt lt_b36_b39) (ninS (Nat.ne_of_lt lt_b36_b41) nin0))) K46q (ninS (Nat.ne_of_lt lt_b36_b39) (ninS (Nat.ne_of_lt lt_b36_b41) nin0))) K47q (ninS (Nat.ne_of_lt lt_b36_b39) (ninS (Nat.ne_of_lt lt_b36_b41) nin0))) K48q (ninS (Nat.ne_of_lt lt_b36_b39) (ninS (Nat.ne_of_lt lt_b36_b41) nin0)))
        have f179 := (Fld.keep (Fld.keep (Fld.keep (Fld.keep (Fld.keep (Fld.ext E39 Y36_3) K41q (ninS (Nat.ne_of_lt lt_b36_b39) nin0)) K45q (ninS (Nat.ne_of_lt lt_b36_b39) (ninS (Nat.ne_of_lt lt_b36_b41) nin0))) K46q (ninS (Nat.ne_of_lt lt_b36_b39) (ninS (Nat.ne_of_lt lt_b36_b41) nin0))) K47q (ninS (Nat.ne_of_lt lt_b36_b39) (ninS (Nat.ne_of_lt lt_b36_b41) nin0))) K48q (ninS (Nat.ne_of_lt lt_b36_b39) (ninS (Nat.ne_of_lt lt_b36_b41) nin0)))
        have hK176 := (backOf (R := room_1) (p := p) (e := e) (below := below) (args := #[(.long q0), (.int p1), (.int p2), (.int p3), (.int p4)]) (len := 3) (W := 0) (rm_cnt_4_0_4_4 l Z a0 hw [] w_SLIDING w_CALENDAR w_SwitchMap_co b39 b36 nw b41 kb_41 A0 A1 A2 A3 mm T48.heap n0 (own_old_le O48) ST O48 Y48_0 ge_b39 Y48_1 ge_b41 Y48_2 Y48_3 Y48_4 f177 f178 f179 ((hlast ▸ hl0) : ¬ ((nw - mm) < A0)) ((hlast ▸ hl1) : ¬ ((nw - mm) < A1)) ((hlast ▸ hl2) : ¬ ((nw - mm) < A2)) ((hlast ▸ hl3) : ¬ ((nw - mm) < A3))) hZ (ww64 hw) (ww44 hw) (by decide) (by decide))
        obtain ⟨cq176, kq176, q176a, q176b, q176c⟩ := isOf hZ rfl Y48_0
        obtain ⟨_, _, ⟨T176, L176, k176, n176⟩, -, X176, ⟨Lc176, hQ176, l176, y176, z176⟩, st176⟩ := X48.virtualBack hx (y := y_11) (z := y_11) hown (mvT hZ (ww60 hw)) (mvT hZ (ww61 hw)) (notFace_of_selects (args := #[]) (mvT hZ (ww63 hw))) (mvT hZ (ww63 hw)) (mvT hZ (ww62 hw)) (by decide) hK176 q176a q176c (g := (mkF m 272 ls175 [(.long nw), (.ref b36), (.ref b39)])) rfl (by rw [hml, hls175]; rfl) (Steps.refl _) (argsL := [(.ref b36), (.long nw)]) (rest := []) (lenOf pd_8 rfl) rfl (by show 2 * 0 + _ ≤ _; exact Nat.le_of_eq rfl) (hb hby at_272) (fun _ _ => ⟨rfl, rfl, (by decide : 6 + 0 ≤ _), (by decide : 36 + 0 ≤ _)⟩)
        dsimp only [Pt.U, Pt.locs, Pt.cells, Pt.slots] at X176 l176 y176 z176 st176 hQ176
        subst l176 y176 z176
        obtain ⟨rfl, N176q, K176q, Y176_0, Y176_1, Y176_2, Y176_3⟩ := hQ176
        have N176 := Fr.app N48 N176q
        obtain ⟨lc176, X176, N176⟩ := own_gen X176 N176
        have O176 := O48.keep K176q (allS ge_b39 all0)
        have hk176 : _ ≤ T176.heap.size := Nat.le_trans hk48 K176q.1
        refine step (fun t k => st176.trans k) ?_
        show G T176 (mkF m 275 ls175 [(.int 0)])
        refine step (fun t k => XS.pop X176.here hx rfl (hb hby at_275) rfl rfl k) ?_
        show G T176 (mkF m 276 ls175 [])
        refine step (fun t k => XS.iload X176.here hx rfl (hb hby at_276) (by rw [hls175]; rfl) k) ?_
        show G T176 (mkF m 278 ls175 [(.int ee)])
        refine step (fun t k => XS.iconst X176.here hx rfl (hb hby at_278) k) ?_
        show G T176 (mkF m 279 ls175 [(.int 1), (.int ee)])
        by_cases hc180 : ee < (1 : Int32)
        · skip
          refine step (fun t k => XS.icmpYes X176.here hx rfl (pc0 := 279) (pc' := 289) rfl (hb hby at_279) rfl (tlt hc180).1 (by decide) (by decide) k) ?_
          show G T176 (mkF m 289 ls175 [])
          refine step (fun t k => XS.iload X176.here hx rfl (hb hby at_289) (by rw [hls175]; rfl) k) ?_
          show G T176 (mkF m 291 ls175 [(.int ee)])
          refine step (fun t k => XS.iconst X176.here hx rfl (hb hby at_291) k) ?_
          show G T176 (mkF m 292 ls175 [(.int 2), (.int ee)])
          by_cases hc181 : ee < (2 : Int32)
          · skip
            refine step (fun t k => XS.icmpYes X176.here hx rfl (pc0 := 292) (pc' := 302) rfl (hb hby at_292) rfl (tlt hc181).1 (by decide) (by decide) k) ?_
            show G T176 (mkF m 302 ls175 [])
            have hz : sz.toInt = 0 := by
              have q := c_iadd (0 : Int32) ee
              rw [← hsz] at q
              have q4 : (0 : Int32).toInt = 0 := by decide
              have q5 := own_e p3 ee hee
              have q1 : (1 : Int32).toInt = 1 := by decide
              have q2 : (2 : Int32).toInt = 2 := by decide
              have z  := hc180
              rw [own_xlt] at z 
              have z  := hc181
              rw [own_xlt] at z 
              have r := rng32 sz
              omega
            exact absurd (own_xeq.mpr (hz.trans (by decide))) hc24
          · skip
            refine step (fun t k => XS.icmpNo X176.here hx rfl (hb hby at_292) rfl (flt hc181).1 k) ?_
            show G T176 (mkF m 295 ls175 [])
            refine step (fun t k => XS.aload X176.here hx rfl (hb hby at_295) (by rw [hls175]; rfl) rfl k) ?_
            show G T176 (mkF m 297 ls175 [(.ref b39)])
            refine step (fun t k => XS.lload X176.here hx rfl (hb hby at_297) (by rw [hls175]; rfl) k) ?_
            show G T176 (mkF m 299 ls175 [(.long B1), (.ref b39)])
            have f183 := (Arv.keep Y48_4 K176q (ninS (Nat.ne_of_gt lt_b39_b41) nin0))
            have hK182 := (backOf (R := room_1) (p := p) (e := e) (below := below) (args := #[(.long q0), (.int p1), (.int p2), (.int p3), (.int p4)]) (len := 3) (W := 0) (rm_add_4_0 l Z a0 hw [] w_SLIDING w_CALENDAR w_SwitchMap_co b39 B1 b41 kb_41 A0 A1 A2 A3 (0 : Int32) (0 : Int32) (1 : Int32) T176.heap n0 (own_old_le O176) ST O176 Y176_0 ge_b39 Y176_1 ge_b41 Y176_2 Y176_3 f183 (by decide : ¬ ((0 : Int32) = (4 : Int32))) (by decide : ((0 : Int32) + (1 : Int32)) = (1 : Int32)) (by decide : (((0 : Int32) + (0 : Int32)) % (4 : Int32)) = (0 : Int32))) hZ (ww55 hw) (ww44 hw) (by decide) (by decide))
            obtain ⟨cq182, kq182, q182a, q182b, q182c⟩ := isOf hZ rfl Y176_0
            obtain ⟨_, _, ⟨T182, L182, k182, n182⟩, -, X182, ⟨Lc182, hQ182, l182, y182, z182⟩, st182⟩ := X176.virtualBack hx (y := y_8) (z := y_8) hown (mvT hZ (ww51 hw)) (mvT hZ (ww52 hw)) (notFace_of_selects (args := #[]) (mvT hZ (ww54 hw))) (mvT hZ (ww54 hw)) (mvT hZ (ww53 hw)) (by decide) hK182 q182a q182c (g := (mkF m 299 ls175 [(.long B1), (.ref b39)])) rfl (by rw [hml, hls175]; rfl) (Steps.refl _) (argsL := [(.long B1)]) (rest := []) (lenOf pd_4 rfl) rfl (by show 2 * 0 + _ ≤ _; exact Nat.le_of_eq rfl) (hb hby at_299) (fun _ _ => ⟨rfl, rfl, (by decide : 6 + 0 ≤ _), (by decide : 36 + 0 ≤ _)⟩)
            dsimp only [Pt.U, Pt.locs, Pt.cells, Pt.slots] at X182 l182 y182 z182 st182 hQ182
            subst l182 y182 z182
            obtain ⟨rfl, N182q, K182q, Y182_0, Y182_1, Y182_2, Y182_3, Y182_4⟩ := hQ182
            have N182 := Fr.app N176 N182q
            obtain ⟨lc182, X182, N182⟩ := own_gen X182 N182
            have O182 := O176.keep K182q (allS ge_b39 (allS ge_b41 all0))
            have hk182 : _ ≤ T182.heap.size := Nat.le_trans hk176 K182q.1
            refine step (fun t k => st182.trans k) ?_
            show G T182 (mkF m 302 ls175 [])
            have hz : sz.toInt = 0 := by
              have q := c_iadd (0 : Int32) ee
              rw [← hsz] at q
              have q4 : (0 : Int32).toInt = 0 := by decide
              have q5 := own_e p3 ee hee
              have q1 : (1 : Int32).toInt = 1 := by decide
              have q2 : (2 : Int32).toInt = 2 := by decide
              have z  := hc180
              rw [own_xlt] at z 
              have z  := hc181
              rw [own_xlt] at z 
              have r := rng32 sz
              omega
            exact absurd (own_xeq.mpr (hz.trans (by decide))) hc24
        · skip
          refine step (fun t k => XS.icmpNo X176.here hx rfl (hb hby at_279) rfl (flt hc180).1 k) ?_
          show G T176 (mkF m 282 ls175 [])
          refine step (fun t k => XS.aload X176.here hx rfl (hb hby at_282) (by rw [hls175]; rfl) rfl k) ?_
          show G T176 (mkF m 284 ls175 [(.ref b39)])
          refine step (fun t k => XS.lload X176.here hx rfl (hb hby at_284) (by rw [hls175]; rfl) k) ?_
          show G T176 (mkF m 286 ls175 [(.long B0), (.ref b39)])
          have f185 := (Arv.keep Y48_4 K176q (ninS (Nat.ne_of_gt lt_b39_b41) nin0))
          have hK184 := (backOf (R := room_1) (p := p) (e := e) (below := below) (args := #[(.long q0), (.int p1), (.int p2), (.int p3), (.int p4)]) (len := 3) (W := 0) (rm_add_4_0 l Z a0 hw [] w_SLIDING w_CALENDAR w_SwitchMap_co b39 B0 b41 kb_41 A0 A1 A2 A3 (0 : Int32) (0 : Int32) (1 : Int32) T176.heap n0 (own_old_le O176) ST O176 Y176_0 ge_b39 Y176_1 ge_b41 Y176_2 Y176_3 f185 (by decide : ¬ ((0 : Int32) = (4 : Int32))) (by decide : ((0 : Int32) + (1 : Int32)) = (1 : Int32)) (by decide : (((0 : Int32) + (0 : Int32)) % (4 : Int32)) = (0 : Int32))) hZ (ww55 hw) (ww44 hw) (by decide) (by decide))
          obtain ⟨cq184, kq184, q184a, q184b, q184c⟩ := isOf hZ rfl Y176_0
          obtain ⟨_, _, ⟨T184, L184, k184, n184⟩, -, X184, ⟨Lc184, hQ184, l184, y184, z184⟩, st184⟩ := X176.virtualBack hx (y := y_8) (z := y_8) hown (mvT hZ (ww51 hw)) (mvT hZ (ww52 hw)) (notFace_of_selects (args := #[]) (mvT hZ (ww54 hw))) (mvT hZ (ww54 hw)) (mvT hZ (ww53 hw)) (by decide) hK184 q184a q184c (g := (mkF m 286 ls175 [(.long B0), (.ref b39)])) rfl (by rw [hml, hls175]; rfl) (Steps.refl _) (argsL := [(.long B0)]) (rest := []) (lenOf pd_4 rfl) rfl (by show 2 * 0 + _ ≤ _; exact Nat.le_of_eq rfl) (hb hby at_286) (fun _ _ => ⟨rfl, rfl, (by decide : 6 + 0 ≤ _), (by decide : 36 + 0 ≤ _)⟩)
          dsimp only [Pt.U, Pt.locs, Pt.cells, Pt.slots] at X184 l184 y184 z184 st184 hQ184
          subst l184 y184 z184
          obtain ⟨rfl, N184q, K184q, Y184_0, Y184_1, Y184_2, Y184_3, Y184_4⟩ := hQ184
          have N184 := Fr.app N176 N184q
          obtain ⟨lc184, X184, N184⟩ := own_gen X184 N184
          have O184 := O176.keep K184q (allS ge_b39 (allS ge_b41 all0))
          have hk184 : _ ≤ T184.heap.size := Nat.le_trans hk176 K184q.1
          refine step (fun t k => st184.trans k) ?_
          show G T184 (mkF m 289 ls175 [])
          refine step (fun t k => XS.iload X184.here hx rfl (hb hby at_289) (by rw [hls175]; rfl) k) ?_
          show G T184 (mkF m 291 ls175 [(.int ee)])
          refine step (fun t k => XS.iconst X184.here hx rfl (hb hby at_291) k) ?_
          show G T184 (mkF m 292 ls175 [(.int 2), (.int ee)])
          by_cases hc186 : ee < (2 : Int32)
          · skip
            refine step (fun t k => XS.icmpYes X184.here hx rfl (pc0 := 292) (pc' := 302) rfl (hb hby at_292) rfl (tlt hc186).1 (by decide) (by decide) k) ?_
            show G T184 (mkF m 302 ls175 [])
            have hz : sz.toInt = 1 := by
              have q := c_iadd (0 : Int32) ee
              rw [← hsz] at q
              have q4 : (0 : Int32).toInt = 0 := by decide
              have q5 := own_e p3 ee hee
              have q1 : (1 : Int32).toInt = 1 := by decide
              have q2 : (2 : Int32).toInt = 2 := by decide
              have z  := hc180
              rw [own_xlt] at z 
              have z  := hc186
              rw [own_xlt] at z 
              have r := rng32 sz
              omega
            have hj := own_j1 p4 jj sz hz hjj
            refine step (fun t k => XS.aload X184.here hx rfl (hb hby at_302) (by rw [hls175]; rfl) rfl k) ?_
            show G T184 (mkF m 304 ls175 [(.ref b39)])
            refine step (fun t k => XS.iload X184.here hx rfl (hb hby at_304) (by rw [hls175]; rfl) k) ?_
            show G T184 (mkF m 306 ls175 [(.int jj), (.ref b39)])
            have hK187 := (backOf (R := room_1) (p := p) (e := e) (below := below) (args := #[(.long q0), (.int p1), (.int p2), (.int p3), (.int p4)]) (len := 3) (W := 0) (rm_get4 l Z a0 hw [] w_SLIDING w_CALENDAR w_SwitchMap_co b39 jj b41 kb_41 B0 A1 A2 A3 (0 : Int32) T184.heap n0 (own_old_le O184) ST O184 Y184_1 Y184_2 Y184_4 (by rw [hj]; decide)) hZ (ww95 hw) (ww44 hw) (by decide) (by decide))
            obtain ⟨cq187, kq187, q187a, q187b, q187c⟩ := isOf hZ rfl Y184_0
            obtain ⟨_, _, ⟨T187, L187, k187, n187⟩, -, X187, ⟨Lc187, hQ187, l187, y187, z187⟩, st187⟩ := X184.virtualBack hx (y := y_12) (z := y_12) hown (mvT hZ (ww91 hw)) (mvT hZ (ww92 hw)) (notFace_of_selects (args := #[]) (mvT hZ (ww94 hw))) (mvT hZ (ww94 hw)) (mvT hZ (ww93 hw)) (by decide) hK187 q187a q187c (g := (mkF m 306 ls175 [(.int jj), (.ref b39)])) rfl (by rw [hml, hls175]; rfl) (Steps.refl _) (argsL := [(.int jj)]) (rest := []) (lenOf pd_9 rfl) rfl (by show 2 * 0 + _ ≤ _; exact Nat.le_of_eq rfl) (hb hby at_306) (fun _ _ => ⟨rfl, rfl, (by decide : 6 + 0 ≤ _), (by decide : 36 + 0 ≤ _)⟩)
            dsimp only [Pt.U, Pt.locs, Pt.cells, Pt.slots] at X187 l187 y187 z187 st187 hQ187
            subst l187 y187 z187
            obtain ⟨rfl, N187q, e187⟩ := hQ187
            have N187 := Fr.app N184 N187q
            obtain ⟨lc187, X187, N187⟩ := own_gen X187 N187
            refine step (fun t k => st187.trans k) ?_
            show G T187 (mkF m 309 ls175 [(.long (f_get4 w_SLIDING w_CALENDAR w_SwitchMap_co b39 jj b41 kb_41 B0 A1 A2 A3 (0 : Int32)))])
            have r188 : (f_get4 w_SLIDING w_CALENDAR w_SwitchMap_co b39 jj b41 kb_41 B0 A1 A2 A3 (0 : Int32)) = (own_at4 B0 A1 A2 A3 (((0 : Int32) + jj) % (4 : Int32))) := rfl
            rw [r188]
            show G T187 (mkF m 309 ls175 [(.long (own_at4 B0 A1 A2 A3 (((0 : Int32) + jj) % (4 : Int32))))])
            refine step (fun t k => XS.aload X187.here hx rfl (hb hby at_309) (by rw [hls175]; rfl) rfl k) ?_
            show G T187 (mkF m 311 ls175 [(.ref b28), (.long (own_at4 B0 A1 A2 A3 (((0 : Int32) + jj) % (4 : Int32))))])
            refine step (fun t k => XS.iload X187.here hx rfl (hb hby at_311) (by rw [hls175]; rfl) k) ?_
            show G T187 (mkF m 313 ls175 [(.int 4), (.ref b28), (.long (own_at4 B0 A1 A2 A3 (((0 : Int32) + jj) % (4 : Int32))))])
            refine step (fun t k => XS.iload X187.here hx rfl (hb hby at_313) (by rw [hls175]; rfl) k) ?_
            show G T187 (mkF m 315 ls175 [(.int jj), (.int 4), (.ref b28), (.long (own_at4 B0 A1 A2 A3 (((0 : Int32) + jj) % (4 : Int32))))])
            refine step (fun t k => XS.iadd X187.here hx rfl (hb hby at_315) rfl k) ?_
            show G T187 (mkF m 316 ls175 [(.int ((4 : Int32) + jj)), (.ref b28), (.long (own_at4 B0 A1 A2 A3 (((0 : Int32) + jj) % (4 : Int32))))])
            have f189 := (Arv.keep (Arv.keep (Arv.keep (Arv.keep (Arv.keep (Arv.keep (Arv.keep ((Arv.keep V34 K36q nin0).ext E39) K41q (ninS (Nat.ne_of_lt lt_b28_b39) nin0)) K45q (ninS (Nat.ne_of_lt lt_b28_b39) (ninS (Nat.ne_of_lt lt_b28_b41) nin0))) K46q (ninS (Nat.ne_of_lt lt_b28_b39) (ninS (Nat.ne_of_lt lt_b28_b41) nin0))) K47q (ninS (Nat.ne_of_lt lt_b28_b39) (ninS (Nat.ne_of_lt lt_b28_b41) nin0))) K48q (ninS (Nat.ne_of_lt lt_b28_b39) (ninS (Nat.ne_of_lt lt_b28_b41) nin0))) K176q (ninS (Nat.ne_of_lt lt_b28_b39) nin0)) K184q (ninS (Nat.ne_of_lt lt_b28_b39) (ninS (Nat.ne_of_lt lt_b28_b41) nin0)))
            have q190 := own_ldJ X187 hx hZ e187 f189 (j := ((4 : Int32) + jj)) (v := .long (own_at6 A0 A1 A2 A3 B0 B1 ((4 : Int32) + jj))) (by rw [hj]; decide) (own_get6 (by rw [hj]; decide)) (g := (mkF m 316 ls175 [(.int ((4 : Int32) + jj)), (.ref b28), (.long (own_at4 B0 A1 A2 A3 (((0 : Int32) + jj) % (4 : Int32))))])) rfl rfl (hb hby at_316)
            refine step q190 ?_
            show G T187 (mkF m 317 ls175 [(.long (own_at6 A0 A1 A2 A3 B0 B1 ((4 : Int32) + jj))), (.long (own_at4 B0 A1 A2 A3 (((0 : Int32) + jj) % (4 : Int32))))])
            refine step (fun t k => XS.lcmp X187.here hx rfl (hb hby at_317) rfl k) ?_
            show G T187 (mkF m 318 ls175 [(.int (lcmpW (own_at4 B0 A1 A2 A3 (((0 : Int32) + jj) % (4 : Int32))) (own_at6 A0 A1 A2 A3 B0 B1 ((4 : Int32) + jj))))])
            refine step (fun t k => XS.ifNo X187.here hx rfl (hb hby at_318) rfl ((if0 _ _).trans (teq ((lw_eq _ _).mpr (by rw [hj]; rfl))).2) k) ?_
            show G T187 (mkF m 321 ls175 [])
            refine step (fun t k => XS.iconst X187.here hx rfl (hb hby at_321) k) ?_
            show G T187 (mkF m 322 ls175 [(.int 1)])
            refine step (fun t k => XS.goto X187.here hx rfl (pc0 := 322) (pc' := 326) rfl (hb hby at_322) (by decide) (by decide) k) ?_
            show G T187 (mkF m 326 ls175 [(.int 1)])
            exact ret (v := some (.int 1)) X187 hS hk184 (fun h => by rw [Bd.returns] at h; cases h) (fun fs hr => retN X187 hx (t := .boolean) Bd.returns (by simp) (hb hby at_326) hr) e187 ⟨rfl, N187⟩ (by decide) (by decide)
          · skip
            refine step (fun t k => XS.icmpNo X184.here hx rfl (hb hby at_292) rfl (flt hc186).1 k) ?_
            show G T184 (mkF m 295 ls175 [])
            refine step (fun t k => XS.aload X184.here hx rfl (hb hby at_295) (by rw [hls175]; rfl) rfl k) ?_
            show G T184 (mkF m 297 ls175 [(.ref b39)])
            refine step (fun t k => XS.lload X184.here hx rfl (hb hby at_297) (by rw [hls175]; rfl) k) ?_
            show G T184 (mkF m 299 ls175 [(.long B1), (.ref b39)])
            have hK191 := (backOf (R := room_1) (p := p) (e := e) (below := below) (args := #[(.long q0), (.int p1), (.int p2), (.int p3), (.int p4)]) (len := 3) (W := 0) (rm_add_4_1 l Z a0 hw [] w_SLIDING w_CALENDAR w_SwitchMap_co b39 B1 b41 kb_41 B0 A1 A2 A3 (0 : Int32) (1 : Int32) (2 : Int32) T184.heap n0 (own_old_le O184) ST O184 Y184_0 ge_b39 Y184_1 ge_b41 Y184_2 Y184_3 Y184_4 (by decide : ¬ ((1 : Int32) = (4 : Int32))) (by decide : ((1 : Int32) + (1 : Int32)) = (2 : Int32)) (by decide : (((0 : Int32) + (1 : Int32)) % (4 : Int32)) = (1 : Int32))) hZ (ww55 hw) (ww44 hw) (by decide) (by decide))
            obtain ⟨cq191, kq191, q191a, q191b, q191c⟩ := isOf hZ rfl Y184_0
            obtain ⟨_, _, ⟨T191, L191, k191, n191⟩, -, X191, ⟨Lc191, hQ191, l191, y191, z191⟩, st191⟩ := X184.virtualBack hx (y := y_8) (z := y_8) hown (mvT hZ (ww51 hw)) (mvT hZ (ww52 hw)) (notFace_of_selects (args := #[]) (mvT hZ (ww54 hw))) (mvT hZ (ww54 hw)) (mvT hZ (ww53 hw)) (by decide) hK191 q191a q191c (g := (mkF m 299 ls175 [(.long B1), (.ref b39)])) rfl (by rw [hml, hls175]; rfl) (Steps.refl _) (argsL := [(.long B1)]) (rest := []) (lenOf pd_4 rfl) rfl (by show 2 * 0 + _ ≤ _; exact Nat.le_of_eq rfl) (hb hby at_299) (fun _ _ => ⟨rfl, rfl, (by decide : 6 + 0 ≤ _), (by decide : 36 + 0 ≤ _)⟩)
            dsimp only [Pt.U, Pt.locs, Pt.cells, Pt.slots] at X191 l191 y191 z191 st191 hQ191
            subst l191 y191 z191
            obtain ⟨rfl, N191q, K191q, Y191_0, Y191_1, Y191_2, Y191_3, Y191_4⟩ := hQ191
            have N191 := Fr.app N184 N191q
            obtain ⟨lc191, X191, N191⟩ := own_gen X191 N191
            have O191 := O184.keep K191q (allS ge_b39 (allS ge_b41 all0))
            have hk191 : _ ≤ T191.heap.size := Nat.le_trans hk184 K191q.1
            refine step (fun t k => st191.trans k) ?_
            show G T191 (mkF m 302 ls175 [])
            have hz : sz.toInt = 2 := by
              have q := c_iadd (0 : Int32) ee
              rw [← hsz] at q
              have q4 : (0 : Int32).toInt = 0 := by decide
              have q5 := own_e p3 ee hee
              have q1 : (1 : Int32).toInt = 1 := by decide
              have q2 : (2 : Int32).toInt = 2 := by decide
              have z  := hc180
              rw [own_xlt] at z 
              have z  := hc186
              rw [own_xlt] at z 
              have r := rng32 sz
              omega
            have hj := own_j2 p4 jj sz hz hjj
            refine step (fun t k => XS.aload X191.here hx rfl (hb hby at_302) (by rw [hls175]; rfl) rfl k) ?_
            show G T191 (mkF m 304 ls175 [(.ref b39)])
            refine step (fun t k => XS.iload X191.here hx rfl (hb hby at_304) (by rw [hls175]; rfl) k) ?_
            show G T191 (mkF m 306 ls175 [(.int jj), (.ref b39)])
            have hK192 := (backOf (R := room_1) (p := p) (e := e) (below := below) (args := #[(.long q0), (.int p1), (.int p2), (.int p3), (.int p4)]) (len := 3) (W := 0) (rm_get4 l Z a0 hw [] w_SLIDING w_CALENDAR w_SwitchMap_co b39 jj b41 kb_41 B0 B1 A2 A3 (0 : Int32) T191.heap n0 (own_old_le O191) ST O191 Y191_1 Y191_2 Y191_4 (by rcases hj with rfl | rfl <;> decide)) hZ (ww95 hw) (ww44 hw) (by decide) (by decide))
            obtain ⟨cq192, kq192, q192a, q192b, q192c⟩ := isOf hZ rfl Y191_0
            obtain ⟨_, _, ⟨T192, L192, k192, n192⟩, -, X192, ⟨Lc192, hQ192, l192, y192, z192⟩, st192⟩ := X191.virtualBack hx (y := y_12) (z := y_12) hown (mvT hZ (ww91 hw)) (mvT hZ (ww92 hw)) (notFace_of_selects (args := #[]) (mvT hZ (ww94 hw))) (mvT hZ (ww94 hw)) (mvT hZ (ww93 hw)) (by decide) hK192 q192a q192c (g := (mkF m 306 ls175 [(.int jj), (.ref b39)])) rfl (by rw [hml, hls175]; rfl) (Steps.refl _) (argsL := [(.int jj)]) (rest := []) (lenOf pd_9 rfl) rfl (by show 2 * 0 + _ ≤ _; exact Nat.le_of_eq rfl) (hb hby at_306) (fun _ _ => ⟨rfl, rfl, (by decide : 6 + 0 ≤ _), (by decide : 36 + 0 ≤ _)⟩)
            dsimp only [Pt.U, Pt.locs, Pt.cells, Pt.slots] at X192 l192 y192 z192 st192 hQ192
            subst l192 y192 z192
            obtain ⟨rfl, N192q, e192⟩ := hQ192
            have N192 := Fr.app N191 N192q
            obtain ⟨lc192, X192, N192⟩ := own_gen X192 N192
            refine step (fun t k => st192.trans k) ?_
            show G T192 (mkF m 309 ls175 [(.long (f_get4 w_SLIDING w_CALENDAR w_SwitchMap_co b39 jj b41 kb_41 B0 B1 A2 A3 (0 : Int32)))])
            have r193 : (f_get4 w_SLIDING w_CALENDAR w_SwitchMap_co b39 jj b41 kb_41 B0 B1 A2 A3 (0 : Int32)) = (own_at4 B0 B1 A2 A3 (((0 : Int32) + jj) % (4 : Int32))) := rfl
            rw [r193]
            show G T192 (mkF m 309 ls175 [(.long (own_at4 B0 B1 A2 A3 (((0 : Int32) + jj) % (4 : Int32))))])
            refine step (fun t k => XS.aload X192.here hx rfl (hb hby at_309) (by rw [hls175]; rfl) rfl k) ?_
            show G T192 (mkF m 311 ls175 [(.ref b28), (.long (own_at4 B0 B1 A2 A3 (((0 : Int32) + jj) % (4 : Int32))))])
            refine step (fun t k => XS.iload X192.here hx rfl (hb hby at_311) (by rw [hls175]; rfl) k) ?_
            show G T192 (mkF m 313 ls175 [(.int 4), (.ref b28), (.long (own_at4 B0 B1 A2 A3 (((0 : Int32) + jj) % (4 : Int32))))])
            refine step (fun t k => XS.iload X192.here hx rfl (hb hby at_313) (by rw [hls175]; rfl) k) ?_
            show G T192 (mkF m 315 ls175 [(.int jj), (.int 4), (.ref b28), (.long (own_at4 B0 B1 A2 A3 (((0 : Int32) + jj) % (4 : Int32))))])
            refine step (fun t k => XS.iadd X192.here hx rfl (hb hby at_315) rfl k) ?_
            show G T192 (mkF m 316 ls175 [(.int ((4 : Int32) + jj)), (.ref b28), (.long (own_at4 B0 B1 A2 A3 (((0 : Int32) + jj) % (4 : Int32))))])
            have f194 := (Arv.keep (Arv.keep (Arv.keep (Arv.keep (Arv.keep (Arv.keep (Arv.keep (Arv.keep ((Arv.keep V34 K36q nin0).ext E39) K41q (ninS (Nat.ne_of_lt lt_b28_b39) nin0)) K45q (ninS (Nat.ne_of_lt lt_b28_b39) (ninS (Nat.ne_of_lt lt_b28_b41) nin0))) K46q (ninS (Nat.ne_of_lt lt_b28_b39) (ninS (Nat.ne_of_lt lt_b28_b41) nin0))) K47q (ninS (Nat.ne_of_lt lt_b28_b39) (ninS (Nat.ne_of_lt lt_b28_b41) nin0))) K48q (ninS (Nat.ne_of_lt lt_b28_b39) (ninS (Nat.ne_of_lt lt_b28_b41) nin0))) K176q (ninS (Nat.ne_of_lt lt_b28_b39) nin0)) K184q (ninS (Nat.ne_of_lt lt_b28_b39) (ninS (Nat.ne_of_lt lt_b28_b41) nin0))) K191q (ninS (Nat.ne_of_lt lt_b28_b39) (ninS (Nat.ne_of_lt lt_b28_b41) nin0)))
            have q195 := own_ldJ X192 hx hZ e192 f194 (j := ((4 : Int32) + jj)) (v := .long (own_at6 A0 A1 A2 A3 B0 B1 ((4 : Int32) + jj))) (by rcases hj with rfl | rfl <;> decide) (own_get6 (by rcases hj with rfl | rfl <;> decide)) (g := (mkF m 316 ls175 [(.int ((4 : Int32) + jj)), (.ref b28), (.long (own_at4 B0 B1 A2 A3 (((0 : Int32) + jj) % (4 : Int32))))])) rfl rfl (hb hby at_316)
            refine step q195 ?_
            show G T192 (mkF m 317 ls175 [(.long (own_at6 A0 A1 A2 A3 B0 B1 ((4 : Int32) + jj))), (.long (own_at4 B0 B1 A2 A3 (((0 : Int32) + jj) % (4 : Int32))))])
            refine step (fun t k => XS.lcmp X192.here hx rfl (hb hby at_317) rfl k) ?_
            show G T192 (mkF m 318 ls175 [(.int (lcmpW (own_at4 B0 B1 A2 A3 (((0 : Int32) + jj) % (4 : Int32))) (own_at6 A0 A1 A2 A3 B0 B1 ((4 : Int32) + jj))))])
            refine step (fun t k => XS.ifNo X192.here hx rfl (hb hby at_318) rfl ((if0 _ _).trans (teq ((lw_eq _ _).mpr (by rcases hj with rfl | rfl <;> rfl))).2) k) ?_
            show G T192 (mkF m 321 ls175 [])
            refine step (fun t k => XS.iconst X192.here hx rfl (hb hby at_321) k) ?_
            show G T192 (mkF m 322 ls175 [(.int 1)])
            refine step (fun t k => XS.goto X192.here hx rfl (pc0 := 322) (pc' := 326) rfl (hb hby at_322) (by decide) (by decide) k) ?_
            show G T192 (mkF m 326 ls175 [(.int 1)])
            exact ret (v := some (.int 1)) X192 hS hk191 (fun h => by rw [Bd.returns] at h; cases h) (fun fs hr => retN X192 hx (t := .boolean) Bd.returns (by simp) (hb hby at_326) hr) e192 ⟨rfl, N192⟩ (by decide) (by decide)
  refine step (fun t k => XS.lload X0.here hx rfl (hb hby at_103) (by rw [hls20]; rfl) k) ?_
  show G s₁ (mkF m 105 ls20 [(.long A0)])
  refine step (fun t k => XS.lload X0.here hx rfl (hb hby at_105) (by rw [hls20]; rfl) k) ?_
  show G s₁ (mkF m 107 ls20 [(.long last), (.long A0)])
  refine step (fun t k => XS.lcmp X0.here hx rfl (hb hby at_107) rfl k) ?_
  show G s₁ (mkF m 108 ls20 [(.int (lcmpW A0 last))])
  by_cases hc196 : last < A0
  · skip
    refine step (fun t k => XS.ifYes X0.here hx rfl (pc0 := 108) (pc' := 115) rfl (hb hby at_108) rfl ((if0 _ _).trans (tlt ((lw_gt _ _).mpr hc196)).2.2.1) (by decide) (by decide) k) ?_
    show G s₁ (mkF m 115 ls20 [])
    refine step (fun t k => XS.iconst X0.here hx rfl (hb hby at_115) k) ?_
    show G s₁ (mkF m 116 ls20 [(.int 0)])
    refine step (fun t k => XS.lload X0.here hx rfl (hb hby at_116) (by rw [hls20]; rfl) k) ?_
    show G s₁ (mkF m 118 ls20 [(.long A1), (.int 0)])
    refine step (fun t k => XS.lload X0.here hx rfl (hb hby at_118) (by rw [hls20]; rfl) k) ?_
    show G s₁ (mkF m 120 ls20 [(.long last), (.long A1), (.int 0)])
    refine step (fun t k => XS.lcmp X0.here hx rfl (hb hby at_120) rfl k) ?_
    show G s₁ (mkF m 121 ls20 [(.int (lcmpW A1 last)), (.int 0)])
    refine step (fun t k => XS.ifYes X0.here hx rfl (pc0 := 121) (pc' := 128) rfl (hb hby at_121) rfl ((if0 _ _).trans (tlt ((lw_gt _ _).mpr (own_ltle hc196 hord.1))).2.2.1) (by decide) (by decide) k) ?_
    show G s₁ (mkF m 128 ls20 [(.int 0)])
    refine step (fun t k => XS.iconst X0.here hx rfl (hb hby at_128) k) ?_
    show G s₁ (mkF m 129 ls20 [(.int 0), (.int 0)])
    refine step (fun t k => XS.iadd X0.here hx rfl (hb hby at_129) rfl k) ?_
    show G s₁ (mkF m 130 ls20 [(.int ((0 : Int32) + (0 : Int32)))])
    rw [(by decide : ((0 : Int32) + (0 : Int32)) = (0 : Int32))]
    show G s₁ (mkF m 130 ls20 [(.int 0)])
    refine step (fun t k => XS.lload X0.here hx rfl (hb hby at_130) (by rw [hls20]; rfl) k) ?_
    show G s₁ (mkF m 132 ls20 [(.long A2), (.int 0)])
    refine step (fun t k => XS.lload X0.here hx rfl (hb hby at_132) (by rw [hls20]; rfl) k) ?_
    show G s₁ (mkF m 134 ls20 [(.long last), (.long A2), (.int 0)])
    refine step (fun t k => XS.lcmp X0.here hx rfl (hb hby at_134) rfl k) ?_
    show G s₁ (mkF m 135 ls20 [(.int (lcmpW A2 last)), (.int 0)])
    refine step (fun t k => XS.ifYes X0.here hx rfl (pc0 := 135) (pc' := 142) rfl (hb hby at_135) rfl ((if0 _ _).trans (tlt ((lw_gt _ _).mpr (own_ltle (own_ltle hc196 hord.1) hord.2.1))).2.2.1) (by decide) (by decide) k) ?_
    show G s₁ (mkF m 142 ls20 [(.int 0)])
    refine step (fun t k => XS.iconst X0.here hx rfl (hb hby at_142) k) ?_
    show G s₁ (mkF m 143 ls20 [(.int 0), (.int 0)])
    refine step (fun t k => XS.iadd X0.here hx rfl (hb hby at_143) rfl k) ?_
    show G s₁ (mkF m 144 ls20 [(.int ((0 : Int32) + (0 : Int32)))])
    rw [(by decide : ((0 : Int32) + (0 : Int32)) = (0 : Int32))]
    show G s₁ (mkF m 144 ls20 [(.int 0)])
    refine step (fun t k => XS.lload X0.here hx rfl (hb hby at_144) (by rw [hls20]; rfl) k) ?_
    show G s₁ (mkF m 146 ls20 [(.long A3), (.int 0)])
    refine step (fun t k => XS.lload X0.here hx rfl (hb hby at_146) (by rw [hls20]; rfl) k) ?_
    show G s₁ (mkF m 148 ls20 [(.long last), (.long A3), (.int 0)])
    refine step (fun t k => XS.lcmp X0.here hx rfl (hb hby at_148) rfl k) ?_
    show G s₁ (mkF m 149 ls20 [(.int (lcmpW A3 last)), (.int 0)])
    refine step (fun t k => XS.ifYes X0.here hx rfl (pc0 := 149) (pc' := 156) rfl (hb hby at_149) rfl ((if0 _ _).trans (tlt ((lw_gt _ _).mpr (own_ltle (own_ltle (own_ltle hc196 hord.1) hord.2.1) hord.2.2))).2.2.1) (by decide) (by decide) k) ?_
    show G s₁ (mkF m 156 ls20 [(.int 0)])
    refine step (fun t k => XS.iconst X0.here hx rfl (hb hby at_156) k) ?_
    show G s₁ (mkF m 157 ls20 [(.int 0), (.int 0)])
    refine step (fun t k => XS.iadd X0.here hx rfl (hb hby at_157) rfl k) ?_
    show G s₁ (mkF m 158 ls20 [(.int ((0 : Int32) + (0 : Int32)))])
    rw [(by decide : ((0 : Int32) + (0 : Int32)) = (0 : Int32))]
    show G s₁ (mkF m 158 ls20 [(.int 0)])
    obtain ⟨ls197, hls197⟩  := own_sl #[.val (.long q0), .second, .val (.int p1), .val (.int p2), .val (.int p3), .val (.int p4), .val (.long A0), .second, .val (.long A1), .second, .val (.long A2), .second, .val (.long A3), .second, .val (.long nw), .second, .val (.long B0), .second, .val (.long B1), .second, .val (.long mm), .second, .val (.int ee), .val (.long last), .second, .val (.int 0), .unset, .unset, .unset, .unset, .unset]
    refine step (fun t k => XS.istore X0.here hx rfl (hb hby at_158) rfl (l' := ls197) (by rw [hls20, hls197]; rfl) k) ?_
    show G s₁ (mkF m 160 ls197 [])
    rw [hls197]
    exact hJ (0 : Int32) (Or.inl ⟨rfl, hc196⟩)
  · skip
    refine step (fun t k => XS.ifNo X0.here hx rfl (hb hby at_108) rfl ((if0 _ _).trans (flt (fun q => hc196 ((lw_gt _ _).mp q))).2.2.1) k) ?_
    show G s₁ (mkF m 111 ls20 [])
    refine step (fun t k => XS.iconst X0.here hx rfl (hb hby at_111) k) ?_
    show G s₁ (mkF m 112 ls20 [(.int 1)])
    refine step (fun t k => XS.goto X0.here hx rfl (pc0 := 112) (pc' := 116) rfl (hb hby at_112) (by decide) (by decide) k) ?_
    show G s₁ (mkF m 116 ls20 [(.int 1)])
    refine step (fun t k => XS.lload X0.here hx rfl (hb hby at_116) (by rw [hls20]; rfl) k) ?_
    show G s₁ (mkF m 118 ls20 [(.long A1), (.int 1)])
    refine step (fun t k => XS.lload X0.here hx rfl (hb hby at_118) (by rw [hls20]; rfl) k) ?_
    show G s₁ (mkF m 120 ls20 [(.long last), (.long A1), (.int 1)])
    refine step (fun t k => XS.lcmp X0.here hx rfl (hb hby at_120) rfl k) ?_
    show G s₁ (mkF m 121 ls20 [(.int (lcmpW A1 last)), (.int 1)])
    by_cases hc198 : last < A1
    · skip
      refine step (fun t k => XS.ifYes X0.here hx rfl (pc0 := 121) (pc' := 128) rfl (hb hby at_121) rfl ((if0 _ _).trans (tlt ((lw_gt _ _).mpr hc198)).2.2.1) (by decide) (by decide) k) ?_
      show G s₁ (mkF m 128 ls20 [(.int 1)])
      refine step (fun t k => XS.iconst X0.here hx rfl (hb hby at_128) k) ?_
      show G s₁ (mkF m 129 ls20 [(.int 0), (.int 1)])
      refine step (fun t k => XS.iadd X0.here hx rfl (hb hby at_129) rfl k) ?_
      show G s₁ (mkF m 130 ls20 [(.int ((1 : Int32) + (0 : Int32)))])
      rw [(by decide : ((1 : Int32) + (0 : Int32)) = (1 : Int32))]
      show G s₁ (mkF m 130 ls20 [(.int 1)])
      refine step (fun t k => XS.lload X0.here hx rfl (hb hby at_130) (by rw [hls20]; rfl) k) ?_
      show G s₁ (mkF m 132 ls20 [(.long A2), (.int 1)])
      refine step (fun t k => XS.lload X0.here hx rfl (hb hby at_132) (by rw [hls20]; rfl) k) ?_
      show G s₁ (mkF m 134 ls20 [(.long last), (.long A2), (.int 1)])
      refine step (fun t k => XS.lcmp X0.here hx rfl (hb hby at_134) rfl k) ?_
      show G s₁ (mkF m 135 ls20 [(.int (lcmpW A2 last)), (.int 1)])
      refine step (fun t k => XS.ifYes X0.here hx rfl (pc0 := 135) (pc' := 142) rfl (hb hby at_135) rfl ((if0 _ _).trans (tlt ((lw_gt _ _).mpr (own_ltle hc198 hord.2.1))).2.2.1) (by decide) (by decide) k) ?_
      show G s₁ (mkF m 142 ls20 [(.int 1)])
      refine step (fun t k => XS.iconst X0.here hx rfl (hb hby at_142) k) ?_
      show G s₁ (mkF m 143 ls20 [(.int 0), (.int 1)])
      refine step (fun t k => XS.iadd X0.here hx rfl (hb hby at_143) rfl k) ?_
      show G s₁ (mkF m 144 ls20 [(.int ((1 : Int32) + (0 : Int32)))])
      rw [(by decide : ((1 : Int32) + (0 : Int32)) = (1 : Int32))]
      show G s₁ (mkF m 144 ls20 [(.int 1)])
      refine step (fun t k => XS.lload X0.here hx rfl (hb hby at_144) (by rw [hls20]; rfl) k) ?_
      show G s₁ (mkF m 146 ls20 [(.long A3), (.int 1)])
      refine step (fun t k => XS.lload X0.here hx rfl (hb hby at_146) (by rw [hls20]; rfl) k) ?_
      show G s₁ (mkF m 148 ls20 [(.long last), (.long A3), (.int 1)])
      refine step (fun t k => XS.lcmp X0.here hx rfl (hb hby at_148) rfl k) ?_
      show G s₁ (mkF m 149 ls20 [(.int (lcmpW A3 last)), (.int 1)])
      refine step (fun t k => XS.ifYes X0.here hx rfl (pc0 := 149) (pc' := 156) rfl (hb hby at_149) rfl ((if0 _ _).trans (tlt ((lw_gt _ _).mpr (own_ltle (own_ltle hc198 hord.2.1) hord.2.2))).2.2.1) (by decide) (by decide) k) ?_
      show G s₁ (mkF m 156 ls20 [(.int 1)])
      refine step (fun t k => XS.iconst X0.here hx rfl (hb hby at_156) k) ?_
      show G s₁ (mkF m 157 ls20 [(.int 0), (.int 1)])
      refine step (fun t k => XS.iadd X0.here hx rfl (hb hby at_157) rfl k) ?_
      show G s₁ (mkF m 158 ls20 [(.int ((1 : Int32) + (0 : Int32)))])
      rw [(by decide : ((1 : Int32) + (0 : Int32)) = (1 : Int32))]
      show G s₁ (mkF m 158 ls20 [(.int 1)])
      obtain ⟨ls199, hls199⟩  := own_sl #[.val (.long q0), .second, .val (.int p1), .val (.int p2), .val (.int p3), .val (.int p4), .val (.long A0), .second, .val (.long A1), .second, .val (.long A2), .second, .val (.long A3), .second, .val (.long nw), .second, .val (.long B0), .second, .val (.long B1), .second, .val (.long mm), .second, .val (.int ee), .val (.long last), .second, .val (.int 1), .unset, .unset, .unset, .unset, .unset]
      refine step (fun t k => XS.istore X0.here hx rfl (hb hby at_158) rfl (l' := ls199) (by rw [hls20, hls199]; rfl) k) ?_
      show G s₁ (mkF m 160 ls199 [])
      rw [hls199]
      exact hJ (1 : Int32) (Or.inr (Or.inl ⟨rfl, hc196, hc198⟩))
    · skip
      refine step (fun t k => XS.ifNo X0.here hx rfl (hb hby at_121) rfl ((if0 _ _).trans (flt (fun q => hc198 ((lw_gt _ _).mp q))).2.2.1) k) ?_
      show G s₁ (mkF m 124 ls20 [(.int 1)])
      refine step (fun t k => XS.iconst X0.here hx rfl (hb hby at_124) k) ?_
      show G s₁ (mkF m 125 ls20 [(.int 1), (.int 1)])
      refine step (fun t k => XS.goto X0.here hx rfl (pc0 := 125) (pc' := 129) rfl (hb hby at_125) (by decide) (by decide) k) ?_
      show G s₁ (mkF m 129 ls20 [(.int 1), (.int 1)])
      refine step (fun t k => XS.iadd X0.here hx rfl (hb hby at_129) rfl k) ?_
      show G s₁ (mkF m 130 ls20 [(.int ((1 : Int32) + (1 : Int32)))])
      rw [(by decide : ((1 : Int32) + (1 : Int32)) = (2 : Int32))]
      show G s₁ (mkF m 130 ls20 [(.int 2)])
      refine step (fun t k => XS.lload X0.here hx rfl (hb hby at_130) (by rw [hls20]; rfl) k) ?_
      show G s₁ (mkF m 132 ls20 [(.long A2), (.int 2)])
      refine step (fun t k => XS.lload X0.here hx rfl (hb hby at_132) (by rw [hls20]; rfl) k) ?_
      show G s₁ (mkF m 134 ls20 [(.long last), (.long A2), (.int 2)])
      refine step (fun t k => XS.lcmp X0.here hx rfl (hb hby at_134) rfl k) ?_
      show G s₁ (mkF m 135 ls20 [(.int (lcmpW A2 last)), (.int 2)])
      by_cases hc200 : last < A2
      · skip
        refine step (fun t k => XS.ifYes X0.here hx rfl (pc0 := 135) (pc' := 142) rfl (hb hby at_135) rfl ((if0 _ _).trans (tlt ((lw_gt _ _).mpr hc200)).2.2.1) (by decide) (by decide) k) ?_
        show G s₁ (mkF m 142 ls20 [(.int 2)])
        refine step (fun t k => XS.iconst X0.here hx rfl (hb hby at_142) k) ?_
        show G s₁ (mkF m 143 ls20 [(.int 0), (.int 2)])
        refine step (fun t k => XS.iadd X0.here hx rfl (hb hby at_143) rfl k) ?_
        show G s₁ (mkF m 144 ls20 [(.int ((2 : Int32) + (0 : Int32)))])
        rw [(by decide : ((2 : Int32) + (0 : Int32)) = (2 : Int32))]
        show G s₁ (mkF m 144 ls20 [(.int 2)])
        refine step (fun t k => XS.lload X0.here hx rfl (hb hby at_144) (by rw [hls20]; rfl) k) ?_
        show G s₁ (mkF m 146 ls20 [(.long A3), (.int 2)])
        refine step (fun t k => XS.lload X0.here hx rfl (hb hby at_146) (by rw [hls20]; rfl) k) ?_
        show G s₁ (mkF m 148 ls20 [(.long last), (.long A3), (.int 2)])
        refine step (fun t k => XS.lcmp X0.here hx rfl (hb hby at_148) rfl k) ?_
        show G s₁ (mkF m 149 ls20 [(.int (lcmpW A3 last)), (.int 2)])
        refine step (fun t k => XS.ifYes X0.here hx rfl (pc0 := 149) (pc' := 156) rfl (hb hby at_149) rfl ((if0 _ _).trans (tlt ((lw_gt _ _).mpr (own_ltle hc200 hord.2.2))).2.2.1) (by decide) (by decide) k) ?_
        show G s₁ (mkF m 156 ls20 [(.int 2)])
        refine step (fun t k => XS.iconst X0.here hx rfl (hb hby at_156) k) ?_
        show G s₁ (mkF m 157 ls20 [(.int 0), (.int 2)])
        refine step (fun t k => XS.iadd X0.here hx rfl (hb hby at_157) rfl k) ?_
        show G s₁ (mkF m 158 ls20 [(.int ((2 : Int32) + (0 : Int32)))])
        rw [(by decide : ((2 : Int32) + (0 : Int32)) = (2 : Int32))]
        show G s₁ (mkF m 158 ls20 [(.int 2)])
        obtain ⟨ls201, hls201⟩  := own_sl #[.val (.long q0), .second, .val (.int p1), .val (.int p2), .val (.int p3), .val (.int p4), .val (.long A0), .second, .val (.long A1), .second, .val (.long A2), .second, .val (.long A3), .second, .val (.long nw), .second, .val (.long B0), .second, .val (.long B1), .second, .val (.long mm), .second, .val (.int ee), .val (.long last), .second, .val (.int 2), .unset, .unset, .unset, .unset, .unset]
        refine step (fun t k => XS.istore X0.here hx rfl (hb hby at_158) rfl (l' := ls201) (by rw [hls20, hls201]; rfl) k) ?_
        show G s₁ (mkF m 160 ls201 [])
        rw [hls201]
        exact hJ (2 : Int32) (Or.inr (Or.inr (Or.inl ⟨rfl, hc196, hc198, hc200⟩)))
      · skip
        refine step (fun t k => XS.ifNo X0.here hx rfl (hb hby at_135) rfl ((if0 _ _).trans (flt (fun q => hc200 ((lw_gt _ _).mp q))).2.2.1) k) ?_
        show G s₁ (mkF m 138 ls20 [(.int 2)])
        refine step (fun t k => XS.iconst X0.here hx rfl (hb hby at_138) k) ?_
        show G s₁ (mkF m 139 ls20 [(.int 1), (.int 2)])
        refine step (fun t k => XS.goto X0.here hx rfl (pc0 := 139) (pc' := 143) rfl (hb hby at_139) (by decide) (by decide) k) ?_
        show G s₁ (mkF m 143 ls20 [(.int 1), (.int 2)])
        refine step (fun t k => XS.iadd X0.here hx rfl (hb hby at_143) rfl k) ?_
        show G s₁ (mkF m 144 ls20 [(.int ((2 : Int32) + (1 : Int32)))])
        rw [(by decide : ((2 : Int32) + (1 : Int32)) = (3 : Int32))]
        show G s₁ (mkF m 144 ls20 [(.int 3)])
        refine step (fun t k => XS.lload X0.here hx rfl (hb hby at_144) (by rw [hls20]; rfl) k) ?_
        show G s₁ (mkF m 146 ls20 [(.long A3), (.int 3)])
        refine step (fun t k => XS.lload X0.here hx rfl (hb hby at_146) (by rw [hls20]; rfl) k) ?_
        show G s₁ (mkF m 148 ls20 [(.long last), (.long A3), (.int 3)])
        refine step (fun t k => XS.lcmp X0.here hx rfl (hb hby at_148) rfl k) ?_
        show G s₁ (mkF m 149 ls20 [(.int (lcmpW A3 last)), (.int 3)])
        by_cases hc202 : last < A3
        · skip
          refine step (fun t k => XS.ifYes X0.here hx rfl (pc0 := 149) (pc' := 156) rfl (hb hby at_149) rfl ((if0 _ _).trans (tlt ((lw_gt _ _).mpr hc202)).2.2.1) (by decide) (by decide) k) ?_
          show G s₁ (mkF m 156 ls20 [(.int 3)])
          refine step (fun t k => XS.iconst X0.here hx rfl (hb hby at_156) k) ?_
          show G s₁ (mkF m 157 ls20 [(.int 0), (.int 3)])
          refine step (fun t k => XS.iadd X0.here hx rfl (hb hby at_157) rfl k) ?_
          show G s₁ (mkF m 158 ls20 [(.int ((3 : Int32) + (0 : Int32)))])
          rw [(by decide : ((3 : Int32) + (0 : Int32)) = (3 : Int32))]
          show G s₁ (mkF m 158 ls20 [(.int 3)])
          obtain ⟨ls203, hls203⟩  := own_sl #[.val (.long q0), .second, .val (.int p1), .val (.int p2), .val (.int p3), .val (.int p4), .val (.long A0), .second, .val (.long A1), .second, .val (.long A2), .second, .val (.long A3), .second, .val (.long nw), .second, .val (.long B0), .second, .val (.long B1), .second, .val (.long mm), .second, .val (.int ee), .val (.long last), .second, .val (.int 3), .unset, .unset, .unset, .unset, .unset]
          refine step (fun t k => XS.istore X0.here hx rfl (hb hby at_158) rfl (l' := ls203) (by rw [hls20, hls203]; rfl) k) ?_
          show G s₁ (mkF m 160 ls203 [])
          rw [hls203]
          exact hJ (3 : Int32) (Or.inr (Or.inr (Or.inr (Or.inl ⟨rfl, hc196, hc198, hc200, hc202⟩))))
        · skip
          refine step (fun t k => XS.ifNo X0.here hx rfl (hb hby at_149) rfl ((if0 _ _).trans (flt (fun q => hc202 ((lw_gt _ _).mp q))).2.2.1) k) ?_
          show G s₁ (mkF m 152 ls20 [(.int 3)])
          refine step (fun t k => XS.iconst X0.here hx rfl (hb hby at_152) k) ?_
          show G s₁ (mkF m 153 ls20 [(.int 1), (.int 3)])
          refine step (fun t k => XS.goto X0.here hx rfl (pc0 := 153) (pc' := 157) rfl (hb hby at_153) (by decide) (by decide) k) ?_
          show G s₁ (mkF m 157 ls20 [(.int 1), (.int 3)])
          refine step (fun t k => XS.iadd X0.here hx rfl (hb hby at_157) rfl k) ?_
          show G s₁ (mkF m 158 ls20 [(.int ((3 : Int32) + (1 : Int32)))])
          rw [(by decide : ((3 : Int32) + (1 : Int32)) = (4 : Int32))]
          show G s₁ (mkF m 158 ls20 [(.int 4)])
          obtain ⟨ls204, hls204⟩  := own_sl #[.val (.long q0), .second, .val (.int p1), .val (.int p2), .val (.int p3), .val (.int p4), .val (.long A0), .second, .val (.long A1), .second, .val (.long A2), .second, .val (.long A3), .second, .val (.long nw), .second, .val (.long B0), .second, .val (.long B1), .second, .val (.long mm), .second, .val (.int ee), .val (.long last), .second, .val (.int 4), .unset, .unset, .unset, .unset, .unset]
          refine step (fun t k => XS.istore X0.here hx rfl (hb hby at_158) rfl (l' := ls204) (by rw [hls20, hls204]; rfl) k) ?_
          show G s₁ (mkF m 160 ls204 [])
          rw [hls204]
          exact hJ (4 : Int32) (Or.inr (Or.inr (Or.inr (Or.inr (⟨rfl, hc196, hc198, hc200, hc202⟩)))))
set_option maxRecDepth 65536 in
set_option maxHeartbeats 40000000 in
theorem comes_1 {Post : Tables → Env → Array Value → State → Outcome → State → Prop} (hpost : ∀ tb e args s v u, (limb_1_1.after args s (.returned v) u = true ∧ limb_1_2.after args s (.returned v) u = true ∧ True) → ReturnedEndW s (.returned v) u (Jvm.fieldLocs frame_1_writes args s ++ Jvm.arrayLocs frame_1_arrays args s ++ Jvm.staticLocs frame_1_statics s) 24 1152 → Post tb e args s (.returned v) u) :
    ArmFor flags0 classFile x code maxLocals ret World_1 tables_1 room_1 Calls_1 rest_1 Pre_1 Post := by
  intro l hfl _ _ p e ha hc hk s m args below hf hA hF happ hP
  obtain ⟨hcalls, hrest, hpre⟩ := hP
  obtain ⟨-, -, -, hnamed, -, -, -, hat⟩ := (Spec.applies_iff hf).mp happ
  obtain ⟨hg, hn⟩ := and_e (Cond.before_iff.mp (show (Jvm.Cond.and given_1 narrow_1).before args s = true from hpre))
  obtain ⟨g1a, g1b⟩ := and_e hg
  obtain ⟨g2a, g2b⟩ := and_e g1b
  obtain ⟨g3a, g3b⟩ := and_e g2b
  obtain ⟨g4a, g4b⟩ := and_e g3b
  obtain ⟨g5a, g5b⟩ := and_e g4b
  obtain ⟨w0, w1, w2, w3, w4, rfl⟩ : ∃ w0 w1 w2 w3 w4 : Value, args = #[w0, w1, w2, w3, w4] := by
    have hs : args.size = 5 := by simpa [Cond.value, given_1] using g1a
    obtain ⟨L⟩ := args
    match L, hs with
    | [w0, w1, w2, w3, w4], _ => exact ⟨w0, w1, w2, w3, w4, rfl⟩
  have hw := fun d (hd : d ∈ tables_1) => atoms_spec (ws := Jvm.Cond.code x code maxLocals ret :: tables_1) hat d (List.mem_cons_of_mem _ hd)
  have hfit : Fit s := fun {y c} hc i hi => by
    obtain ⟨ha, rfl⟩ := Array.getElem?_eq_some_iff.mp hc
    have q := List.all_eq_true.mp ((Array.all_eq_true_iff_forall_mem.mp hF) _ (Array.getElem_mem ha)) i (List.mem_range.mpr hi)
    simpa [Array.getElem?_eq_getElem hi] using q
  obtain ⟨i0, ei0⟩ := isL_v g2a
  obtain rfl : w0 = (.long i0) := Option.some.inj ei0
  obtain ⟨i1, ei1⟩ := is_v g3a
  obtain rfl : w1 = (.int i1) := Option.some.inj ei1
  obtain ⟨i2, ei2⟩ := is_v g4a
  obtain rfl : w2 = (.int i2) := Option.some.inj ei2
  obtain ⟨i3, ei3⟩ := is_v g5a
  obtain rfl : w3 = (.int i3) := Option.some.inj ei3
  obtain ⟨i4, ei4⟩ := is_v g5b
  obtain rfl : w4 = (.int i4) := Option.some.inj ei4
  obtain ⟨k1a, k1b⟩ := and_e hn
  obtain ⟨k2a, k2b⟩ := and_e k1b
  obtain ⟨k3a, k3b⟩ := and_e k2b
  obtain ⟨k4a, k4b⟩ := and_e k3b
  obtain ⟨k5a, k5b⟩ := and_e k4b
  obtain ⟨k6a, k6b⟩ := and_e k5b
  obtain ⟨k7a, k7b⟩ := and_e k6b
  obtain ⟨k8a, k8b⟩ := and_e k7b
  obtain ⟨w_SLIDING, ev_SLIDING⟩ := exa_v k1a
  obtain ⟨w_CALENDAR, ev_CALENDAR⟩ := exa_v k2a
  obtain ⟨w_SwitchMap_co, ev_SwitchMap_co⟩ := arr_v k5a
  obtain ⟨c_SwitchMap_co, V_SwitchMap_co⟩ : ∃ k, Arv s s.heap w_SwitchMap_co k .int (3 : Int32) [(.int 1), (.int 2), (.int 3)] (.int (0 : Int32)) := by
    obtain ⟨cl, hA⟩ := Arr.start ev_SwitchMap_co k5a
    have hcl := hA.1
    obtain ⟨hl1, hl2⟩ := own_lenI ev_SwitchMap_co hA (k6a)
    exact ⟨_, Arv.start hfit hA hl1 hl2 (by decide) (by decide) ⟨own_slotI ev_SwitchMap_co hcl (k7a), ⟨own_slotI ev_SwitchMap_co hcl (k8a), ⟨own_slotI ev_SwitchMap_co hcl (k8b), trivial⟩⟩⟩⟩
  obtain ⟨n, o, h1, h2, h3, _, L, rfl, ⟨rfl, N⟩, hq⟩ := rm_law l s _ hw tables_1 w_SLIDING w_CALENDAR w_SwitchMap_co i0 i1 i2 i3 i4 s.heap s.heap.size (Nat.le_refl _) ⟨Sta.start ev_SLIDING (Or.inr ⟨(ww9 hw), (ww10 hw)⟩), Exa.start ev_SLIDING k1a, Sta.start ev_CALENDAR (Or.inr ⟨(ww9 hw), (ww35 hw)⟩), Exa.start ev_CALENDAR k2a, own_fldI ev_SLIDING k3a, own_fldI ev_CALENDAR k4a, Sta.start ev_SwitchMap_co (Or.inr ⟨(ww66 hw), (ww67 hw)⟩), ⟨c_SwitchMap_co, V_SwitchMap_co⟩⟩ (Old.start s)  p e ha hc hk s m _ below hf ((Spec.applies_iff_loose hf).mp happ).1 ⟨rfl, State.Warmed39.refl s, rfl⟩ trivial
  refine ⟨n, _, h1, h2, h3, hpost _ _ _ _ _ _ ⟨Cond.after_iff.mpr rfl, Cond.after_iff.mpr (eq_i res_at (Term.int_eval (1)) rfl), trivial⟩ ⟨hq.1, hq.2.1, hq.2.2.1, (hq.2.2.2.sift fun y hy => Or.inr (N y hy)).mono (by decide) (by decide)⟩⟩
theorem main_1_1 : Claimed_1_1 := comes_1 fun _ _ _ _ _ _ h hF => ⟨h.1, hF⟩
theorem main_1_2 : Claimed_1_2 := comes_1 fun _ _ _ _ _ _ h hF => ⟨h.2.1, hF⟩
end Jvm.Pilot.@@N@@
namespace Jvm.Pilot.@@N@@
open Jvm Jvm.ClassFile Sem Op Lib Jvm.Free Jvm.Stand Jvm.Pilot.@@N@@.Jvm.D
/-! MADE BY PROGRAM (witnessworld.py) out of the Statement's table words and the real class files: 22 classes; the members and pool entries that the words name. The judged class is class 1, her method 1. -/
namespace start1
open Jvm.ClassFile
def u (s : String) : CpInfo := .utf8 (stringToUtf16 s)
/-- a pool by its gaps: so many unusable entries, then the entry; so many at the end -/
def gap : Nat → List CpInfo → List CpInfo
  | 0, r => r
  | n + 1, r => .unusable :: gap n r
def poolList (es : List (Nat × CpInfo)) (last : Nat) : List CpInfo := es.foldr (fun e r => gap e.1 (e.2 :: r)) (gap last [])
def pool (es : List (Nat × CpInfo)) (last : Nat) : Array CpInfo := ⟨poolList es last⟩
def fileOf (pool : Array CpInfo) (this : Nat) (attrs : Array Attribute := #[]) (ms : Array MethodInfo := #[]) (fl : Nat := 33) (sup : Nat := 0) (ifs : Array Nat := #[]) (fds : Array FieldInfo := #[]) : ClassFile where
  minorVersion := 0
  majorVersion := 65
  constantPool := pool
  accessFlags := fl
  thisClass := this
  superClass := sup
  interfaces := ifs
  fields := fds
  methods := ms
  attributes := attrs
def plain (name : String) (sup : Option ClassId) : Class where
  name := name
  kind := .ordinary
  loader := none
  accessFlags := 33
  super := sup
  interfaces := #[]
  cf := none
  fields := #[]
  methods := #[]
  instanceTypes := #[]
  staticTypes := #[]
  resolved := #[]
  callSites := []
  init := .initialized
  statics := none
  mirror := none

def pool0 : Array CpInfo := pool [(5, u "<init>"), (0, u "()V"), (1, .class_ 10), (1, u "java/lang/Object")] 113

def k0c0 : Code := { maxStack := 0, maxLocals := 1, code := object_method_1_code, exceptionTable := #[], attributes := #[] }
def k0m0 : Method := { name := "<init>", desc := "()V", sig := { parameters := [], returnType := none }, accessFlags := 1, code := some k0c0 }
/-- java/lang/Object -/
def k0 : Class := { plain "java/lang/Object" none with
  accessFlags := 33
  interfaces := #[]
  cf := some (fileOf pool0 8 #[] #[{ accessFlags := 1, nameIndex := 5, descriptorIndex := 6, attributes := #[] }] 33 0 #[] #[])
  fields := #[]
  methods := #[k0m0]
  instanceTypes := #[]
  staticTypes := #[]
  resolved := Array.replicate 124 none
  statics := none }

def pool1 : Array CpInfo := pool [(2, .class_ 4), (0, .nameAndType 5 6), (0, u "java/lang/Object"), (0, u "<init>"), (0, u "()V"), (0, .integer 2147483647), (0, .methodref 9 10), (0, .class_ 11), (0, .nameAndType 12 13), (0, u "com/example/tempogate/tempogate/rules/Window"), (0, u "sliding"), (0, u "(J)Lcom/example/tempogate/tempogate/rules/Window;"), (0, .class_ 15), (0, u "com/example/tempogate/tempogate/gate/AdmissionTimes"), (0, .methodref 14 3), (0, .methodref 14 18), (0, .nameAndType 19 20), (0, u "add"), (0, u "(J)V"), (0, .methodref 14 22), (0, .nameAndType 23 24), (0, u "countAt"), (0, u "(Lcom/example/tempogate/tempogate/rules/Window;J)I"), (0, .methodref 14 26), (0, .nameAndType 27 28), (0, u "get"), (0, u "(I)J"), (0, .class_ 30), (0, u "com/example/tempogate/tempogate/gate/AdmissionTimesGetPinLaw"), (2, u "law"), (0, u "(JIIII)Z")] 5

def k1m0 : Method := { name := "<init>", desc := "()V", sig := { parameters := [], returnType := none }, accessFlags := 1, code := none }
def k1c1 : Code := { maxStack := 5, maxLocals := 31, code := code, exceptionTable := #[], attributes := #[] }
def k1m1 : Method := { name := "law", desc := "(JIIII)Z", sig := { parameters := [.long, .int, .int, .int, .int], returnType := some .boolean }, accessFlags := 9, code := some k1c1 }
/-- com/example/tempogate/tempogate/gate/AdmissionTimesGetPinLaw -/
def k1 : Class := { plain "com/example/tempogate/tempogate/gate/AdmissionTimesGetPinLaw" (some 0) with
  accessFlags := 49
  interfaces := #[]
  cf := some (fileOf pool1 29 #[] #[{ accessFlags := 1, nameIndex := 5, descriptorIndex := 6, attributes := #[] }, { accessFlags := 9, nameIndex := 33, descriptorIndex := 34, attributes := #[] }] 49 2 #[] #[])
  fields := #[]
  methods := #[k1m0, k1m1]
  instanceTypes := #[]
  staticTypes := #[]
  resolved := Array.replicate 40 none
  statics := none }

def pool2 : Array CpInfo := pool [(1, .methodref 2 3), (0, .class_ 4), (0, .nameAndType 5 6), (0, u "java/lang/Object"), (0, u "<init>"), (0, u "()V"), (0, .class_ 8), (0, u "java/lang/Record")] 13

def k2c0 : Code := { maxStack := 1, maxLocals := 1, code := jdk_30_method_1_code, exceptionTable := #[], attributes := #[] }
def k2m0 : Method := { name := "<init>", desc := "()V", sig := { parameters := [], returnType := none }, accessFlags := 4, code := some k2c0 }
/-- java/lang/Record -/
def k2 : Class := { plain "java/lang/Record" (some 0) with
  accessFlags := 1057
  interfaces := #[]
  cf := some (fileOf pool2 7 #[] #[{ accessFlags := 4, nameIndex := 5, descriptorIndex := 6, attributes := #[] }] 1057 2 #[] #[])
  fields := #[]
  methods := #[k2m0]
  instanceTypes := #[]
  staticTypes := #[]
  resolved := Array.replicate 22 none
  statics := none }

def pool3 : Array CpInfo := pool [(1, .methodref 2 3), (0, .class_ 4), (0, .nameAndType 5 6), (0, u "java/lang/Record"), (0, u "<init>"), (0, u "()V"), (0, .string 8), (0, u "type"), (0, .methodref 10 11), (0, .class_ 12), (0, .nameAndType 13 14), (0, u "java/util/Objects"), (0, u "requireNonNull"), (0, u "(Ljava/lang/Object;Ljava/lang/String;)Ljava/lang/Object;"), (9, .fieldref 25 26), (0, .class_ 27), (0, .nameAndType 28 29), (0, u "com/example/tempogate/tempogate/rules/Window$Type"), (0, u "CALENDAR"), (0, u "Lcom/example/tempogate/tempogate/rules/Window$Type;"), (0, .class_ 31), (0, u "com/example/tempogate/tempogate/rules/Window"), (0, .long 86400000), (9, .fieldref 30 43), (0, .nameAndType 8 29), (0, .fieldref 30 45), (0, .nameAndType 46 47), (0, u "millis"), (0, u "J"), (0, .fieldref 30 49), (0, .nameAndType 50 47), (0, u "offsetMillis"), (0, .fieldref 25 52), (0, .nameAndType 53 29), (0, u "SLIDING"), (0, .methodref 30 55), (0, .nameAndType 5 56), (0, u "(Lcom/example/tempogate/tempogate/rules/Window$Type;JJ)V"), (18, u "DAY_MILLIS"), (5, u "sliding"), (0, u "(J)Lcom/example/tempogate/tempogate/rules/Window;"), (5, u "()Lcom/example/tempogate/tempogate/rules/Window$Type;"), (0, u "()J")] 36

def k3c0 : Code := { maxStack := 4, maxLocals := 6, code := prog_21_method_1_code, exceptionTable := #[], attributes := #[] }
def k3m0 : Method := { name := "<init>", desc := "(Lcom/example/tempogate/tempogate/rules/Window$Type;JJ)V", sig := { parameters := [(.object "com/example/tempogate/tempogate/rules/Window$Type"), .long, .long], returnType := none }, accessFlags := 1, code := some k3c0 }
def k3c1 : Code := { maxStack := 7, maxLocals := 2, code := prog_21_method_2_code, exceptionTable := #[], attributes := #[] }
def k3m1 : Method := { name := "sliding", desc := "(J)Lcom/example/tempogate/tempogate/rules/Window;", sig := { parameters := [.long], returnType := some (.object "com/example/tempogate/tempogate/rules/Window") }, accessFlags := 9, code := some k3c1 }
def k3c2 : Code := { maxStack := 1, maxLocals := 1, code := prog_21_method_7_code, exceptionTable := #[], attributes := #[] }
def k3m2 : Method := { name := "type", desc := "()Lcom/example/tempogate/tempogate/rules/Window$Type;", sig := { parameters := [], returnType := some (.object "com/example/tempogate/tempogate/rules/Window$Type") }, accessFlags := 1, code := some k3c2 }
def k3c3 : Code := { maxStack := 2, maxLocals := 1, code := prog_21_method_8_code, exceptionTable := #[], attributes := #[] }
def k3m3 : Method := { name := "millis", desc := "()J", sig := { parameters := [], returnType := some .long }, accessFlags := 1, code := some k3c3 }
/-- com/example/tempogate/tempogate/rules/Window -/
def k3 : Class := { plain "com/example/tempogate/tempogate/rules/Window" (some 2) with
  accessFlags := 49
  interfaces := #[]
  cf := some (fileOf pool3 30 #[.nestMembers #[25]] #[{ accessFlags := 1, nameIndex := 5, descriptorIndex := 56, attributes := #[] }, { accessFlags := 9, nameIndex := 81, descriptorIndex := 82, attributes := #[] }, { accessFlags := 1, nameIndex := 8, descriptorIndex := 88, attributes := #[] }, { accessFlags := 1, nameIndex := 46, descriptorIndex := 89, attributes := #[] }] 49 2 #[] #[{ accessFlags := 18, nameIndex := 8, descriptorIndex := 29, attributes := #[] }, { accessFlags := 18, nameIndex := 46, descriptorIndex := 47, attributes := #[] }, { accessFlags := 18, nameIndex := 50, descriptorIndex := 47, attributes := #[] }, { accessFlags := 25, nameIndex := 75, descriptorIndex := 47, attributes := #[] }])
  fields := #[{ name := "type", type := (.object "com/example/tempogate/tempogate/rules/Window$Type"), accessFlags := 18, slot := 0, constantValue := 0 }, { name := "millis", type := .long, accessFlags := 18, slot := 1, constantValue := 0 }, { name := "offsetMillis", type := .long, accessFlags := 18, slot := 2, constantValue := 0 }, { name := "DAY_MILLIS", type := .long, accessFlags := 25, slot := 0, constantValue := 0 }]
  methods := #[k3m0, k3m1, k3m2, k3m3]
  instanceTypes := #[(.object "com/example/tempogate/tempogate/rules/Window$Type"), .long, .long]
  staticTypes := #[.long]
  resolved := Array.replicate 126 none
  statics := none }

def pool4 : Array CpInfo := pool [(1, .class_ 2), (0, u "java/lang/constant/Constable"), (0, .class_ 4), (0, u "java/lang/Object")] 6

/-- java/lang/constant/Constable -/
def k4 : Class := { plain "java/lang/constant/Constable" (some 0) with
  accessFlags := 1537
  interfaces := #[]
  cf := some (fileOf pool4 1 #[] #[] 1537 3 #[] #[])
  fields := #[]
  methods := #[]
  instanceTypes := #[]
  staticTypes := #[]
  resolved := Array.replicate 11 none
  statics := none }

def pool5 : Array CpInfo := pool [(1, .class_ 2), (0, u "java/lang/Comparable"), (0, .class_ 4), (0, u "java/lang/Object")] 7

/-- java/lang/Comparable -/
def k5 : Class := { plain "java/lang/Comparable" (some 0) with
  accessFlags := 1537
  interfaces := #[]
  cf := some (fileOf pool5 1 #[] #[] 1537 3 #[] #[])
  fields := #[]
  methods := #[]
  instanceTypes := #[]
  staticTypes := #[]
  resolved := Array.replicate 12 none
  statics := none }

def pool6 : Array CpInfo := pool [(1, .class_ 2), (0, u "java/io/Serializable"), (0, .class_ 4), (0, u "java/lang/Object")] 2

/-- java/io/Serializable -/
def k6 : Class := { plain "java/io/Serializable" (some 0) with
  accessFlags := 1537
  interfaces := #[]
  cf := some (fileOf pool6 1 #[] #[] 1537 3 #[] #[])
  fields := #[]
  methods := #[]
  instanceTypes := #[]
  staticTypes := #[]
  resolved := Array.replicate 7 none
  statics := none }

def pool7 : Array CpInfo := pool [(2, .class_ 4), (1, u "java/lang/Enum"), (0, u "name"), (0, u "Ljava/lang/String;"), (0, .fieldref 2 8), (0, .nameAndType 9 10), (0, u "ordinal"), (0, u "I"), (1, .class_ 14), (1, u "java/lang/Object"), (4, u "hash"), (86, .class_ 108), (1, u "java/lang/Enum$EnumDesc"), (2, .class_ 112), (0, u "java/lang/constant/Constable"), (0, .class_ 114), (0, u "java/lang/Comparable"), (0, .class_ 116), (0, u "java/io/Serializable"), (9, u "()I")] 77

def k7c0 : Code := { maxStack := 1, maxLocals := 1, code := jdk_37_method_2_code, exceptionTable := #[], attributes := #[] }
def k7m0 : Method := { name := "ordinal", desc := "()I", sig := { parameters := [], returnType := some .int }, accessFlags := 17, code := some k7c0 }
/-- java/lang/Enum -/
def k7 : Class := { plain "java/lang/Enum" (some 0) with
  accessFlags := 1057
  interfaces := #[4, 5, 6]
  cf := some (fileOf pool7 2 #[.nestMembers #[106]] #[{ accessFlags := 17, nameIndex := 9, descriptorIndex := 126, attributes := #[] }] 1057 12 #[111, 113, 115] #[{ accessFlags := 18, nameIndex := 5, descriptorIndex := 6, attributes := #[] }, { accessFlags := 18, nameIndex := 9, descriptorIndex := 10, attributes := #[] }, { accessFlags := 2, nameIndex := 19, descriptorIndex := 10, attributes := #[] }])
  fields := #[{ name := "name", type := (.object "java/lang/String"), accessFlags := 18, slot := 0, constantValue := 0 }, { name := "ordinal", type := .int, accessFlags := 18, slot := 1, constantValue := 0 }, { name := "hash", type := .int, accessFlags := 2, slot := 2, constantValue := 0 }]
  methods := #[k7m0]
  instanceTypes := #[(.object "java/lang/String"), .int, .int]
  staticTypes := #[]
  resolved := Array.replicate 204 none
  statics := none }

def pool8 : Array CpInfo := pool [(1, .class_ 2), (0, u "com/example/tempogate/tempogate/rules/Window$Type"), (2, u "SLIDING"), (0, u "Lcom/example/tempogate/tempogate/rules/Window$Type;"), (2, u "CALENDAR"), (2, u "ANCHORED"), (2, u "$VALUES"), (0, u "[Lcom/example/tempogate/tempogate/rules/Window$Type;"), (6, .class_ 25), (1, u "java/lang/Enum"), (8, u "text"), (0, u "Ljava/lang/String;"), (40, .class_ 77), (0, u "com/example/tempogate/tempogate/rules/Window")] 2

/-- com/example/tempogate/tempogate/rules/Window$Type -/
def k8 : Class := { plain "com/example/tempogate/tempogate/rules/Window$Type" (some 7) with
  accessFlags := 16433
  interfaces := #[]
  cf := some (fileOf pool8 1 #[.nestHost 76] #[] 16433 23 #[] #[{ accessFlags := 16409, nameIndex := 5, descriptorIndex := 6, attributes := #[] }, { accessFlags := 16409, nameIndex := 9, descriptorIndex := 6, attributes := #[] }, { accessFlags := 16409, nameIndex := 12, descriptorIndex := 6, attributes := #[] }, { accessFlags := 18, nameIndex := 34, descriptorIndex := 35, attributes := #[] }, { accessFlags := 4122, nameIndex := 15, descriptorIndex := 16, attributes := #[] }])
  fields := #[{ name := "SLIDING", type := (.object "com/example/tempogate/tempogate/rules/Window$Type"), accessFlags := 16409, slot := 0, constantValue := 0 }, { name := "CALENDAR", type := (.object "com/example/tempogate/tempogate/rules/Window$Type"), accessFlags := 16409, slot := 1, constantValue := 0 }, { name := "ANCHORED", type := (.object "com/example/tempogate/tempogate/rules/Window$Type"), accessFlags := 16409, slot := 2, constantValue := 0 }, { name := "text", type := (.object "java/lang/String"), accessFlags := 18, slot := 3, constantValue := 0 }, { name := "$VALUES", type := (.array (.object "com/example/tempogate/tempogate/rules/Window$Type")), accessFlags := 4122, slot := 3, constantValue := 0 }]
  methods := #[]
  instanceTypes := #[(.object "java/lang/String"), .int, .int, (.object "java/lang/String")]
  staticTypes := #[(.object "com/example/tempogate/tempogate/rules/Window$Type"), (.object "com/example/tempogate/tempogate/rules/Window$Type"), (.object "com/example/tempogate/tempogate/rules/Window$Type"), (.array (.object "com/example/tempogate/tempogate/rules/Window$Type"))]
  resolved := Array.replicate 80 none
  statics := some 0 }

def pool9 : Array CpInfo := pool [(2, .class_ 4), (1, u "java/lang/CharSequence"), (42, .class_ 48), (0, u "java/lang/CharSequence$1CodePointIterator"), (10, .class_ 60), (0, u "java/lang/CharSequence$1CharIterator"), (5, .class_ 67), (0, u "java/lang/Object")] 63

/-- java/lang/CharSequence -/
def k9 : Class := { plain "java/lang/CharSequence" (some 0) with
  accessFlags := 1537
  interfaces := #[]
  cf := some (fileOf pool9 2 #[.nestMembers #[47, 59]] #[] 1537 66 #[] #[])
  fields := #[]
  methods := #[]
  instanceTypes := #[]
  staticTypes := #[]
  resolved := Array.replicate 131 none
  statics := none }

def pool10 : Array CpInfo := pool [(1, .class_ 2), (0, u "java/lang/constant/ConstantDesc"), (0, .class_ 4), (0, u "java/lang/Object")] 32

/-- java/lang/constant/ConstantDesc -/
def k10 : Class := { plain "java/lang/constant/ConstantDesc" (some 0) with
  accessFlags := 1537
  interfaces := #[]
  cf := some (fileOf pool10 1 #[] #[] 1537 3 #[] #[])
  fields := #[]
  methods := #[]
  instanceTypes := #[]
  staticTypes := #[]
  resolved := Array.replicate 37 none
  statics := none }

def pool11 : Array CpInfo := pool [(2, .class_ 4), (1, u "java/lang/Object"), (0, u "<init>"), (0, u "()V"), (3, .class_ 12), (1, u "java/lang/String"), (0, u "value"), (0, u "[B"), (2, u "coder"), (0, u "B"), (2, u "hash"), (0, u "I"), (2, u "hashIsZero"), (0, u "Z"), (13, u "COMPACT_STRINGS"), (534, .class_ 576), (0, u "java/lang/CharSequence"), (22, u "CASE_INSENSITIVE_ORDER"), (0, u "Ljava/util/Comparator;"), (500, u "serialPersistentFields"), (0, u "[Ljava/io/ObjectStreamField;"), (0, .class_ 1104), (0, u "java/lang/String$CaseInsensitiveComparator"), (1, .class_ 1107), (0, u "java/io/Serializable"), (0, .class_ 1109), (0, u "java/lang/Comparable"), (0, .class_ 1111), (0, u "java/lang/constant/Constable"), (0, .class_ 1113), (0, u "java/lang/constant/ConstantDesc"), (2, u "serialVersionUID"), (0, u "J"), (3, u "REPL"), (0, u "C"), (2, u "LATIN1"), (1, u "UTF16")] 323

def k11m0 : Method := { name := "<init>", desc := "()V", sig := { parameters := [], returnType := none }, accessFlags := 1, code := none }
/-- java/lang/String -/
def k11 : Class := { plain "java/lang/String" (some 0) with
  accessFlags := 49
  interfaces := #[6, 5, 9, 4, 10]
  cf := some (fileOf pool11 10 #[.nestMembers #[1103]] #[{ accessFlags := 1, nameIndex := 5, descriptorIndex := 6, attributes := #[] }] 49 2 #[1106, 1108, 575, 1110, 1112] #[{ accessFlags := 18, nameIndex := 13, descriptorIndex := 14, attributes := #[] }, { accessFlags := 18, nameIndex := 17, descriptorIndex := 18, attributes := #[] }, { accessFlags := 2, nameIndex := 21, descriptorIndex := 22, attributes := #[] }, { accessFlags := 2, nameIndex := 25, descriptorIndex := 26, attributes := #[] }, { accessFlags := 26, nameIndex := 1116, descriptorIndex := 1117, attributes := #[] }, { accessFlags := 24, nameIndex := 40, descriptorIndex := 26, attributes := #[] }, { accessFlags := 26, nameIndex := 1101, descriptorIndex := 1102, attributes := #[] }, { accessFlags := 26, nameIndex := 1121, descriptorIndex := 1122, attributes := #[] }, { accessFlags := 25, nameIndex := 599, descriptorIndex := 600, attributes := #[] }, { accessFlags := 24, nameIndex := 1125, descriptorIndex := 18, attributes := #[] }, { accessFlags := 24, nameIndex := 1127, descriptorIndex := 18, attributes := #[] }])
  fields := #[{ name := "value", type := (.array .byte), accessFlags := 18, slot := 0, constantValue := 0 }, { name := "coder", type := .byte, accessFlags := 18, slot := 1, constantValue := 0 }, { name := "hash", type := .int, accessFlags := 2, slot := 2, constantValue := 0 }, { name := "hashIsZero", type := .boolean, accessFlags := 2, slot := 3, constantValue := 0 }, { name := "serialVersionUID", type := .long, accessFlags := 26, slot := 0, constantValue := 0 }, { name := "COMPACT_STRINGS", type := .boolean, accessFlags := 24, slot := 1, constantValue := 0 }, { name := "serialPersistentFields", type := (.array (.object "java/io/ObjectStreamField")), accessFlags := 26, slot := 2, constantValue := 0 }, { name := "REPL", type := .char, accessFlags := 26, slot := 3, constantValue := 0 }, { name := "CASE_INSENSITIVE_ORDER", type := (.object "java/util/Comparator"), accessFlags := 25, slot := 4, constantValue := 0 }, { name := "LATIN1", type := .byte, accessFlags := 24, slot := 5, constantValue := 0 }, { name := "UTF16", type := .byte, accessFlags := 24, slot := 6, constantValue := 0 }]
  methods := #[k11m0]
  instanceTypes := #[(.array .byte), .byte, .int, .boolean]
  staticTypes := #[.long, .boolean, (.array (.object "java/io/ObjectStreamField")), .char, (.object "java/util/Comparator"), .byte, .byte]
  resolved := Array.replicate 1451 none
  statics := none }

def pool12 : Array CpInfo := pool [(2, .class_ 4), (1, u "java/lang/Object"), (0, u "<init>"), (0, u "()V"), (35, .class_ 44), (1, u "java/util/Objects"), (0, u "requireNonNull"), (48, u "(Ljava/lang/Object;Ljava/lang/String;)Ljava/lang/Object;")] 89

def k12m0 : Method := { name := "<init>", desc := "()V", sig := { parameters := [], returnType := none }, accessFlags := 2, code := none }
def k12c1 : Code := { maxStack := 3, maxLocals := 2, code := jdk_31_method_11_code, exceptionTable := #[], attributes := #[] }
def k12m1 : Method := { name := "requireNonNull", desc := "(Ljava/lang/Object;Ljava/lang/String;)Ljava/lang/Object;", sig := { parameters := [(.object "java/lang/Object"), (.object "java/lang/String")], returnType := some (.object "java/lang/Object") }, accessFlags := 9, code := some k12c1 }
/-- java/util/Objects -/
def k12 : Class := { plain "java/util/Objects" (some 0) with
  accessFlags := 49
  interfaces := #[]
  cf := some (fileOf pool12 42 #[] #[{ accessFlags := 2, nameIndex := 5, descriptorIndex := 6, attributes := #[] }, { accessFlags := 9, nameIndex := 45, descriptorIndex := 94, attributes := #[] }] 49 2 #[] #[])
  fields := #[]
  methods := #[k12m0, k12m1]
  instanceTypes := #[]
  staticTypes := #[]
  resolved := Array.replicate 184 none
  statics := none }

def pool13 : Array CpInfo := pool [(1, .methodref 2 3), (0, .class_ 4), (0, .nameAndType 5 6), (0, u "java/lang/Object"), (0, u "<init>"), (0, u "()V"), (0, .fieldref 8 9), (0, .class_ 10), (0, .nameAndType 11 12), (0, u "com/example/tempogate/tempogate/gate/AdmissionTimes"), (0, u "times"), (0, u "[J"), (0, .fieldref 14 15), (0, .class_ 16), (0, .nameAndType 17 18), (0, u "com/example/tempogate/tempogate/gate/AdmissionTimes$1"), (0, u "$SwitchMap$com$example$tempogate$tempogate$rules$Window$Type"), (0, u "[I"), (0, .methodref 20 21), (0, .class_ 22), (0, .nameAndType 23 24), (0, u "com/example/tempogate/tempogate/rules/Window"), (0, u "type"), (0, u "()Lcom/example/tempogate/tempogate/rules/Window$Type;"), (0, .methodref 26 27), (0, .class_ 28), (0, .nameAndType 29 30), (0, u "com/example/tempogate/tempogate/rules/Window$Type"), (0, u "ordinal"), (0, u "()I"), (0, .methodref 20 32), (0, .nameAndType 33 34), (0, u "millis"), (0, u "()J"), (0, .methodref 8 36), (0, .nameAndType 37 38), (0, u "forgetThrough"), (0, u "(J)V"), (4, .fieldref 8 44), (0, .nameAndType 45 46), (0, u "size"), (0, u "I"), (0, .fieldref 8 48), (0, .nameAndType 49 46), (0, u "head"), (17, u "countAt"), (0, u "(Lcom/example/tempogate/tempogate/rules/Window;J)I"), (1, u "get"), (0, u "(I)J"), (0, u "add")] 20

def k13c0 : Code := { maxStack := 2, maxLocals := 1, code := prog_2_method_1_code, exceptionTable := #[], attributes := #[] }
def k13m0 : Method := { name := "<init>", desc := "()V", sig := { parameters := [], returnType := none }, accessFlags := 0, code := some k13c0 }
def k13c1 : Code := { maxStack := 6, maxLocals := 4, code := prog_2_method_2_code, exceptionTable := #[], attributes := #[] }
def k13m1 : Method := { name := "countAt", desc := "(Lcom/example/tempogate/tempogate/rules/Window;J)I", sig := { parameters := [(.object "com/example/tempogate/tempogate/rules/Window"), .long], returnType := some .int }, accessFlags := 0, code := some k13c1 }
def k13c2 : Code := { maxStack := 3, maxLocals := 2, code := prog_2_method_3_code, exceptionTable := #[], attributes := #[] }
def k13m2 : Method := { name := "get", desc := "(I)J", sig := { parameters := [.int], returnType := some .long }, accessFlags := 0, code := some k13c2 }
def k13c3 : Code := { maxStack := 5, maxLocals := 5, code := prog_2_method_4_code, exceptionTable := #[], attributes := #[] }
def k13m3 : Method := { name := "add", desc := "(J)V", sig := { parameters := [.long], returnType := none }, accessFlags := 0, code := some k13c3 }
def k13c4 : Code := { maxStack := 4, maxLocals := 3, code := prog_2_method_5_code, exceptionTable := #[], attributes := #[] }
def k13m4 : Method := { name := "forgetThrough", desc := "(J)V", sig := { parameters := [.long], returnType := none }, accessFlags := 2, code := some k13c4 }
/-- com/example/tempogate/tempogate/gate/AdmissionTimes -/
def k13 : Class := { plain "com/example/tempogate/tempogate/gate/AdmissionTimes" (some 0) with
  accessFlags := 48
  interfaces := #[]
  cf := some (fileOf pool13 8 #[.nestMembers #[14]] #[{ accessFlags := 0, nameIndex := 5, descriptorIndex := 6, attributes := #[] }, { accessFlags := 0, nameIndex := 67, descriptorIndex := 68, attributes := #[] }, { accessFlags := 0, nameIndex := 70, descriptorIndex := 71, attributes := #[] }, { accessFlags := 0, nameIndex := 72, descriptorIndex := 38, attributes := #[] }, { accessFlags := 2, nameIndex := 37, descriptorIndex := 38, attributes := #[] }] 48 2 #[] #[{ accessFlags := 2, nameIndex := 11, descriptorIndex := 12, attributes := #[] }, { accessFlags := 2, nameIndex := 49, descriptorIndex := 46, attributes := #[] }, { accessFlags := 2, nameIndex := 45, descriptorIndex := 46, attributes := #[] }])
  fields := #[{ name := "times", type := (.array .long), accessFlags := 2, slot := 0, constantValue := 0 }, { name := "head", type := .int, accessFlags := 2, slot := 1, constantValue := 0 }, { name := "size", type := .int, accessFlags := 2, slot := 2, constantValue := 0 }]
  methods := #[k13m0, k13m1, k13m2, k13m3, k13m4]
  instanceTypes := #[(.array .long), .int, .int]
  staticTypes := #[]
  resolved := Array.replicate 93 none
  statics := none }

def pool14 : Array CpInfo := pool [(8, .class_ 10), (1, u "com/example/tempogate/tempogate/gate/AdmissionTimes$1"), (0, u "$SwitchMap$com$example$tempogate$tempogate$rules$Window$Type"), (0, u "[I"), (16, .class_ 30), (0, u "java/lang/Object"), (8, .class_ 40), (0, u "com/example/tempogate/tempogate/gate/AdmissionTimes")] 5

/-- com/example/tempogate/tempogate/gate/AdmissionTimes$1 -/
def k14 : Class := { plain "com/example/tempogate/tempogate/gate/AdmissionTimes$1" (some 0) with
  accessFlags := 4128
  interfaces := #[]
  cf := some (fileOf pool14 8 #[.nestHost 39] #[] 4128 29 #[] #[{ accessFlags := 4120, nameIndex := 11, descriptorIndex := 12, attributes := #[] }])
  fields := #[{ name := "$SwitchMap$com$example$tempogate$tempogate$rules$Window$Type", type := (.array .int), accessFlags := 4120, slot := 0, constantValue := 0 }]
  methods := #[]
  instanceTypes := #[]
  staticTypes := #[(.array .int)]
  resolved := Array.replicate 46 none
  statics := some 1 }

def pool15 : Array CpInfo := pool [(1, u "java/lang/Cloneable"), (0, .class_ 1), (0, u "java/lang/Object"), (0, .class_ 3)] 3

/-- java/lang/Cloneable -/
def k15 : Class := { plain "java/lang/Cloneable" (some 0) with
  accessFlags := 1537
  interfaces := #[]
  cf := some (fileOf pool15 2 #[] #[] 1537 4 #[] #[])
  fields := #[]
  methods := #[]
  instanceTypes := #[]
  staticTypes := #[]
  resolved := Array.replicate 8 none
  statics := none }

/-- the primitive byte -/
def k16 : Class := { plain "byte" none with kind := .primitive 'B', accessFlags := 0x411 }
/-- [B -/
def k17 : Class := { plain "[B" (some 0) with kind := .array 16 .byte, interfaces := #[15, 6], accessFlags := 1041 }

/-- the primitive int -/
def k18 : Class := { plain "int" none with kind := .primitive 'I', accessFlags := 0x411 }
/-- [I -/
def k19 : Class := { plain "[I" (some 0) with kind := .array 18 .int, interfaces := #[15, 6], accessFlags := 1041 }

/-- the primitive long -/
def k20 : Class := { plain "long" none with kind := .primitive 'J', accessFlags := 0x411 }
/-- [J -/
def k21 : Class := { plain "[J" (some 0) with kind := .array 20 .long, interfaces := #[15, 6], accessFlags := 1041 }

def heap : Heap := #[{ cls := 8, slots := #[.ref 2, .ref 3, .null, .null], vm := .statics 8 },
  { cls := 14, slots := #[.ref 4], vm := .statics 14 },
  { cls := 8, slots := #[.null, .int (0), .int 0, .null], vm := .none },
  { cls := 8, slots := #[.null, .int (1), .int 0, .null], vm := .none },
  { cls := 19, slots := #[.int 1, .int 2, .int 3], vm := .none }]
def classes : Array Class := #[k0, k1, k2, k3, k4, k5, k6, k7, k8, k9, k10, k11, k12, k13, k14, k15, k16, k17, k18, k19, k20, k21]
def interned : List (Array UInt16 × Addr) := []
def slotsUsed : Nat := 16
def theMethod : MethodId := ⟨1, 1⟩
def args0 : Array Value := #[.long 5, .int 2, .int 3, .int 1, .int 1]
def aboutOver (below : List Frame) : State where
  vm := { classes := classes, interned := interned.toArray }
  heap := heap
  slotsUsed := slotsUsed
  threads := #[{ frames := .invoking theMethod args0 :: below }]
def below0 : List Frame := [.native { method := ⟨0, 0⟩, args := #[] }]
def about1 : State := aboutOver below0
def p0 : Program := .bare "" "" ""
def e0 : Env := launch0.env 0 0 0
theorem w_frames : about1.frames = Frame.invoking theMethod args0 :: below0 := rfl
set_option maxRecDepth 65536 in
theorem w_args : argsFit about1.vm theMethod args0 = true := by decide +kernel
set_option maxRecDepth 65536 in
theorem w_heap : heapFits about1 = true := by decide +kernel
set_option maxRecDepth 65536 in
theorem w_runnable : about1.curStatus? = some .runnable := by decide +kernel
set_option maxRecDepth 65536 in
theorem w_alone : about1.alone = true := by decide +kernel
set_option maxRecDepth 65536 in
theorem w_named : about1.methodNamed? x = some theMethod := by decide +kernel
set_option maxRecDepth 65536 in
theorem w_hears : about1.hears theMethod below0 = true := by decide +kernel
set_option maxRecDepth 65536 in
theorem w_ripe : about1.ripe theMethod args0 below0 = true := by decide +kernel
theorem w_running : about1.status = .running := rfl
set_option maxRecDepth 65536 in
theorem w_room : about1.hasRoom e0.platform room_1 = true :=
  launch0.hasRoom_least _ room_1 (by decide +kernel) (by decide +kernel) (by decide +kernel) (by decide +kernel) (by decide +kernel) (by decide +kernel)
theorem allAtoms_all (ts : List Jvm.Cond) (a : Array Jvm.Value) (st : Jvm.State) : (allAtoms ts).before a st = ts.all (fun c => c.before a st) := by
  induction ts with
  | nil => rfl
  | cons c t ih =>
    show (Jvm.Cond.and c (allAtoms t)).before a st = _
    rw [Jvm.Cond.before_and, ih, List.all_cons]
def words1 : List Jvm.Cond := Jvm.Cond.code x code maxLocals ret :: tables_1
/-- a 'code' word, met by the world's own term for the bytes: nothing is compared byte by byte -/
theorem code_word {y : MethodName} {bytes : ByteArray} {mx : Nat} {rt : Option FieldType} {a : Array Value} {s : State} {m : MethodId} {meth : Method} {c : Code} (h1 : s.methodNamed? y = some m) (h2 : s.vm.method? m = some meth) (h3 : meth.code = some c) (h4 : c.code = bytes)
    (h5 : (c.maxLocals == mx && c.exceptionTable.isEmpty && decide (c.maxStack ≤ mostOperands) && decide (meth.sig.returnType = rt) && !meth.locks && decide (parseMethodDescriptor y.desc = some meth.sig)) = true) : (Jvm.Cond.code y bytes mx rt).before a s = true := by
  simp only [Bool.and_eq_true, beq_iff_eq, Bool.not_eq_true', decide_eq_true_eq] at h5
  obtain ⟨⟨⟨⟨⟨g1, g2⟩, g3⟩, g4⟩, g5⟩, g6⟩ := h5
  simp [Cond.before, Cond.holds, Cond.value, h1, h2, h3, h4, g1, g2, g3, g4, g5, g6]
def isCode : Jvm.Cond → Bool
  | .code _ _ _ _ => true
  | _ => false
theorem all_split {L : List Jvm.Cond} {P : Jvm.Cond → Bool} (h1 : L.all (fun c => isCode c || P c) = true) (h2 : ∀ c ∈ L.filter isCode, P c = true) : L.all P = true := by
  refine List.all_eq_true.mpr fun c hc => ?_
  have h := List.all_eq_true.mp h1 c hc
  rcases Bool.eq_false_or_eq_true (isCode c) with hi | hi
  · exact h2 c (List.mem_filter.mpr ⟨hc, hi⟩)
  · simpa [hi] using h
set_option maxRecDepth 65536 in
theorem w_c0 : (Jvm.Cond.code x code maxLocals ret).before args0 about1 = true := code_word (m := ⟨1, 1⟩) (meth := k1m1) (c := k1c1) (by decide +kernel) rfl rfl rfl (by decide +kernel)
set_option maxRecDepth 65536 in
theorem w_c1 : (Jvm.Cond.code ({ cls := "com/example/tempogate/tempogate/rules/Window", name := "sliding", desc := "(J)Lcom/example/tempogate/tempogate/rules/Window;" } : Jvm.MethodName) prog_21_method_2_code (2 : Nat) (Option.some (Jvm.ClassFile.FieldType.object "com/example/tempogate/tempogate/rules/Window"))).before args0 about1 = true := code_word (m := ⟨3, 1⟩) (meth := k3m1) (c := k3c1) (by decide +kernel) rfl rfl rfl (by decide +kernel)
set_option maxRecDepth 65536 in
theorem w_c2 : (Jvm.Cond.code ({ cls := "com/example/tempogate/tempogate/rules/Window", name := "<init>", desc := "(Lcom/example/tempogate/tempogate/rules/Window$Type;JJ)V" } : Jvm.MethodName) prog_21_method_1_code (6 : Nat) (Option.none : Option Jvm.ClassFile.FieldType)).before args0 about1 = true := code_word (m := ⟨3, 0⟩) (meth := k3m0) (c := k3c0) (by decide +kernel) rfl rfl rfl (by decide +kernel)
set_option maxRecDepth 65536 in
theorem w_c3 : (Jvm.Cond.code ({ cls := "java/lang/Record", name := "<init>", desc := "()V" } : Jvm.MethodName) jdk_30_method_1_code (1 : Nat) (Option.none : Option Jvm.ClassFile.FieldType)).before args0 about1 = true := code_word (m := ⟨2, 0⟩) (meth := k2m0) (c := k2c0) (by decide +kernel) rfl rfl rfl (by decide +kernel)
set_option maxRecDepth 65536 in
theorem w_c4 : (Jvm.Cond.code ({ cls := "java/lang/Object", name := "<init>", desc := "()V" } : Jvm.MethodName) object_method_1_code (1 : Nat) (Option.none : Option Jvm.ClassFile.FieldType)).before args0 about1 = true := code_word (m := ⟨0, 0⟩) (meth := k0m0) (c := k0c0) (by decide +kernel) rfl rfl rfl (by decide +kernel)
set_option maxRecDepth 65536 in
theorem w_c5 : (Jvm.Cond.code ({ cls := "java/util/Objects", name := "requireNonNull", desc := "(Ljava/lang/Object;Ljava/lang/String;)Ljava/lang/Object;" } : Jvm.MethodName) jdk_31_method_11_code (2 : Nat) (Option.some (Jvm.ClassFile.FieldType.object "java/lang/Object"))).before args0 about1 = true := code_word (m := ⟨12, 1⟩) (meth := k12m1) (c := k12c1) (by decide +kernel) rfl rfl rfl (by decide +kernel)
set_option maxRecDepth 65536 in
theorem w_c6 : (Jvm.Cond.code ({ cls := "com/example/tempogate/tempogate/gate/AdmissionTimes", name := "<init>", desc := "()V" } : Jvm.MethodName) prog_2_method_1_code (1 : Nat) (Option.none : Option Jvm.ClassFile.FieldType)).before args0 about1 = true := code_word (m := ⟨13, 0⟩) (meth := k13m0) (c := k13c0) (by decide +kernel) rfl rfl rfl (by decide +kernel)
set_option maxRecDepth 65536 in
theorem w_c7 : (Jvm.Cond.code ({ cls := "com/example/tempogate/tempogate/gate/AdmissionTimes", name := "add", desc := "(J)V" } : Jvm.MethodName) prog_2_method_4_code (5 : Nat) (Option.none : Option Jvm.ClassFile.FieldType)).before args0 about1 = true := code_word (m := ⟨13, 3⟩) (meth := k13m3) (c := k13c3) (by decide +kernel) rfl rfl rfl (by decide +kernel)
set_option maxRecDepth 65536 in
theorem w_c8 : (Jvm.Cond.code ({ cls := "com/example/tempogate/tempogate/gate/AdmissionTimes", name := "countAt", desc := "(Lcom/example/tempogate/tempogate/rules/Window;J)I" } : Jvm.MethodName) prog_2_method_2_code (4 : Nat) (Option.some Jvm.ClassFile.FieldType.int)).before args0 about1 = true := code_word (m := ⟨13, 1⟩) (meth := k13m1) (c := k13c1) (by decide +kernel) rfl rfl rfl (by decide +kernel)
set_option maxRecDepth 65536 in
theorem w_c9 : (Jvm.Cond.code ({ cls := "com/example/tempogate/tempogate/rules/Window", name := "type", desc := "()Lcom/example/tempogate/tempogate/rules/Window$Type;" } : Jvm.MethodName) prog_21_method_7_code (1 : Nat) (Option.some (Jvm.ClassFile.FieldType.object "com/example/tempogate/tempogate/rules/Window$Type"))).before args0 about1 = true := code_word (m := ⟨3, 2⟩) (meth := k3m2) (c := k3c2) (by decide +kernel) rfl rfl rfl (by decide +kernel)
set_option maxRecDepth 65536 in
theorem w_c10 : (Jvm.Cond.code ({ cls := "java/lang/Enum", name := "ordinal", desc := "()I" } : Jvm.MethodName) jdk_37_method_2_code (1 : Nat) (Option.some Jvm.ClassFile.FieldType.int)).before args0 about1 = true := code_word (m := ⟨7, 0⟩) (meth := k7m0) (c := k7c0) (by decide +kernel) rfl rfl rfl (by decide +kernel)
set_option maxRecDepth 65536 in
theorem w_c11 : (Jvm.Cond.code ({ cls := "com/example/tempogate/tempogate/rules/Window", name := "millis", desc := "()J" } : Jvm.MethodName) prog_21_method_8_code (1 : Nat) (Option.some Jvm.ClassFile.FieldType.long)).before args0 about1 = true := code_word (m := ⟨3, 3⟩) (meth := k3m3) (c := k3c3) (by decide +kernel) rfl rfl rfl (by decide +kernel)
set_option maxRecDepth 65536 in
theorem w_c12 : (Jvm.Cond.code ({ cls := "com/example/tempogate/tempogate/gate/AdmissionTimes", name := "forgetThrough", desc := "(J)V" } : Jvm.MethodName) prog_2_method_5_code (3 : Nat) (Option.none : Option Jvm.ClassFile.FieldType)).before args0 about1 = true := code_word (m := ⟨13, 4⟩) (meth := k13m4) (c := k13c4) (by decide +kernel) rfl rfl rfl (by decide +kernel)
set_option maxRecDepth 65536 in
theorem w_c13 : (Jvm.Cond.code ({ cls := "com/example/tempogate/tempogate/gate/AdmissionTimes", name := "get", desc := "(I)J" } : Jvm.MethodName) prog_2_method_3_code (2 : Nat) (Option.some Jvm.ClassFile.FieldType.long)).before args0 about1 = true := code_word (m := ⟨13, 2⟩) (meth := k13m2) (c := k13c2) (by decide +kernel) rfl rfl rfl (by decide +kernel)
def codes1 : List Jvm.Cond := [Jvm.Cond.code x code maxLocals ret, Jvm.Cond.code ({ cls := "com/example/tempogate/tempogate/rules/Window", name := "sliding", desc := "(J)Lcom/example/tempogate/tempogate/rules/Window;" } : Jvm.MethodName) prog_21_method_2_code (2 : Nat) (Option.some (Jvm.ClassFile.FieldType.object "com/example/tempogate/tempogate/rules/Window")), Jvm.Cond.code ({ cls := "com/example/tempogate/tempogate/rules/Window", name := "<init>", desc := "(Lcom/example/tempogate/tempogate/rules/Window$Type;JJ)V" } : Jvm.MethodName) prog_21_method_1_code (6 : Nat) (Option.none : Option Jvm.ClassFile.FieldType), Jvm.Cond.code ({ cls := "java/lang/Record", name := "<init>", desc := "()V" } : Jvm.MethodName) jdk_30_method_1_code (1 : Nat) (Option.none : Option Jvm.ClassFile.FieldType), Jvm.Cond.code ({ cls := "java/lang/Object", name := "<init>", desc := "()V" } : Jvm.MethodName) object_method_1_code (1 : Nat) (Option.none : Option Jvm.ClassFile.FieldType), Jvm.Cond.code ({ cls := "java/util/Objects", name := "requireNonNull", desc := "(Ljava/lang/Object;Ljava/lang/String;)Ljava/lang/Object;" } : Jvm.MethodName) jdk_31_method_11_code (2 : Nat) (Option.some (Jvm.ClassFile.FieldType.object "java/lang/Object")), Jvm.Cond.code ({ cls := "com/example/tempogate/tempogate/gate/AdmissionTimes", name := "<init>", desc := "()V" } : Jvm.MethodName) prog_2_method_1_code (1 : Nat) (Option.none : Option Jvm.ClassFile.FieldType), Jvm.Cond.code ({ cls := "com/example/tempogate/tempogate/gate/AdmissionTimes", name := "add", desc := "(J)V" } : Jvm.MethodName) prog_2_method_4_code (5 : Nat) (Option.none : Option Jvm.ClassFile.FieldType), Jvm.Cond.code ({ cls := "com/example/tempogate/tempogate/gate/AdmissionTimes", name := "countAt", desc := "(Lcom/example/tempogate/tempogate/rules/Window;J)I" } : Jvm.MethodName) prog_2_method_2_code (4 : Nat) (Option.some Jvm.ClassFile.FieldType.int), Jvm.Cond.code ({ cls := "com/example/tempogate/tempogate/rules/Window", name := "type", desc := "()Lcom/example/tempogate/tempogate/rules/Window$Type;" } : Jvm.MethodName) prog_21_method_7_code (1 : Nat) (Option.some (Jvm.ClassFile.FieldType.object "com/example/tempogate/tempogate/rules/Window$Type")), Jvm.Cond.code ({ cls := "java/lang/Enum", name := "ordinal", desc := "()I" } : Jvm.MethodName) jdk_37_method_2_code (1 : Nat) (Option.some Jvm.ClassFile.FieldType.int), Jvm.Cond.code ({ cls := "com/example/tempogate/tempogate/rules/Window", name := "millis", desc := "()J" } : Jvm.MethodName) prog_21_method_8_code (1 : Nat) (Option.some Jvm.ClassFile.FieldType.long), Jvm.Cond.code ({ cls := "com/example/tempogate/tempogate/gate/AdmissionTimes", name := "forgetThrough", desc := "(J)V" } : Jvm.MethodName) prog_2_method_5_code (3 : Nat) (Option.none : Option Jvm.ClassFile.FieldType), Jvm.Cond.code ({ cls := "com/example/tempogate/tempogate/gate/AdmissionTimes", name := "get", desc := "(I)J" } : Jvm.MethodName) prog_2_method_3_code (2 : Nat) (Option.some Jvm.ClassFile.FieldType.long)]
set_option maxRecDepth 65536 in
theorem codes_eq : words1.filter isCode = codes1 := rfl
theorem w_codes : ∀ c ∈ words1.filter isCode, c.before args0 about1 = true := by
  rw [codes_eq]
  intro c hc
  simp only [codes1, List.mem_cons, List.not_mem_nil, or_false] at hc
  rcases hc with rfl | rfl | rfl | rfl | rfl | rfl | rfl | rfl | rfl | rfl | rfl | rfl | rfl | rfl
  · exact w_c0
  · exact w_c1
  · exact w_c2
  · exact w_c3
  · exact w_c4
  · exact w_c5
  · exact w_c6
  · exact w_c7
  · exact w_c8
  · exact w_c9
  · exact w_c10
  · exact w_c11
  · exact w_c12
  · exact w_c13
set_option maxRecDepth 65536 in
theorem w_t1 : (words1.take 24).all (fun c => isCode c || c.before args0 about1) = true := by decide +kernel
set_option maxRecDepth 65536 in
theorem w_t2 : ((words1.drop 24).take 24).all (fun c => isCode c || c.before args0 about1) = true := by decide +kernel
set_option maxRecDepth 65536 in
theorem w_t3 : (((words1.drop 24).drop 24).take 24).all (fun c => isCode c || c.before args0 about1) = true := by decide +kernel
set_option maxRecDepth 65536 in
theorem w_t4 : ((((words1.drop 24).drop 24).drop 24).take 24).all (fun c => isCode c || c.before args0 about1) = true := by decide +kernel
set_option maxRecDepth 65536 in
theorem w_t5 : ((((words1.drop 24).drop 24).drop 24).drop 24).all (fun c => isCode c || c.before args0 about1) = true := by decide +kernel
theorem w_tables : (allAtoms (Jvm.Cond.code x code maxLocals ret :: tables_1)).before args0 about1 = true := by
  rw [allAtoms_all]
  show words1.all (fun c => c.before args0 about1) = true
  refine all_split ?_ w_codes
  rw [← List.take_append_drop 24 words1, List.all_append, w_t1, ← List.take_append_drop 24 (words1.drop 24), List.all_append, w_t2, ← List.take_append_drop 24 ((words1.drop 24).drop 24), List.all_append, w_t3, ← List.take_append_drop 24 (((words1.drop 24).drop 24).drop 24), List.all_append, w_t4, w_t5]
  rfl
set_option maxRecDepth 65536 in
theorem w_case : (Jvm.Cond.and given_1 narrow_1).before args0 about1 = true := by decide +kernel
theorem w_applies : (headSpec (Jvm.Cond.code x code maxLocals ret :: tables_1) room_1).applies x e0.platform about1 = true :=
  (Spec.applies_iff w_frames).mpr ⟨w_running, w_runnable, w_alone, w_named, w_hears, w_ripe, w_room, w_tables⟩
theorem atStart : AtStart classFile x code maxLocals ret World_1 tables_1 room_1 Calls_1 rest_1 Pre_1 launch0 p0 e0 about1 theMethod args0 below0 :=
  ⟨lists_1, trivial, launch0.admits_env _ _ _, launch0.least_env, fairChoices_fair.cas, fairChoices_fair.clock, w_frames, w_args, w_heap, w_applies, trivial, trivial, w_case⟩
end start1
theorem witness_1 : WitnessClaimed_1 := ⟨start1.p0, start1.e0, start1.about1, start1.theMethod, start1.args0, start1.below0, start1.atStart⟩
end Jvm.Pilot.@@N@@
