import JvmDerived
import JvmDerived.Pilot.@@N@@Statement
import JvmDerived.Pilot.@@N@@Code
set_option linter.unusedVariables false
set_option linter.unusedSimpArgs false
namespace Jvm.RoadKit
open Sem ClassFile Op Lib Jvm.Stand Jvm.Free Jvm.LawKit
section New
variable {p : Program} {l : Launch} {e : Env} {R : Room} {s : State} {m : MethodId} {args : Array Value} {below : List Frame} {meth : Method} {c : Code} {T : State} {locs : List Loc} {cells slots : Nat}
theorem retI (X : Stand p l e R s m args below meth c T locs cells slots) (hx : p.tables.exec = Jvm.exec) {pc : Nat} {Ls : Array Slot} {z : Int32} {rest : List Value} (hret : meth.sig.returnType = some .int) (hd : decode c.code pc = .ok (.ireturn, 1)) {fs : List Frame}
    (hl : ∀ (f : JFrame) (acts : List Action), f.method = m → f.locked = none → f.entered = [] → (doReturn e (T.setTop f) acts (some (.int z))).1 = T.setFrames fs) : Steps p.tables e below (T.setTop (mkF m pc Ls (.int z :: rest))) (T.setFrames fs) :=
  retOut X hx hret rfl (Or.inl ⟨rfl, Or.inl rfl, z, rfl⟩) hd hl
theorem retL (X : Stand p l e R s m args below meth c T locs cells slots) (hx : p.tables.exec = Jvm.exec) {pc : Nat} {Ls : Array Slot} {z : Int64} {rest : List Value} (hret : meth.sig.returnType = some .long) (hd : decode c.code pc = .ok (.lreturn, 1)) {fs : List Frame}
    (hl : ∀ (f : JFrame) (acts : List Action), f.method = m → f.locked = none → f.entered = [] → (doReturn e (T.setTop f) acts (some (.long z))).1 = T.setFrames fs) : Steps p.tables e below (T.setTop (mkF m pc Ls (.long z :: rest))) (T.setFrames fs) :=
  retOut X hx hret rfl (Or.inr (Or.inl ⟨rfl, rfl, z, rfl⟩)) hd hl
theorem own_retD (X : Stand p l e R s m args below meth c T locs cells slots) (hx : p.tables.exec = Jvm.exec) {pc : Nat} {Ls : Array Slot} {z : UInt64} {rest : List Value} (hret : meth.sig.returnType = some .double) (hd : decode c.code pc = .ok (.dreturn, 1)) {fs : List Frame}
    (hl : ∀ (f : JFrame) (acts : List Action), f.method = m → f.locked = none → f.entered = [] → (doReturn e (T.setTop f) acts (some (.double z))).1 = T.setFrames fs) : Steps p.tables e below (T.setTop (mkF m pc Ls (.double z :: rest))) (T.setFrames fs) :=
  retOut X hx hret rfl (Or.inr (Or.inr (Or.inl ⟨rfl, rfl, z, rfl⟩))) hd hl
theorem own_nar {t : FieldType} {w : Value} (ht : t.isReference = true) (hw : w.isRef = true) : narrow t w = w := by
  cases t <;> first | (cases ht; done) | (cases w <;> first | rfl | (cases hw; done))
theorem retA (X : Stand p l e R s m args below meth c T locs cells slots) (hx : p.tables.exec = Jvm.exec) {pc : Nat} {Ls : Array Slot} {w : Value} {t : FieldType} {rest : List Value} (hret : meth.sig.returnType = some t) (ht : t.isReference = true) (hw : w.isRef = true) (hd : decode c.code pc = .ok (.areturn, 1)) {fs : List Frame}
    (hl : ∀ (f : JFrame) (acts : List Action), f.method = m → f.locked = none → f.entered = [] → (doReturn e (T.setTop f) acts (some w)).1 = T.setFrames fs) : Steps p.tables e below (T.setTop (mkF m pc Ls (w :: rest))) (T.setFrames fs) :=
  retOut X hx hret (own_nar ht hw) (Or.inr (Or.inr (Or.inr (Or.inr ⟨rfl, ht, hw⟩)))) hd hl
/-- the rest of a walk, as a predicate on where it stands -/
theorem own_open (K N : Nat) (Q : Option Value → Heap → List Loc → Prop) (hlocks : meth.locks = false) :
    ∃ G : State → JFrame → Prop,
      (∀ {T T' : State} {g g' : JFrame}, (∀ t, Steps p.tables e below (T'.setTop g') t → Steps p.tables e below (T.setTop g) t) → G T' g' → G T g) ∧
      (∀ {T : State} {g : JFrame} {locs : List Loc} {cells slots : Nat} {v : Option Value} {h : Heap}, Stand p l e R s m args below meth c T locs cells slots → (meth.sig.returnType = none → v = none) →
        (∀ fs, (∀ (f : JFrame) (acts : List Action), f.method = m → f.locked = none → f.entered = [] → (doReturn e (T.setTop f) acts v).1 = T.setFrames fs) → Steps p.tables e below (T.setTop g) (T.setFrames fs)) → T.heap = h → Q v h locs → cells ≤ K → slots ≤ N → G T g) ∧
      (∀ {T : State} {g : JFrame}, G T g → ∃ t o, Steps p.tables e below (T.setTop g) t ∧ t.status = .running ∧ Ended t below o ∧ ∃ v L, o = .returned v ∧ Q v t.heap L ∧ FrameEnd s o t L K N) := by
  refine ⟨fun T g => ∃ t o, Steps p.tables e below (T.setTop g) t ∧ t.status = .running ∧ Ended t below o ∧ ∃ v L, o = .returned v ∧ Q v t.heap L ∧ FrameEnd s o t L K N, ?_, ?_, fun h => h⟩
  · intro T T' g g' hs hG
    obtain ⟨t, o, h1, h2⟩ := hG
    exact ⟨t, o, hs t h1, h2⟩
  · intro T g locs cells slots v h X hv hst hT hQ hk hn
    obtain ⟨fs, hr, hrun, hended, hW, hsame⟩ := X.leave hv hlocks
    exact ⟨_, _, hst fs hr, hrun, hended, v, locs, rfl, by show Q v T.heap locs; rw [hT]; exact hQ, ⟨_, rfl⟩, hW, hsame.mono hk hn⟩
theorem own_openW (K N : Nat) (Q : Option Value → Heap → List Loc → Prop) (hlocks : meth.locks = false) :
    ∃ G : State → JFrame → Prop,
      (∀ {T T' : State} {g g' : JFrame}, (∀ t, Steps p.tables e below (T'.setTop g') t → Steps p.tables e below (T.setTop g) t) → G T' g' → G T g) ∧
      (∀ {T : State} {g : JFrame} {locs : List Loc} {cells slots : Nat} {v : Option Value} {h : Heap} {vm0 : Vm} {k0 : Nat}, Stand p l e R (s.setVm vm0) m args below meth c T locs cells slots → s.Since vm0 k0 → k0 ≤ h.size → (meth.sig.returnType = none → v = none) →
        (∀ fs, (∀ (f : JFrame) (acts : List Action), f.method = m → f.locked = none → f.entered = [] → (doReturn e (T.setTop f) acts v).1 = T.setFrames fs) → Steps p.tables e below (T.setTop g) (T.setFrames fs)) → T.heap = h → Q v h locs → cells ≤ K → slots ≤ N → G T g) ∧
      (∀ {T : State} {g : JFrame}, G T g → ∃ t o, Steps p.tables e below (T.setTop g) t ∧ t.status = .running ∧ Ended t below o ∧ ∃ v L, o = .returned v ∧ Q v t.heap L ∧ ReturnedEndW s o t L K N) := by
  refine ⟨fun T g => ∃ t o, Steps p.tables e below (T.setTop g) t ∧ t.status = .running ∧ Ended t below o ∧ ∃ v L, o = .returned v ∧ Q v t.heap L ∧ ReturnedEndW s o t L K N, ?_, ?_, fun h => h⟩
  · intro T T' g g' hs hG
    obtain ⟨t, o, h1, h2⟩ := hG
    exact ⟨t, o, hs t h1, h2⟩
  · intro T g locs cells slots v h vm0 k0 X hS hk0 hv hst hT hQ hk hn
    obtain ⟨fs, hr, hrun, hended, hW⟩ := X.leaveW hS (by rw [hT]; exact hk0) hv hlocks
    exact ⟨_, _, hst fs hr, hrun, hended, v, locs, rfl, by show Q v T.heap locs; rw [hT]; exact hQ, hW.1, hW.2.1, hW.2.2.1, hW.2.2.2.mono hk hn⟩
theorem own_at {j : Int32} {i : Nat} {vs : List Value} {d v : Value} (hj : j.toNatClampNeg = i) (h : vs.getD i d = v) : vs.getD j.toNatClampNeg d = v := hj ▸ h
theorem own_gen {n0 : Nat} (X : Stand p l e R s m args below meth c T locs cells slots) (N : Fr n0 locs) : ∃ lc, Stand p l e R s m args below meth c T lc cells slots ∧ Fr n0 lc := ⟨_, X, N⟩
theorem own_sl (a : Array Slot) : ∃ z, z = a := ⟨_, rfl⟩
theorem own_xlt {x y : Int32} : x < y ↔ x.toInt < y.toInt := Int32.lt_iff_toInt_lt
theorem own_xeq {x y : Int32} : x = y ↔ x.toInt = y.toInt := Int32.toInt_inj.symm
theorem own_xltL {x y : Int64} : x < y ↔ x.toInt < y.toInt := Int64.lt_iff_toInt_lt
theorem own_xeqL {x y : Int64} : x = y ↔ x.toInt = y.toInt := Int64.toInt_inj.symm
theorem own_old_le {Z : State} {n0 : Nat} {h : Heap} (O : Old Z n0 h) : n0 ≤ h.size := O.1 ▸ O.2.1
theorem own_oldne {Z : State} {n0 : Nat} {h : Heap} {a b : Addr} (O : Old Z n0 h) (q : a < Z.heap.size) (r : n0 ≤ b) : a ≠ b := O.ne q r
theorem own_fldI {Z : State} {args : Array Value} {t : Term} {C f d : String} {a : Addr} {k : Int32} (ht : t.eval args Z none [] Z = some (.ref a)) (h : (Cond.eq (.field t C f d) (.int k)).value args Z none Z [] = some true) : Fld Z Z.heap a C f d (.int k) := by
  refine Fld.start ?_
  rw [← fld_at (C := C) (n := f) (dd := d) ht]
  obtain ⟨x, y, h1, h2, h3, h4⟩ := cmp_v (Or.inl h)
  have h5 : y = .int k := Option.some.inj (h2.symm.trans (Term.int_eval k))
  subst h5
  obtain ⟨z, rfl⟩ := h4
  have := gotT (P := z = k) (by simp [Cond.value, h1, h2]) h
  rw [h1, this]
theorem own_fldD {Z : State} {args : Array Value} {t : Term} {C f d : String} {a : Addr} {k : Int64} {b : UInt64} (hb : k.toUInt64 = b) (ht : t.eval args Z none [] Z = some (.ref a)) (h : (Cond.eq (.field t C f d) (.op1 .bitsD (.long k))).value args Z none Z [] = some true) : Fld Z Z.heap a C f d (.double b) := by
  refine Fld.start ?_
  rw [← fld_at (C := C) (n := f) (dd := d) ht]
  obtain ⟨x, y, h1, h2, h3, h4⟩ := cmp_v (Or.inl h)
  have h5 : y = .double k.toUInt64 := Option.some.inj (h2.symm.trans rfl)
  subst h5
  obtain ⟨z, rfl⟩ := h4
  have := gotT (P := z = k.toUInt64) (by simp [Cond.value, h1, h2]) h
  rw [h1, this, hb]
theorem own_dnn {a b : UInt64} (ha : Jvm.Free.Fl.NoNaN64 a) (hb : FP.Core.DFin b) (hz : ¬ FP.Core.DZero b) : Jvm.Free.Fl.NoNaN64 (FP.ddiv a b) := by
  refine Jvm.Free.Fl.val64_no.mpr fun q => ?_
  have q2 := (FP.Core.quotient_nan FP.Core.b64 _ _).mp ((FP.Core.val64_ddiv a b).symm.trans q)
  rcases q2 with h | h | ⟨s, t, h1, h2⟩ | ⟨s, t, q, r, h1, h2⟩
  · exact Jvm.Free.Fl.val64_no.mp ha h
  · exact hb.ne_nan h
  · exact hb.ne_inf t h2
  · exact hz ⟨t, r, h2⟩
theorem own_i2dn (x : Int32) : Jvm.Free.Fl.NoNaN64 (FP.i2d x) := Jvm.Free.Fl.noNaN64_no.mpr (FP.Core.i2d_fin x).notNaN
theorem own_i2dz {x : Int32} (h : x ≠ 0) : ¬ FP.Core.DZero (FP.i2d x) := fun q => FP.Core.i2d_ne_zero h ((FP.Core.zero_bits2 _).mp q)
theorem own_and255 (x : Int32) : ¬ (x &&& (255 : Int32)) < 0 ∧ ¬ (255 : Int32) < (x &&& (255 : Int32)) := by
  have c1 := c_mask x (255 : Int32) 8 (by decide) (by decide)
  have q0 : (0 : Int32).toInt = 0 := by decide
  have q1 : (255 : Int32).toInt = 255 := by decide
  rw [own_xlt, own_xlt]
  omega
theorem own_l255 (x : Int64) : ¬ (x &&& (255 : Int64)).toInt32 < 0 ∧ ¬ (255 : Int32) < (x &&& (255 : Int64)).toInt32 := by
  have c1 := c_maskL x (255 : Int64) 8 (by decide) (by decide)
  have c2 := c_l2i (x &&& (255 : Int64))
  have r := rng32 (x &&& (255 : Int64)).toInt32
  have q0 : (0 : Int32).toInt = 0 := by decide
  have q1 : (255 : Int32).toInt = 255 := by decide
  rw [own_xlt, own_xlt]
  omega
theorem own_i2c {x : Int32} (h : ¬ x < 0 ∧ ¬ (255 : Int32) < x) : x.toUInt32.toUInt16.toUInt32.toInt32 = x := by
  have c1 := c_i2c x
  have q0 : (0 : Int32).toInt = 0 := by decide
  have q1 : (255 : Int32).toInt = 255 := by decide
  rw [own_xlt, own_xlt] at h
  rw [own_xeq]
  omega
theorem own_narc {x : Int32} (h : ¬ x < 0 ∧ ¬ (255 : Int32) < x) : nar .char x = x := own_i2c h
theorem own_nz {Z : State} {args : Array Value} {t : Term} {z : Int32} (ht : t.eval args Z none [] Z = some (.int z)) (h : (Cond.not (Cond.eq t (.int 0))).value args Z none Z [] = some true) : ¬ z = (0 : Int32) :=
  gotF (P := z = (0 : Int32)) (by simp [Cond.value, ht, Term.int_eval]) (not_v h)
theorem own_evI {Z : State} {args : Array Value} {u : Term} {k : Int32} (h : (Cond.eq u (.int k)).value args Z none Z [] = some true) : u.eval args Z none [] Z = some (.int k) := by
  obtain ⟨x, y, h1, h2, h3, h4⟩ := cmp_v (Or.inl h)
  have h5 : y = .int k := Option.some.inj (h2.symm.trans (Term.int_eval k))
  subst h5
  obtain ⟨z, rfl⟩ := h4
  have := gotT (P := z = k) (by simp [Cond.value, h1, h2]) h
  rw [h1, this]
theorem own_slotI {Z : State} {args : Array Value} {t : Term} {a : Addr} {i k : Int32} {cl : Cell} (ht : t.eval args Z none [] Z = some (.ref a)) (hc : Z.heap[a]? = some cl) (h : (Cond.eq (.elem t (.int i)) (.int k)).value args Z none Z [] = some true) : cl.slots[i.toNatClampNeg]? = some (.int k) :=
  (elem_in (own_evI h) ht (Term.int_eval i) hc).2
theorem own_lenI {Z : State} {args : Array Value} {t : Term} {a : Addr} {n : Int32} {cl : Cell} {ty : FieldType} (ht : t.eval args Z none [] Z = some (.ref a)) (A : Arr Z Z.heap a cl ty) (h : (Cond.eq (.length t) (.int n)).value args Z none Z [] = some true) : cl.slots.size < 2 ^ 31 ∧ cl.slots.size.toInt32 = n := by
  have hh := A.fin (Vm.Alike.refl _)
  have q := own_evI h
  simp only [Term.eval, ht, hh, Option.bind_eq_bind, Option.bind_some] at q
  split at q
  · rename_i hlt
    exact ⟨hlt, Value.int.inj (Option.some.inj q)⟩
  · cases q
theorem own_fldN {Z : State} {args : Array Value} {t : Term} {C f d : String} {a : Addr} (ht : t.eval args Z none [] Z = some (.ref a)) (h : (Cond.eq (.field t C f d) .null).value args Z none Z [] = some true) : Fld Z Z.heap a C f d .null := by
  refine Fld.start ?_
  rw [← fld_at (C := C) (n := f) (dd := d) ht]
  exact null_v h
theorem own_selpriv {Z s : State} {a0 args : Array Value} {y : MethodName} {n : Nat} (hZ : Z.Warmed39 s.vm) (wp : (Cond.privateMethod y).before a0 Z = true) (wi : (Cond.instanceMethod y).before a0 Z = true) (wk : (Cond.instantiable y.cls n).before a0 Z = true) (hy : y.cls ≠ "java/lang/invoke/MethodHandle" ∧ y.cls ≠ "java/lang/invoke/VarHandle") : (Cond.selects y.cls y y).before args s = true := by
  obtain ⟨c, k, h1, h2, -, h3, -⟩ := Cond.instantiable_spec (mv (s := s) (args := args) hZ wk)
  exact selects_self_of_private h1 h2 (Bool.or_eq_false_iff.mp h3).1 (Cond.privateMethod_at (mvP hZ wp (args := args))) (mv hZ wi) hy
theorem own_ne_arv {Z : State} {h : Heap} {a b : Addr} {C : String} {a0 : Array Value} {i : Nat} {k : ClassId} {ty : FieldType} {n : Int32} {vs : List Value} {dv : Value} (F : Exa Z h a C) (wi : (Cond.instantiable C i).before a0 Z = true) (V : Arv Z h b k ty n vs dv) : a ≠ b := by
  obtain ⟨cl, A, -⟩ := V
  exact ne_arr F wi A
theorem own_arr_keep {Z : State} {h h' : Heap} {a : Addr} {cl : Cell} {ty : FieldType} {ws : List Addr} (F : Arr Z h a cl ty) (K : Keep h h' ws) (q : a ∉ ws) : Arr Z h' a cl ty := ⟨K.2.1 a cl F.1 q, F.2⟩
section Arrays
variable {Z : State} {h : Heap} {a : Addr} {k : ClassId} {n : Int32} {vs : List Value} {dv : Value} {g : JFrame} {rest : List Value} {j : Int32} {v : Value}
theorem own_len {ty : FieldType} (X : Stand p l e R s m args below meth c T locs cells slots) (hx : p.tables.exec = Jvm.exec) (hZ : Z.Warmed39 s.vm) (eT : T.heap = h) (V : Arv Z h a k ty n vs dv) (hg : g.method = m) (hs : g.stack = .ref a :: rest) (hd : decode c.code g.pc = .ok (.arraylength, 1)) (target : State)
    (hr : Steps p.tables e below (T.setTop { g with pc := g.pc + 1, stack := .int n :: rest }) target) : Steps p.tables e below (T.setTop g) target := by
  obtain ⟨cl, A, -, S, N, -, -⟩ := V
  refine X.arraylength hx (by rw [eT]; exact A.1) (State.isArrayOf_alike hZ.alike A.2.1) hg hs hd target ?_
  rw [len_of S N]; exact hr
theorem own_ldI (X : Stand p l e R s m args below meth c T locs cells slots) (hx : p.tables.exec = Jvm.exec) (hZ : Z.Warmed39 s.vm) (eT : T.heap = h) (V : Arv Z h a k .int n vs dv) (hj : ¬ j < 0 ∧ j < n) (hv : vs.getD j.toNatClampNeg dv = v) (hg : g.method = m) (hs : g.stack = .int j :: .ref a :: rest) (hd : decode c.code g.pc = .ok (.iaload, 1)) (target : State)
    (hr : Steps p.tables e below (T.setTop { g with pc := g.pc + 1, stack := v :: rest }) target) : Steps p.tables e below (T.setTop g) target := by
  obtain ⟨cl, A, -, S, N, H, -⟩ := V
  have hin := inb_of S hj
  exact X.iaload hx (by rw [eT]; exact A.1) (State.isArrayOf_alike hZ.alike A.2.1) A.2.2 hin (H.at hin hv) hg hs hd target hr
theorem own_ldJ (X : Stand p l e R s m args below meth c T locs cells slots) (hx : p.tables.exec = Jvm.exec) (hZ : Z.Warmed39 s.vm) (eT : T.heap = h) (V : Arv Z h a k .long n vs dv) (hj : ¬ j < 0 ∧ j < n) (hv : vs.getD j.toNatClampNeg dv = v) (hg : g.method = m) (hs : g.stack = .int j :: .ref a :: rest) (hd : decode c.code g.pc = .ok (.laload, 1)) (target : State)
    (hr : Steps p.tables e below (T.setTop { g with pc := g.pc + 1, stack := v :: rest }) target) : Steps p.tables e below (T.setTop g) target := by
  obtain ⟨cl, A, -, S, N, H, -⟩ := V
  have hin := inb_of S hj
  exact X.laload hx (by rw [eT]; exact A.1) (State.isArrayOf_alike hZ.alike A.2.1) A.2.2 hin (H.at hin hv) hg hs hd target hr
theorem own_ldC (X : Stand p l e R s m args below meth c T locs cells slots) (hx : p.tables.exec = Jvm.exec) (hZ : Z.Warmed39 s.vm) (eT : T.heap = h) (V : Arv Z h a k .char n vs dv) (hj : ¬ j < 0 ∧ j < n) (hv : vs.getD j.toNatClampNeg dv = v) (hg : g.method = m) (hs : g.stack = .int j :: .ref a :: rest) (hd : decode c.code g.pc = .ok (.caload, 1)) (target : State)
    (hr : Steps p.tables e below (T.setTop { g with pc := g.pc + 1, stack := v :: rest }) target) : Steps p.tables e below (T.setTop g) target := by
  obtain ⟨cl, A, -, S, N, H, -⟩ := V
  have hin := inb_of S hj
  exact X.caload hx (by rw [eT]; exact A.1) (State.isArrayOf_alike hZ.alike A.2.1) A.2.2 hin (H.at hin hv) hg hs hd target hr
theorem own_ldB (X : Stand p l e R s m args below meth c T locs cells slots) (hx : p.tables.exec = Jvm.exec) (hZ : Z.Warmed39 s.vm) (eT : T.heap = h) (V : Arv Z h a k .byte n vs dv) (hj : ¬ j < 0 ∧ j < n) (hv : vs.getD j.toNatClampNeg dv = v) (hg : g.method = m) (hs : g.stack = .int j :: .ref a :: rest) (hd : decode c.code g.pc = .ok (.baload, 1)) (target : State)
    (hr : Steps p.tables e below (T.setTop { g with pc := g.pc + 1, stack := v :: rest }) target) : Steps p.tables e below (T.setTop g) target := by
  obtain ⟨cl, A, -, S, N, H, -⟩ := V
  have hin := inb_of S hj
  exact X.baloadBytes hx (by rw [eT]; exact A.1) (State.isArrayOf_alike hZ.alike A.2.1) A.2.2 hin (H.at hin hv) hg hs hd target hr
theorem own_ldR {ty : FieldType} (X : Stand p l e R s m args below meth c T locs cells slots) (hx : p.tables.exec = Jvm.exec) (hZ : Z.Warmed39 s.vm) (eT : T.heap = h) (V : Arv Z h a k ty n vs dv) (hj : ¬ j < 0 ∧ j < n) (hv : vs.getD j.toNatClampNeg dv = v) (hty : ty.isReference = true) (hg : g.method = m) (hs : g.stack = .int j :: .ref a :: rest) (hd : decode c.code g.pc = .ok (.aaload, 1)) (target : State)
    (hr : Steps p.tables e below (T.setTop { g with pc := g.pc + 1, stack := v :: rest }) target) : Steps p.tables e below (T.setTop g) target := by
  obtain ⟨cl, A, -, S, N, H, -⟩ := V
  have hin := inb_of S hj
  exact X.aaload hx (by rw [eT]; exact A.1) (State.isArrayOf_alike hZ.alike A.2.1) hty A.2.2 hin (H.at hin hv) hg hs hd target hr
theorem own_stI {x : Int32} (X : Stand p l e R s m args below meth c T locs cells slots) (hx : p.tables.exec = Jvm.exec) (hZ : Z.Warmed39 s.vm) (eT : T.heap = h) (V : Arv Z h a k .int n vs dv) (hj : ¬ j < 0 ∧ j < n) {i : Nat} (hji : j.toNatClampNeg = i) (hi : i < vs.length) (hg : g.method = m) (hs : g.stack = .int x :: .int j :: .ref a :: rest) (hd : decode c.code g.pc = .ok (.iastore, 1)) :
    ∃ T' h', Stand p l e R s m args below meth c T' (locs ++ [⟨a, j.toNatClampNeg⟩]) cells slots ∧ T'.heap = h' ∧ Wr h h' a j.toNatClampNeg (.int x) ∧ Arv Z h' a k .int n (vs.set i (.int x)) dv ∧ ∀ target, Steps p.tables e below (T'.setTop { g with pc := g.pc + 1, stack := rest }) target → Steps p.tables e below (T.setTop g) target := by
  obtain ⟨cl, A, q, S, N, H, Gf⟩ := V
  obtain ⟨T', h', X', e', W', st⟩ := stI X hx hZ eT A (inb_of S hj) hg hs hd
  exact ⟨T', h', X', e', W', Arv.set A q S N H Gf rfl W' i hji hi, st⟩
theorem own_stJ {x : Int64} (X : Stand p l e R s m args below meth c T locs cells slots) (hx : p.tables.exec = Jvm.exec) (hZ : Z.Warmed39 s.vm) (eT : T.heap = h) (V : Arv Z h a k .long n vs dv) (hj : ¬ j < 0 ∧ j < n) {i : Nat} (hji : j.toNatClampNeg = i) (hi : i < vs.length) (hg : g.method = m) (hs : g.stack = .long x :: .int j :: .ref a :: rest) (hd : decode c.code g.pc = .ok (.lastore, 1)) :
    ∃ T' h', Stand p l e R s m args below meth c T' (locs ++ [⟨a, j.toNatClampNeg⟩]) cells slots ∧ T'.heap = h' ∧ Wr h h' a j.toNatClampNeg (.long x) ∧ Arv Z h' a k .long n (vs.set i (.long x)) dv ∧ ∀ target, Steps p.tables e below (T'.setTop { g with pc := g.pc + 1, stack := rest }) target → Steps p.tables e below (T.setTop g) target := by
  obtain ⟨cl, A, q, S, N, H, Gf⟩ := V
  obtain ⟨T', h', X', e', W', st⟩ := stJ X hx hZ eT A (inb_of S hj) hg hs hd
  exact ⟨T', h', X', e', W', Arv.set A q S N H Gf rfl W' i hji hi, st⟩
theorem own_stC {x : Int32} (X : Stand p l e R s m args below meth c T locs cells slots) (hx : p.tables.exec = Jvm.exec) (hZ : Z.Warmed39 s.vm) (eT : T.heap = h) (V : Arv Z h a k .char n vs dv) (hj : ¬ j < 0 ∧ j < n) {i : Nat} (hji : j.toNatClampNeg = i) (hi : i < vs.length) (hg : g.method = m) (hs : g.stack = .int x :: .int j :: .ref a :: rest) (hd : decode c.code g.pc = .ok (.castore, 1)) :
    ∃ T' h', Stand p l e R s m args below meth c T' (locs ++ [⟨a, j.toNatClampNeg⟩]) cells slots ∧ T'.heap = h' ∧ Wr h h' a j.toNatClampNeg (.int (nar .char x)) ∧ Arv Z h' a k .char n (vs.set i (.int (nar .char x))) dv ∧ ∀ target, Steps p.tables e below (T'.setTop { g with pc := g.pc + 1, stack := rest }) target → Steps p.tables e below (T.setTop g) target := by
  obtain ⟨cl, A, q, S, N, H, Gf⟩ := V
  obtain ⟨T', h', X', e', W', st⟩ := stC X hx hZ eT A (inb_of S hj) hg hs hd
  exact ⟨T', h', X', e', W', Arv.set A q S N H Gf (fits_nar_char _) W' i hji hi, st⟩
theorem own_stB {x : Int32} (X : Stand p l e R s m args below meth c T locs cells slots) (hx : p.tables.exec = Jvm.exec) (hZ : Z.Warmed39 s.vm) (eT : T.heap = h) (V : Arv Z h a k .byte n vs dv) (hj : ¬ j < 0 ∧ j < n) {i : Nat} (hji : j.toNatClampNeg = i) (hi : i < vs.length) (hg : g.method = m) (hs : g.stack = .int x :: .int j :: .ref a :: rest) (hd : decode c.code g.pc = .ok (.bastore, 1)) :
    ∃ T' h', Stand p l e R s m args below meth c T' (locs ++ [⟨a, j.toNatClampNeg⟩]) cells slots ∧ T'.heap = h' ∧ Wr h h' a j.toNatClampNeg (.int (nar .byte x)) ∧ Arv Z h' a k .byte n (vs.set i (.int (nar .byte x))) dv ∧ ∀ target, Steps p.tables e below (T'.setTop { g with pc := g.pc + 1, stack := rest }) target → Steps p.tables e below (T.setTop g) target := by
  obtain ⟨cl, A, q, S, N, H, Gf⟩ := V
  obtain ⟨T', h', X', e', W', st⟩ := stB X hx hZ eT A (inb_of S hj) hg hs hd
  exact ⟨T', h', X', e', W', Arv.set A q S N H Gf (fits_nar_byte _) W' i hji hi, st⟩
theorem own_stR {K : String} (X : Stand p l e R s m args below meth c T locs cells slots) (hx : p.tables.exec = Jvm.exec) (hZ : Z.Warmed39 s.vm) (eT : T.heap = h) (V : Arv Z h a k (.object K) n vs dv) (hj : ¬ j < 0 ∧ j < n) {i : Nat} (hji : j.toNatClampNeg = i) (hi : i < vs.length) (hS : ∀ {cl : Cell}, Arr Z h a cl (.object K) → cl.cls = k → Sto Z h a v) (hg : g.method = m) (hs : g.stack = v :: .int j :: .ref a :: rest) (hd : decode c.code g.pc = .ok (.aastore, 1)) (hf : fits (.object K) v = true := by rfl) :
    ∃ T' h', Stand p l e R s m args below meth c T' (locs ++ [⟨a, j.toNatClampNeg⟩]) cells slots ∧ T'.heap = h' ∧ Wr h h' a j.toNatClampNeg v ∧ Arv Z h' a k (.object K) n (vs.set i v) dv ∧ ∀ target, Steps p.tables e below (T'.setTop { g with pc := g.pc + 1, stack := rest }) target → Steps p.tables e below (T.setTop g) target := by
  obtain ⟨cl, A, q, S, N, H, Gf⟩ := V
  obtain ⟨T', h', X', e', W', st⟩ := stR X hx hZ eT A (inb_of S hj) rfl (hS A q) hg hs hd
  exact ⟨T', h', X', e', W', Arv.set A q S N H Gf hf W' i hji hi, st⟩
end Arrays
end New
end Jvm.RoadKit
/- laws to paste: Road.backV, Road.eqW, Road.codOf (cut by pick.py; bodies as the Statement names them) -/
namespace Jvm.Pilot.@@N@@
namespace StrChars
open Jvm Sem ClassFile Op Lib Jvm.Stand Jvm.Free.XT Jvm.Free.ALB Jvm.Free.JM Jvm.Free
open Jvm.Lib.Cold (StaticIs)
/-- a char array whose places are chars -/
def Ch (a : Addr) (A : Cell) (U : State) : Prop := Arr .char a A U ∧ Typed .char A
theorem Ch.mv {a : Addr} {A : Cell} {U U' : State} (h : Ch a A U) (hal : U.vm.Alike U'.vm) (hh : U'.heap = U.heap) : Ch a A U' := ⟨h.1.mv hal hh, h.2⟩
theorem Ch.keep {a : Addr} {A : Cell} {U U' : State} (h : Ch a A U) (hal : U.vm.Alike U'.vm) (hk : U'.heap[a]? = some A) : Ch a A U' := ⟨h.1.keep hal hk, h.2⟩
/-- what place i of a char[]'s cell holds -/
def cv (A : Cell) (i : Nat) : Int32 := match A.slots[i]? with | some (.int x) => x | _ => 0
theorem Ch.get {a : Addr} {A : Cell} {U : State} (h : Ch a A U) {i : Nat} (hi : i < A.slots.size) : A.slots[i]? = some (.int (cv A i)) := by
  have e := Array.getElem?_eq_getElem hi
  have f := h.2 i _ e
  unfold cv; rw [e]
  generalize A.slots[i] = v at f
  cases v <;> simp [fits] at f ⊢
/-- the byte that i2b leaves of a char -/
def lo8 (x : Int32) : Int32 := x.toInt8.toInt32
theorem fits_lo8 (y : Int32) : fits .byte (.int (lo8 y)) = true := by
  have h1 := y.toInt8.le_toInt
  have h2 := y.toInt8.toInt_lt
  simp only [lo8, fits, Bool.and_eq_true, decide_eq_true_eq, Int32.le_iff_toInt_le, Int8.toInt_toInt32, show (-128 : Int32).toInt = -128 from by decide, show (127 : Int32).toInt = 127 from by decide]
  omega
/-- A' is A but that each place j of lo .. hi - 1 holds f j -/
def Laid (A A' : Cell) (lo hi : Nat) (f : Nat → Value) : Prop := A'.cls = A.cls ∧ A'.vm = A.vm ∧ A'.slots.size = A.slots.size ∧ ∀ i, A'.slots[i]? = if lo ≤ i ∧ i < hi then some (f i) else A.slots[i]?
theorem Laid.zero (A : Cell) (lo : Nat) (f : Nat → Value) : Laid A A lo (lo + 0) f := ⟨rfl, rfl, rfl, fun i => by rw [if_neg (by omega)]⟩
theorem Laid.step {A Ak : Cell} {lo k : Nat} {f : Nat → Value} {v : Value} (h : Laid A Ak lo k f) (hlo : lo ≤ k) (hk : k < Ak.slots.size) (hv : v = f k) : Laid A (Ak.setSlot k v) lo (k + 1) f := by
  refine ⟨h.1, h.2.1, by simpa [Cell.setSlot] using h.2.2.1, fun i => ?_⟩
  by_cases e : k = i
  · subst e; rw [Cell.slots_setSlot_self v hk, if_pos (by omega), hv]
  · rw [Cell.slots_setSlot_ne v e, h.2.2.2 i]
    by_cases q : lo ≤ i ∧ i < k
    · rw [if_pos q, if_pos (by omega)]
    · rw [if_neg q, if_neg (by omega)]
def U16 : String := "java/lang/StringUTF16"
namespace Cmp5
def yN : MethodName := ⟨"java/lang/StringUTF16", "compress", "([CI[BII)I"⟩
abbrev yB : ByteArray := jdk_52_method_21_code
theorem d0 : decode yB 0 = .ok (.iconst 0, 1) := by decide +kernel
theorem d1 : decode yB 1 = .ok (.istore 5, 2) := by decide +kernel
theorem d3 : decode yB 3 = .ok (.iload 5, 2) := by decide +kernel
theorem d5 : decode yB 5 = .ok (.iload 4, 2) := by decide +kernel
theorem d7 : decode yB 7 = .ok (.if_icmp (.ge) 37, 3) := by decide +kernel
theorem d10 : decode yB 10 = .ok (.aload_n 0, 1) := by decide +kernel
theorem d11 : decode yB 11 = .ok (.iload_n 1, 1) := by decide +kernel
theorem d12 : decode yB 12 = .ok (.caload, 1) := by decide +kernel
theorem d13 : decode yB 13 = .ok (.istore 6, 2) := by decide +kernel
theorem d15 : decode yB 15 = .ok (.iload 6, 2) := by decide +kernel
theorem d17 : decode yB 17 = .ok (.sipush 255, 3) := by decide +kernel
theorem d20 : decode yB 20 = .ok (.if_icmp (.le) 6, 3) := by decide +kernel
theorem d26 : decode yB 26 = .ok (.aload_n 2, 1) := by decide +kernel
theorem d27 : decode yB 27 = .ok (.iload_n 3, 1) := by decide +kernel
theorem d28 : decode yB 28 = .ok (.iload 6, 2) := by decide +kernel
theorem d30 : decode yB 30 = .ok (.i2b, 1) := by decide +kernel
theorem d31 : decode yB 31 = .ok (.bastore, 1) := by decide +kernel
theorem d32 : decode yB 32 = .ok (.iinc 1 1, 3) := by decide +kernel
theorem d35 : decode yB 35 = .ok (.iinc 3 1, 3) := by decide +kernel
theorem d38 : decode yB 38 = .ok (.iinc 5 1, 3) := by decide +kernel
theorem d41 : decode yB 41 = .ok (.goto (-38), 3) := by decide +kernel
theorem d44 : decode yB 44 = .ok (.iload 4, 2) := by decide +kernel
theorem d46 : decode yB 46 = .ok (.ireturn, 1) := by decide +kernel
def site : List Cond := []
def tab : Cond := tabOf yN yB 7 (some .int) site
def P (b : Addr) (A : Cell) (d : Addr) (B : Cell) (o q len : Nat) (args : Array Value) (s : State) : Prop := args = #[.ref b, .int (Int32.ofNat o), .ref d, .int (Int32.ofNat q), .int (Int32.ofNat len)] ∧ Ch b A s ∧ Arr .byte d B s ∧ b ≠ d ∧ o + len ≤ A.slots.size ∧ q + len ≤ B.slots.size ∧ ∀ i, i < len → ¬ 255 < cv A (o + i)
def E (b : Addr) (A : Cell) (d : Addr) (B : Cell) (o q len : Nat) (r : Option Value) (s u : State) : Prop := r = some (.int (Int32.ofNat len)) ∧ ∃ B', Put d B' s u ∧ Laid B B' q (q + len) (fun j => Value.int (lo8 (cv A (o + (j - q)))))
/-- no char of the range above 255: len; the places written hold each char's low byte -/
theorem law (l : Launch) (b : Addr) (A : Cell) (d : Addr) (B : Cell) (o q len : Nat) : Law l yN 5 5 0 0 yB 7 (some .int) site (P b A d B o q len) (E b A d B o q len) (copyLocs d q len) 0 0 := by
  refine Law.of_walk (plainFor_of_name (by decide +kernel)) (by decide +kernel) (by decide +kernel) (by decide) (fun _ _ h => by rw [h.1]; rfl) (fun _ U U' hal hh h => ⟨h.1, h.2.1.mv hal hh, h.2.2.1.mv hal hh, h.2.2.2⟩) (fun r U U' V V' h1 hal h2 h => ⟨h.1, h.2.elim fun B' q => ⟨B', q.1.mv h1 h2, q.2⟩⟩) ?_
  intro p e s m args below meth c s₁ X0 hexec hbytes hml hret hlk hnm hown hh0 W hP
  obtain ⟨rfl, hA, hB, hne, l1, l2, hp⟩ := hP
  have c1 : Steps p.tables e below (s₁.setTop (entryFrame m #[.ref b, .int (Int32.ofNat o), .ref d, .int (Int32.ofNat q), .int (Int32.ofNat len)] 7)) (s₁.setTop (mkF m 0 #[.val (.ref b), .val (.int (Int32.ofNat o)), .val (.ref d), .val (.int (Int32.ofNat q)), .val (.int (Int32.ofNat len)), .unset, .unset] [])) := entry rfl
  have hA0 := hA.1.mv X0.warmed.alike hh0
  have hB0 := hB.mv X0.warmed.alike hh0
  have a31 := hA.1.2.2.2
  have c2 : Steps p.tables e below (s₁.setTop (entryFrame m #[.ref b, .int (Int32.ofNat o), .ref d, .int (Int32.ofNat q), .int (Int32.ofNat len)] 7)) (s₁.setTop (mkF m 3 #[.val (.ref b), .val (.int (Int32.ofNat o)), .val (.ref d), .val (.int (Int32.ofNat q)), .val (.int (Int32.ofNat len)), .val (.int 0), .unset] [])) := c1.trans (by
    refine iconstV X0.here hexec rfl 0 (hb hbytes d0) (by decide) ?_
    refine XS.istore X0.here hexec rfl (hb hbytes d1) rfl rfl ?_
    exact Steps.refl _)
  have loop : ∀ (r i : Nat), i + r = len → ∀ (z : Slot), (z = .unset ∨ ∃ w, z = .val w ∧ w.category = 1) → ∀ (Tl : State) (Bk : Cell), Stand p l e { frames := 0, locals := 0, cells := 0, slots := 0 } s m #[.ref b, .int (Int32.ofNat o), .ref d, .int (Int32.ofNat q), .int (Int32.ofNat len)] below meth c Tl ([] ++ copyLocs d q i) 0 0 → Put d Bk s₁ Tl → Laid B Bk q (q + i) (fun j => Value.int (lo8 (cv A (o + (j - q))))) →
      Steps p.tables e below (s₁.setTop (entryFrame m #[.ref b, .int (Int32.ofNat o), .ref d, .int (Int32.ofNat q), .int (Int32.ofNat len)] 7)) (Tl.setTop (mkF m 3 #[.val (.ref b), .val (.int (Int32.ofNat (o + i))), .val (.ref d), .val (.int (Int32.ofNat (q + i))), .val (.int (Int32.ofNat len)), .val (.int (Int32.ofNat i)), z] [])) → ∃ (T' : State) (B' : Cell) (z' : Slot), Stand p l e { frames := 0, locals := 0, cells := 0, slots := 0 } s m #[.ref b, .int (Int32.ofNat o), .ref d, .int (Int32.ofNat q), .int (Int32.ofNat len)] below meth c T' ([] ++ copyLocs d q len) 0 0 ∧ Put d B' s₁ T' ∧ Laid B B' q (q + len) (fun j => Value.int (lo8 (cv A (o + (j - q))))) ∧
      Steps p.tables e below (s₁.setTop (entryFrame m #[.ref b, .int (Int32.ofNat o), .ref d, .int (Int32.ofNat q), .int (Int32.ofNat len)] 7)) (T'.setTop (mkF m 3 #[.val (.ref b), .val (.int (Int32.ofNat (o + len))), .val (.ref d), .val (.int (Int32.ofNat (q + len))), .val (.int (Int32.ofNat len)), .val (.int (Int32.ofNat len)), z'] [])) := by
    intro r
    induction r with
    | zero =>
      intro i hi z hz Tl Bk Xl pl fl cl
      have hil : i = len := by omega
      rw [hil] at Xl fl cl
      exact ⟨Tl, Bk, z, Xl, pl, fl, cl⟩
    | succ r ih =>
      intro i hi z hz Tl Bk Xl pl fl cl
      have all := X0.warmed.alike.symm.trans Xl.warmed.alike
      have hAl := hA0.keep all (pl.other hne hA0.1)
      have hBk := hB0.like all pl.1 fl.1 fl.2.1 fl.2.2.1
      have hlt : q + i < Bk.slots.size := by rw [fl.2.2.1]; omega
      have c3 : Steps p.tables e below (s₁.setTop (entryFrame m #[.ref b, .int (Int32.ofNat o), .ref d, .int (Int32.ofNat q), .int (Int32.ofNat len)] 7)) (Tl.setTop (mkF m 12 #[.val (.ref b), .val (.int (Int32.ofNat (o + i))), .val (.ref d), .val (.int (Int32.ofNat (q + i))), .val (.int (Int32.ofNat len)), .val (.int (Int32.ofNat i)), z] [.int (Int32.ofNat (o + i)), .ref b])) := cl.trans (by
        refine XS.iload Xl.here hexec rfl (hb hbytes d3) rfl ?_
        refine XS.iload Xl.here hexec rfl (hb hbytes d5) rfl ?_
        refine XS.icmpNo Xl.here hexec rfl (hb hbytes d7) rfl (ii_ge_f (lt32 (by omega) (by omega))) ?_
        refine XS.aloadN Xl.here hexec rfl (hb hbytes d10) rfl rfl ?_
        refine XS.iloadN Xl.here hexec rfl (hb hbytes d11) rfl ?_
        exact Steps.refl _)
      have c4 : Steps p.tables e below (s₁.setTop (entryFrame m #[.ref b, .int (Int32.ofNat o), .ref d, .int (Int32.ofNat q), .int (Int32.ofNat len)] 7)) (Tl.setTop (mkF m 13 #[.val (.ref b), .val (.int (Int32.ofNat (o + i))), .val (.ref d), .val (.int (Int32.ofNat (q + i))), .val (.int (Int32.ofNat len)), .val (.int (Int32.ofNat i)), z] [.int (cv A (o + i))])) := c3.trans (by
        refine Xl.aget hexec hAl rfl (hA.get (i := o + i) (by omega)) rfl rfl (hb hbytes d12) ?_
        exact Steps.refl _)
      have c5 : Steps p.tables e below (s₁.setTop (entryFrame m #[.ref b, .int (Int32.ofNat o), .ref d, .int (Int32.ofNat q), .int (Int32.ofNat len)] 7)) (Tl.setTop (mkF m 15 #[.val (.ref b), .val (.int (Int32.ofNat (o + i))), .val (.ref d), .val (.int (Int32.ofNat (q + i))), .val (.int (Int32.ofNat len)), .val (.int (Int32.ofNat i)), .val (.int (cv A (o + i)))] [])) := c4.trans (by
        refine XS.istoreS Xl.here hexec rfl (hb hbytes d13) rfl rfl hz ?_
        exact Steps.refl _)
      have c6 : Steps p.tables e below (s₁.setTop (entryFrame m #[.ref b, .int (Int32.ofNat o), .ref d, .int (Int32.ofNat q), .int (Int32.ofNat len)] 7)) (Tl.setTop (mkF m 31 #[.val (.ref b), .val (.int (Int32.ofNat (o + i))), .val (.ref d), .val (.int (Int32.ofNat (q + i))), .val (.int (Int32.ofNat len)), .val (.int (Int32.ofNat i)), .val (.int (cv A (o + i)))] [.int (lo8 (cv A (o + i))), .int (Int32.ofNat (q + i)), .ref d])) := c5.trans (by
        refine XS.iload Xl.here hexec rfl (hb hbytes d15) rfl ?_
        refine sipushV Xl.here hexec rfl 255 (hb hbytes d17) (by decide) ?_
        refine XS.icmpYes Xl.here hexec rfl (pc0 := 20) rfl (hb hbytes d20) rfl (ii_le_t (hp i (by omega))) (by decide) rfl ?_
        refine XS.aloadN Xl.here hexec rfl (hb hbytes d26) rfl rfl ?_
        refine XS.iloadN Xl.here hexec rfl (hb hbytes d27) rfl ?_
        refine XS.iload Xl.here hexec rfl (hb hbytes d28) rfl ?_
        refine i2b Xl.here hexec rfl (hb hbytes d30) rfl ?_
        exact Steps.refl _)
      obtain ⟨T7, X7, p7, st7⟩ := Xl.aput hexec hBk rfl hlt rfl (fits_lo8 (cv A (o + i))) (g := (mkF m 31 #[.val (.ref b), .val (.int (Int32.ofNat (o + i))), .val (.ref d), .val (.int (Int32.ofNat (q + i))), .val (.int (Int32.ofNat len)), .val (.int (Int32.ofNat i)), .val (.int (cv A (o + i)))] [.int (lo8 (cv A (o + i))), .int (Int32.ofNat (q + i)), .ref d])) rfl (rest := []) rfl (hb hbytes d31)
      have c8 : Steps p.tables e below (s₁.setTop (entryFrame m #[.ref b, .int (Int32.ofNat o), .ref d, .int (Int32.ofNat q), .int (Int32.ofNat len)] 7)) (T7.setTop (mkF m 32 #[.val (.ref b), .val (.int (Int32.ofNat (o + i))), .val (.ref d), .val (.int (Int32.ofNat (q + i))), .val (.int (Int32.ofNat len)), .val (.int (Int32.ofNat i)), .val (.int (cv A (o + i)))] [])) := c6.trans (st7 _ (Steps.refl _))
      have c9 : Steps p.tables e below (s₁.setTop (entryFrame m #[.ref b, .int (Int32.ofNat o), .ref d, .int (Int32.ofNat q), .int (Int32.ofNat len)] 7)) (T7.setTop (mkF m 3 #[.val (.ref b), .val (.int (Int32.ofNat (o + i) + 1)), .val (.ref d), .val (.int (Int32.ofNat (q + i) + 1)), .val (.int (Int32.ofNat len)), .val (.int (Int32.ofNat i + 1)), .val (.int (cv A (o + i)))] [])) := c8.trans (by
        refine iincV X7.here hexec rfl 1 (hb hbytes d32) (by decide) rfl rfl ?_
        refine iincV X7.here hexec rfl 1 (hb hbytes d35) (by decide) rfl rfl ?_
        refine iincV X7.here hexec rfl 1 (hb hbytes d38) (by decide) rfl rfl ?_
        refine XS.goto X7.here hexec rfl (pc0 := 41) rfl (hb hbytes d41) (by decide) rfl ?_
        exact Steps.refl _)
      have c10 : Steps p.tables e below (s₁.setTop (entryFrame m #[.ref b, .int (Int32.ofNat o), .ref d, .int (Int32.ofNat q), .int (Int32.ofNat len)] 7)) (T7.setTop (mkF m 3 #[.val (.ref b), .val (.int (Int32.ofNat (o + (i + 1)))), .val (.ref d), .val (.int (Int32.ofNat (q + (i + 1)))), .val (.int (Int32.ofNat len)), .val (.int (Int32.ofNat (i + 1))), .val (.int (cv A (o + i)))] [])) := by
        have := c9
        rw [succ32, succ32, succ32] at this
        exact this
      exact ih (i + 1) (by omega) _ (Or.inr ⟨_, rfl, rfl⟩) T7 _ (by rw [copyLocs_step, ← List.append_assoc]; exact X7) (pl.trans p7) (fl.step (by omega) hlt (by simp)) c10
  obtain ⟨T9, B9, z9, X9, p9, f9, g9⟩ := loop len 0 (by omega) .unset (Or.inl rfl) s₁ B (by simpa [copyLocs] using X0) ⟨hB0.1, fun _ _ => rfl, rfl⟩ (Laid.zero _ _ _) c2
  have c11 : Steps p.tables e below (s₁.setTop (entryFrame m #[.ref b, .int (Int32.ofNat o), .ref d, .int (Int32.ofNat q), .int (Int32.ofNat len)] 7)) (T9.setTop (mkF m 46 #[.val (.ref b), .val (.int (Int32.ofNat (o + len))), .val (.ref d), .val (.int (Int32.ofNat (q + len))), .val (.int (Int32.ofNat len)), .val (.int (Int32.ofNat len)), z9] [.int (Int32.ofNat len)])) := g9.trans (by
    refine XS.iload X9.here hexec rfl (hb hbytes d3) rfl ?_
    refine XS.iload X9.here hexec rfl (hb hbytes d5) rfl ?_
    refine XS.icmpYes X9.here hexec rfl (pc0 := 7) rfl (hb hbytes d7) rfl (ii_ge_t (nlt32 (by omega) (Nat.le_refl _))) (by decide) rfl ?_
    refine XS.iload X9.here hexec rfl (hb hbytes d44) rfl ?_
    exact Steps.refl _)
  exact ⟨T9, some (.int (Int32.ofNat len)), _, _, _, X9, by simp, rfl, rfl, (fun h => by cases h), ⟨rfl, B9, p9.from hh0, f9⟩, fun fs hl => c11.trans (X9.ireturnOut hexec hret rfl (Or.inl rfl) (hb hbytes d46) hl)⟩
end Cmp5
namespace Cmp3
def yN : MethodName := ⟨"java/lang/StringUTF16", "compress", "([CII)[B"⟩
abbrev yB : ByteArray := jdk_52_method_16_code
theorem d0 : decode yB 0 = .ok (.iload_n 2, 1) := by decide +kernel
theorem d1 : decode yB 1 = .ok (.newarray .byte, 2) := by decide +kernel
theorem d3 : decode yB 3 = .ok (.astore_n 3, 1) := by decide +kernel
theorem d4 : decode yB 4 = .ok (.aload_n 0, 1) := by decide +kernel
theorem d5 : decode yB 5 = .ok (.iload_n 1, 1) := by decide +kernel
theorem d6 : decode yB 6 = .ok (.aload_n 3, 1) := by decide +kernel
theorem d7 : decode yB 7 = .ok (.iconst 0, 1) := by decide +kernel
theorem d8 : decode yB 8 = .ok (.iload_n 2, 1) := by decide +kernel
theorem d9 : decode yB 9 = .ok (.invokestatic 115, 3) := by decide +kernel
theorem d12 : decode yB 12 = .ok (.istore 4, 2) := by decide +kernel
theorem d14 : decode yB 14 = .ok (.iload 4, 2) := by decide +kernel
theorem d16 : decode yB 16 = .ok (.iload_n 2, 1) := by decide +kernel
theorem d17 : decode yB 17 = .ok (.if_icmp (.eq) 40, 3) := by decide +kernel
theorem d57 : decode yB 57 = .ok (.aload_n 3, 1) := by decide +kernel
theorem d58 : decode yB 58 = .ok (.areturn, 1) := by decide +kernel
def site : List Cond := [.arrayClass .byte, Cmp5.tab] ++ staticW U16 115 Cmp5.yN
def tab : Cond := tabOf yN yB 6 (some (.array .byte)) site
def P (b : Addr) (A : Cell) (o len : Nat) (args : Array Value) (s : State) : Prop := args = #[.ref b, .int (Int32.ofNat o), .int (Int32.ofNat len)] ∧ Ch b A s ∧ o + len ≤ A.slots.size ∧ len ≤ 536870912 ∧ ∀ i, i < len → ¬ 255 < cv A (o + i)
def E (b : Addr) (A : Cell) (o len : Nat) (r : Option Value) (s u : State) : Prop := NewArr .byte "[B" len (fun j => .int (lo8 (cv A (o + j)))) r s u ∧ u.heap.size = s.heap.size + 1
/-- no char of the range above 255: a new byte[] of their low bytes -/
theorem law (l : Launch) (b : Addr) (A : Cell) (o len : Nat) : Law l yN 3 3 1 18 yB 6 (some (.array .byte)) site (P b A o len) (E b A o len) [] 1 len := by
  refine Law.of_walk (plainFor_of_name (by decide +kernel)) (by decide +kernel) (by decide +kernel) (by decide) (fun _ _ h => by rw [h.1]; rfl) (fun _ U U' hal hh h => ⟨h.1, h.2.1.mv hal hh, h.2.2⟩) (fun r U U' V V' h1 hal h2 h => ⟨NewArr.mv r U U' V V' h1 hal h2 h.1, by rw [h1, h2]; exact h.2⟩) ?_
  intro p e s m args below meth c s₁ X0 hexec hbytes hml hret hlk hnm hown hh0 W hP
  obtain ⟨rfl, hA, l1, l2, hp⟩ := hP
  have a31 := hA.1.2.2.2
  have c1 : Steps p.tables e below (s₁.setTop (entryFrame m #[.ref b, .int (Int32.ofNat o), .int (Int32.ofNat len)] 6)) (s₁.setTop (mkF m 0 #[.val (.ref b), .val (.int (Int32.ofNat o)), .val (.int (Int32.ofNat len)), .unset, .unset, .unset] [])) := entry rfl
  have c2 : Steps p.tables e below (s₁.setTop (entryFrame m #[.ref b, .int (Int32.ofNat o), .int (Int32.ofNat len)] 6)) (s₁.setTop (mkF m 1 #[.val (.ref b), .val (.int (Int32.ofNat o)), .val (.int (Int32.ofNat len)), .unset, .unset, .unset] [.int (Int32.ofNat len)])) := c1.trans (by
    refine XS.iloadN X0.here hexec rfl (hb hbytes d0) rfl ?_
    exact Steps.refl _)
  obtain ⟨T3, B3, X3, ba3, bs3, bv3, bh3, bf3, st3⟩ := X0.anew hexec (atype := .byte) (wk W (.arrayClass .byte)) rfl (by show len * 1 ≤ _; omega) (by omega) (g := (mkF m 1 #[.val (.ref b), .val (.int (Int32.ofNat o)), .val (.int (Int32.ofNat len)), .unset, .unset, .unset] [.int (Int32.ofNat len)])) rfl (hb hbytes d1) (rest := []) rfl (Nat.le_refl _) (by show 0 + len ≤ len; omega)
  rw [hh0] at ba3 st3
  have kp3 : XT.Kept s T3 := (XT.Kept.of_eq hh0).push bh3
  have hA3 := hA.keep X3.warmed.alike (kp3 _ _ hA.1.1)
  have hne : b ≠ s.heap.size := hA.1.ne
  have c4 : Steps p.tables e below (s₁.setTop (entryFrame m #[.ref b, .int (Int32.ofNat o), .int (Int32.ofNat len)] 6)) (T3.setTop (mkF m 3 #[.val (.ref b), .val (.int (Int32.ofNat o)), .val (.int (Int32.ofNat len)), .unset, .unset, .unset] [.ref s.heap.size])) := c2.trans (st3 _ (Steps.refl _))
  have c5 : Steps p.tables e below (s₁.setTop (entryFrame m #[.ref b, .int (Int32.ofNat o), .int (Int32.ofNat len)] 6)) (T3.setTop (mkF m 9 #[.val (.ref b), .val (.int (Int32.ofNat o)), .val (.int (Int32.ofNat len)), .val (.ref s.heap.size), .unset, .unset] [.int (Int32.ofNat len), .int 0, .ref s.heap.size, .int (Int32.ofNat o), .ref b])) := c4.trans (by
    refine XS.astoreN X3.here hexec rfl (hb hbytes d3) rfl rfl rfl ?_
    refine XS.aloadN X3.here hexec rfl (hb hbytes d4) rfl rfl ?_
    refine XS.iloadN X3.here hexec rfl (hb hbytes d5) rfl ?_
    refine XS.aloadN X3.here hexec rfl (hb hbytes d6) rfl rfl ?_
    refine iconstV X3.here hexec rfl 0 (hb hbytes d7) (by decide) ?_
    refine XS.iloadN X3.here hexec rfl (hb hbytes d8) rfl ?_
    exact Steps.refl _)
  obtain ⟨v6, T6, X6, E6, g6⟩ := X3.callS hexec (Cmp5.law l b A s.heap.size B3 o 0 len) hown (wks W (staticW U16 115 Cmp5.yN)) (wk W Cmp5.tab) (W := 0) (Nat.le_of_ble_eq_true rfl) (Nat.le_of_ble_eq_true rfl) (Nat.le_refl _) (by show 0 + len + 0 ≤ len; omega) (g := (mkF m 9 #[.val (.ref b), .val (.int (Int32.ofNat o)), .val (.int (Int32.ofNat len)), .val (.ref s.heap.size), .unset, .unset] [.int (Int32.ofNat len), .int (Int32.ofNat 0), .ref s.heap.size, .int (Int32.ofNat o), .ref b])) rfl (by rw [hml]; rfl) c5 (argsL := [.ref b, .int (Int32.ofNat o), .ref s.heap.size, .int (Int32.ofNat 0), .int (Int32.ofNat len)]) (rest := []) rfl rfl (by show 2 * 0 + 0 ≤ _; decide) (hb hbytes d9) (⟨rfl, hA3, ba3, hne, l1, by rw [bs3]; simp, hp⟩)
  obtain ⟨rfl, B6, p6, f6⟩ := E6
  have c7 : Steps p.tables e below (s₁.setTop (entryFrame m #[.ref b, .int (Int32.ofNat o), .int (Int32.ofNat len)] 6)) (T6.setTop (mkF m 12 #[.val (.ref b), .val (.int (Int32.ofNat o)), .val (.int (Int32.ofNat len)), .val (.ref s.heap.size), .unset, .unset] [.int (Int32.ofNat len)])) := g6
  have c8 : Steps p.tables e below (s₁.setTop (entryFrame m #[.ref b, .int (Int32.ofNat o), .int (Int32.ofNat len)] 6)) (T6.setTop (mkF m 58 #[.val (.ref b), .val (.int (Int32.ofNat o)), .val (.int (Int32.ofNat len)), .val (.ref s.heap.size), .val (.int (Int32.ofNat len)), .unset] [.ref s.heap.size])) := c7.trans (by
    refine XS.istore X6.here hexec rfl (hb hbytes d12) rfl rfl ?_
    refine XS.iload X6.here hexec rfl (hb hbytes d14) rfl ?_
    refine XS.iloadN X6.here hexec rfl (hb hbytes d16) rfl ?_
    refine XS.icmpYes X6.here hexec rfl (pc0 := 17) rfl (hb hbytes d17) rfl (ii_eq_t rfl) (by decide) rfl ?_
    refine XS.aloadN X6.here hexec rfl (hb hbytes d57) rfl rfl ?_
    exact Steps.refl _)
  have X8 := X6.wide (L' := []) (cells' := 1) (slots' := len) (fun x hx hlt => by
    simp only [List.nil_append, copyLocs, List.mem_map, List.mem_range] at hx
    obtain ⟨i, -, rfl⟩ := hx
    exact absurd hlt (Nat.lt_irrefl _)) (Nat.le_refl _) (by omega)
  exact ⟨T6, some (.ref s.heap.size), _, _, _, X8, rfl, rfl, rfl, (fun h => by cases h), ⟨⟨rfl, B6, ba3.like (X3.warmed.alike.symm.trans X6.warmed.alike) p6.1 f6.1 f6.2.1 f6.2.2.1, f6.2.1.trans bv3, by rw [X6.warmed.alike.findClass, f6.1]; exact bf3, by rw [f6.2.2.1, bs3]; simp, fun j hj => by rw [f6.2.2.2 j, if_pos (by omega)]; rfl, kp3.put p6 (Nat.le_refl _)⟩, by rw [p6.2.2, bh3, hh0]; simp⟩, fun fs hl => c8.trans (X8.areturnOut hexec rfl hret rfl (hb hbytes d58) hl)⟩
end Cmp3
namespace CodL
def yN : MethodName := ⟨"java/lang/StringUTF16", "coderFromArrayLen", "([BI)B"⟩
abbrev yB : ByteArray := jdk_52_method_15_code
theorem d0 : decode yB 0 = .ok (.iload_n 1, 1) := by decide +kernel
theorem d1 : decode yB 1 = .ok (.aload_n 0, 1) := by decide +kernel
theorem d2 : decode yB 2 = .ok (.arraylength, 1) := by decide +kernel
theorem d3 : decode yB 3 = .ok (.isub, 1) := by decide +kernel
theorem d4 : decode yB 4 = .ok (.bipush 31, 2) := by decide +kernel
theorem d6 : decode yB 6 = .ok (.iushr, 1) := by decide +kernel
theorem d7 : decode yB 7 = .ok (.i2b, 1) := by decide +kernel
theorem d8 : decode yB 8 = .ok (.ireturn, 1) := by decide +kernel
def site : List Cond := []
def tab : Cond := tabOf yN yB 2 (some .byte) site
def P (d : Addr) (B : Cell) (args : Array Value) (s : State) : Prop := args = #[.ref d, .int (Int32.ofNat B.slots.size)] ∧ Arr .byte d B s
def E (r : Option Value) (s u : State) : Prop := XT.PureE (some (.int 0)) r s u
/-- an array as long as the number of chars: LATIN1 -/
theorem law (l : Launch) (d : Addr) (B : Cell) : Law l yN 2 2 0 0 yB 2 (some .byte) site (P d B) E [] 0 0 := by
  refine Law.of_walk (plainFor_of_name (by decide +kernel)) (by decide +kernel) (by decide +kernel) (by decide) (fun _ _ h => by rw [h.1]; rfl) (fun _ U U' hal hh h => ⟨h.1, h.2.mv hal hh⟩) (fun r U U' V V' h1 hal h2 h => XT.PureE.mv r U U' V V' h1 hal h2 h) ?_
  intro p e s m args below meth c s₁ X0 hexec hbytes hml hret hlk hnm hown hh0 W hP
  obtain ⟨rfl, hB⟩ := hP
  have hB0 := hB.mv X0.warmed.alike hh0
  have c1 : Steps p.tables e below (s₁.setTop (entryFrame m #[.ref d, .int (Int32.ofNat B.slots.size)] 2)) (s₁.setTop (mkF m 0 #[.val (.ref d), .val (.int (Int32.ofNat B.slots.size))] [])) := entry rfl
  have c2 : Steps p.tables e below (s₁.setTop (entryFrame m #[.ref d, .int (Int32.ofNat B.slots.size)] 2)) (s₁.setTop (mkF m 2 #[.val (.ref d), .val (.int (Int32.ofNat B.slots.size))] [.ref d, .int (Int32.ofNat B.slots.size)])) := c1.trans (by
    refine XS.iloadN X0.here hexec rfl (hb hbytes d0) rfl ?_
    refine XS.aloadN X0.here hexec rfl (hb hbytes d1) rfl rfl ?_
    exact Steps.refl _)
  have c3 : Steps p.tables e below (s₁.setTop (entryFrame m #[.ref d, .int (Int32.ofNat B.slots.size)] 2)) (s₁.setTop (mkF m 8 #[.val (.ref d), .val (.int (Int32.ofNat B.slots.size))] [.int (lo8 (ushr (Int32.ofNat B.slots.size - Int32.ofNat B.slots.size) 31))])) := c2.trans (by
    refine X0.alen hexec hB0 rfl rfl (hb hbytes d2) ?_
    refine XS.isub X0.here hexec rfl (hb hbytes d3) rfl ?_
    refine bipushV X0.here hexec rfl 31 (hb hbytes d4) (by decide) ?_
    refine iushr X0.here hexec rfl (hb hbytes d6) rfl ?_
    refine i2b X0.here hexec rfl (hb hbytes d7) rfl ?_
    exact Steps.refl _)
  have e0 : lo8 (ushr (Int32.ofNat B.slots.size - Int32.ofNat B.slots.size) 31) = 0 := by rw [Int32.sub_self]; decide
  rw [e0] at c3
  exact ⟨s₁, some (.int 0), _, _, _, X0, rfl, rfl, rfl, (fun h => by cases h), ⟨rfl, hh0⟩, fun fs hl => c3.trans (X0.ireturnOut hexec hret rfl (Or.inr (Or.inr (Or.inl rfl))) (hb hbytes d8) hl)⟩
end CodL
/-- the String at a is Latin-1 over a new byte[] (the heap's one new cell): the low bytes of the len chars of A from o on; every cell but a is kept -/
def Got (a : Addr) (D : Cell) (fV fC : Field) (A : Cell) (o len : Nat) (r : Option Value) (s u : State) : Prop := r = none ∧ ∃ D' V : Cell, Blank "java/lang/String" a D' u ∧ Same D D' [fV.slot, fC.slot] ∧ D'.slots[fV.slot]? = some (.ref s.heap.size) ∧ D'.slots[fC.slot]? = some (.int 0) ∧ Arr .byte s.heap.size V u ∧ V.vm = .none ∧ u.vm.findClass "[B" = some V.cls ∧ V.slots.size = len ∧ (∀ j, j < len → V.slots[j]? = some (.int (lo8 (cv A (o + j))))) ∧ (∀ (y : Addr) (c : Cell), y ≠ a → s.heap[y]? = some c → u.heap[y]? = some c) ∧ u.heap.size = s.heap.size + 1
theorem Got.mv {a : Addr} {D A : Cell} {fV fC : Field} {o len : Nat} : ∀ r (U U' V V' : State), U'.heap = U.heap → V.vm.Alike V'.vm → V'.heap = V.heap → Got a D fV fC A o len r U V → Got a D fV fC A o len r U' V' :=
  fun r U U' V V' h1 hal h2 ⟨e0, D', X, a1, a2, a3, a4, a5, a6, a7, a8, a9, a10, a11⟩ => ⟨e0, D', X, a1.mv hal h2, a2, by rw [h1]; exact a3, a4, by rw [h1]; exact a5.mv hal h2, a6, by rw [hal.findClass]; exact a7, a8, a9, by rw [h1, h2]; exact a10, by rw [h1, h2]; exact a11⟩
namespace New4
def yN : MethodName := ⟨"java/lang/String", "<init>", "([CIILjava/lang/Void;)V"⟩
abbrev yB : ByteArray := jdk_42_method_149_code
theorem d0 : decode yB 0 = .ok (.aload_n 0, 1) := by decide +kernel
theorem d1 : decode yB 1 = .ok (.invokespecial 1, 3) := by decide +kernel
theorem d4 : decode yB 4 = .ok (.iload_n 3, 1) := by decide +kernel
theorem d5 : decode yB 5 = .ok (.ifCond (.ne) 22, 3) := by decide +kernel
theorem d27 : decode yB 27 = .ok (.getstatic 38, 3) := by decide +kernel
theorem d30 : decode yB 30 = .ok (.ifCond (.eq) 28, 3) := by decide +kernel
theorem d33 : decode yB 33 = .ok (.aload_n 1, 1) := by decide +kernel
theorem d34 : decode yB 34 = .ok (.iload_n 2, 1) := by decide +kernel
theorem d35 : decode yB 35 = .ok (.iload_n 3, 1) := by decide +kernel
theorem d36 : decode yB 36 = .ok (.invokestatic 177, 3) := by decide +kernel
theorem d39 : decode yB 39 = .ok (.astore 5, 2) := by decide +kernel
theorem d41 : decode yB 41 = .ok (.aload_n 0, 1) := by decide +kernel
theorem d42 : decode yB 42 = .ok (.aload 5, 2) := by decide +kernel
theorem d44 : decode yB 44 = .ok (.iload_n 3, 1) := by decide +kernel
theorem d45 : decode yB 45 = .ok (.invokestatic 47, 3) := by decide +kernel
theorem d48 : decode yB 48 = .ok (.putfield 15, 3) := by decide +kernel
theorem d51 : decode yB 51 = .ok (.aload_n 0, 1) := by decide +kernel
theorem d52 : decode yB 52 = .ok (.aload 5, 2) := by decide +kernel
theorem d54 : decode yB 54 = .ok (.putfield 9, 3) := by decide +kernel
theorem d57 : decode yB 57 = .ok (.return_, 1) := by decide +kernel
def site : List Cond := [.fieldLink "java/lang/String" 38 "java/lang/String" "COMPACT_STRINGS" "Z", Cmp3.tab, CodL.tab, .laysFinal "java/lang/String" "java/lang/String" "value" "[B", .fieldLink "java/lang/String" 9 "java/lang/String" "value" "[B", .laysFinal "java/lang/String" "java/lang/String" "coder" "B", .fieldLink "java/lang/String" 15 "java/lang/String" "coder" "B"] ++ objW "java/lang/String" 1 ++ staticW "java/lang/String" 177 Cmp3.yN ++ staticW "java/lang/String" 47 CodL.yN
def tab : Cond := tabOf yN yB 6 none site
def P (a : Addr) (D : Cell) (fV fC : Field) (b : Addr) (A : Cell) (z : Int32) (o len : Nat) (args : Array Value) (s : State) : Prop := args = #[.ref a, .ref b, .int (Int32.ofNat o), .int (Int32.ofNat len), .null] ∧ Blank "java/lang/String" a D s ∧ Found "java/lang/String" "value" "[B" fV s ∧ Found "java/lang/String" "coder" "B" fC s ∧ Ch b A s ∧ StaticIs s "java/lang/String" "COMPACT_STRINGS" "Z" (.int z) ∧ ¬ z = 0 ∧ 0 < len ∧ o + len ≤ A.slots.size ∧ len ≤ 536870912 ∧ ∀ i, i < len → ¬ 255 < cv A (o + i)
def E (a : Addr) (D : Cell) (fV fC : Field) (A : Cell) (o len : Nat) (r : Option Value) (s u : State) : Prop := Got a D fV fC A o len r s u
/-- len > 0, no char of the range above 255: a Latin-1 String of their low bytes -/
theorem law (l : Launch) (a : Addr) (D : Cell) (fV fC : Field) (b : Addr) (A : Cell) (z : Int32) (o len : Nat) : Law l yN 5 4 2 35 yB 6 none site (P a D fV fC b A z o len) (E a D fV fC A o len) [⟨a, fC.slot⟩, ⟨a, fV.slot⟩] 1 len := by
  refine Law.of_walk (plainFor_of_name (by decide +kernel)) (by decide +kernel) (by decide +kernel) (by decide) (fun _ _ h => by rw [h.1]; rfl) (fun _ U U' hal hh h => ⟨h.1, h.2.1.mv hal hh, h.2.2.1.al hal, h.2.2.2.1.al hal, h.2.2.2.2.1.mv hal hh, h.2.2.2.2.2.1.there hal hh, h.2.2.2.2.2.2⟩) (fun r U U' V V' h1 hal h2 h => Got.mv r U U' V V' h1 hal h2 h) ?_
  intro p e s m args below meth c s₁ X0 hexec hbytes hml hret hlk hnm hown hh0 W hP
  obtain ⟨rfl, hB, f1, f2, hA, s1, hz, l0, l1, l2, hp⟩ := hP
  have a31 := hA.1.2.2.2
  have c1 : Steps p.tables e below (s₁.setTop (entryFrame m #[.ref a, .ref b, .int (Int32.ofNat o), .int (Int32.ofNat len), .null] 6)) (s₁.setTop (mkF m 0 #[.val (.ref a), .val (.ref b), .val (.int (Int32.ofNat o)), .val (.int (Int32.ofNat len)), .val .null, .unset] [])) := entry rfl
  have c2 : Steps p.tables e below (s₁.setTop (entryFrame m #[.ref a, .ref b, .int (Int32.ofNat o), .int (Int32.ofNat len), .null] 6)) (s₁.setTop (mkF m 1 #[.val (.ref a), .val (.ref b), .val (.int (Int32.ofNat o)), .val (.int (Int32.ofNat len)), .val .null, .unset] [.ref a])) := c1.trans (by
    refine XS.aloadN X0.here hexec rfl (hb hbytes d0) rfl rfl ?_
    exact Steps.refl _)
  obtain ⟨T3, X3, q3, st3⟩ := X0.oinit hexec hown (wks W (objW "java/lang/String" 1)) (g := (mkF m 1 #[.val (.ref a), .val (.ref b), .val (.int (Int32.ofNat o)), .val (.int (Int32.ofNat len)), .val .null, .unset] [.ref a])) rfl (by rw [hml]; rfl) (rest := []) rfl (hb hbytes d1) (W := 0) (by show 2 * 0 + 0 ≤ _; decide) (Nat.le_of_ble_eq_true rfl) (Nat.le_of_ble_eq_true rfl)
  have hh3 := q3.trans hh0
  have c4 : Steps p.tables e below (s₁.setTop (entryFrame m #[.ref a, .ref b, .int (Int32.ofNat o), .int (Int32.ofNat len), .null] 6)) (T3.setTop (mkF m 27 #[.val (.ref a), .val (.ref b), .val (.int (Int32.ofNat o)), .val (.int (Int32.ofNat len)), .val .null, .unset] [])) := (c2.trans (st3 _ (Steps.refl _))).trans (by
    refine XS.iloadN X3.here hexec rfl (hb hbytes d4) rfl ?_
    refine XS.ifYes X3.here hexec rfl (pc0 := 5) rfl (hb hbytes d5) rfl (i0_ne_t (nz32 (by omega) l0)) (by decide) rfl ?_
    exact Steps.refl _)
  obtain ⟨T5, X5, q5, st5⟩ := X3.sget hexec hown (wk W (.fieldLink "java/lang/String" 38 "java/lang/String" "COMPACT_STRINGS" "Z")) s1 (fun _ _ h => by rw [hh3]; exact h) (g := (mkF m 27 #[.val (.ref a), .val (.ref b), .val (.int (Int32.ofNat o)), .val (.int (Int32.ofNat len)), .val .null, .unset] [])) rfl (hb hbytes d27)
  have hh5 := q5.trans hh3
  have c6 : Steps p.tables e below (s₁.setTop (entryFrame m #[.ref a, .ref b, .int (Int32.ofNat o), .int (Int32.ofNat len), .null] 6)) (T5.setTop (mkF m 30 #[.val (.ref a), .val (.ref b), .val (.int (Int32.ofNat o)), .val (.int (Int32.ofNat len)), .val .null, .unset] [.int z])) := c4.trans (st5 _ (Steps.refl _))
  have c7 : Steps p.tables e below (s₁.setTop (entryFrame m #[.ref a, .ref b, .int (Int32.ofNat o), .int (Int32.ofNat len), .null] 6)) (T5.setTop (mkF m 36 #[.val (.ref a), .val (.ref b), .val (.int (Int32.ofNat o)), .val (.int (Int32.ofNat len)), .val .null, .unset] [.int (Int32.ofNat len), .int (Int32.ofNat o), .ref b])) := c6.trans (by
    refine XS.ifNo X5.here hexec rfl (hb hbytes d30) rfl (i0_eq_f hz) ?_
    refine XS.aloadN X5.here hexec rfl (hb hbytes d33) rfl rfl ?_
    refine XS.iloadN X5.here hexec rfl (hb hbytes d34) rfl ?_
    refine XS.iloadN X5.here hexec rfl (hb hbytes d35) rfl ?_
    exact Steps.refl _)
  obtain ⟨v8, T8, X8, E8, g8⟩ := X5.callS hexec (Cmp3.law l b A o len) hown (wks W (staticW "java/lang/String" 177 Cmp3.yN)) (wk W Cmp3.tab) (W := 0) (Nat.le_of_ble_eq_true rfl) (Nat.le_of_ble_eq_true rfl) (Nat.le_refl _) (by show 0 + len ≤ len; omega) (g := (mkF m 36 #[.val (.ref a), .val (.ref b), .val (.int (Int32.ofNat o)), .val (.int (Int32.ofNat len)), .val .null, .unset] [.int (Int32.ofNat len), .int (Int32.ofNat o), .ref b])) rfl (by rw [hml]; rfl) c7 (argsL := [.ref b, .int (Int32.ofNat o), .int (Int32.ofNat len)]) (rest := []) rfl rfl (by show 2 * 0 + 0 ≤ _; decide) (hb hbytes d36) (⟨rfl, hA.mv X5.warmed.alike hh5, l1, l2, hp⟩)
  obtain ⟨e8, z8⟩ := E8
  obtain ⟨rfl, N, n1, n2, n3, n4, n5, n6⟩ := NewArr.mv _ T5 s _ _ hh5.symm (Vm.Alike.refl _) rfl e8
  rw [hh5] at z8
  have hB1 := hB.keep X8.warmed.alike (n6 _ _ hB.1)
  have hne : s.heap.size ≠ a := (Nat.ne_of_lt (Array.getElem?_eq_some_iff.mp hB.1).1).symm
  have c9 : Steps p.tables e below (s₁.setTop (entryFrame m #[.ref a, .ref b, .int (Int32.ofNat o), .int (Int32.ofNat len), .null] 6)) (T8.setTop (mkF m 39 #[.val (.ref a), .val (.ref b), .val (.int (Int32.ofNat o)), .val (.int (Int32.ofNat len)), .val .null, .unset] [.ref s.heap.size])) := g8
  have c10 : Steps p.tables e below (s₁.setTop (entryFrame m #[.ref a, .ref b, .int (Int32.ofNat o), .int (Int32.ofNat len), .null] 6)) (T8.setTop (mkF m 45 #[.val (.ref a), .val (.ref b), .val (.int (Int32.ofNat o)), .val (.int (Int32.ofNat len)), .val .null, .val (.ref s.heap.size)] [.int (Int32.ofNat N.slots.size), .ref s.heap.size, .ref a])) := by
    have hc : Steps p.tables e below (s₁.setTop (entryFrame m #[.ref a, .ref b, .int (Int32.ofNat o), .int (Int32.ofNat len), .null] 6)) (T8.setTop (mkF m 45 #[.val (.ref a), .val (.ref b), .val (.int (Int32.ofNat o)), .val (.int (Int32.ofNat len)), .val .null, .val (.ref s.heap.size)] [.int (Int32.ofNat len), .ref s.heap.size, .ref a])) := c9.trans (by
      refine XS.astore X8.here hexec rfl (hb hbytes d39) rfl rfl rfl ?_
      refine XS.aloadN X8.here hexec rfl (hb hbytes d41) rfl rfl ?_
      refine XS.aload X8.here hexec rfl (hb hbytes d42) rfl rfl ?_
      refine XS.iloadN X8.here hexec rfl (hb hbytes d44) rfl ?_
      exact Steps.refl _)
    rw [n4]; exact hc
  obtain ⟨v11, T11, X11, E11, g11⟩ := X8.callS hexec (CodL.law l s.heap.size N) hown (wks W (staticW "java/lang/String" 47 CodL.yN)) (wk W CodL.tab) (W := 1) (Nat.le_of_ble_eq_true rfl) (Nat.le_of_ble_eq_true rfl) (Nat.le_refl _) (by show 0 + len + 0 ≤ len; omega) (g := (mkF m 45 #[.val (.ref a), .val (.ref b), .val (.int (Int32.ofNat o)), .val (.int (Int32.ofNat len)), .val .null, .val (.ref s.heap.size)] [.int (Int32.ofNat N.slots.size), .ref s.heap.size, .ref a])) rfl (by rw [hml]; rfl) c10 (argsL := [.ref s.heap.size, .int (Int32.ofNat N.slots.size)]) (rest := [.ref a]) rfl rfl (by show 2 * 0 + (1 + 0) ≤ _; decide) (hb hbytes d45) (⟨rfl, n1⟩)
  obtain ⟨rfl, q11⟩ := E11
  have hB11 := hB1.mv (X8.warmed.alike.symm.trans X11.warmed.alike) q11
  have c12 : Steps p.tables e below (s₁.setTop (entryFrame m #[.ref a, .ref b, .int (Int32.ofNat o), .int (Int32.ofNat len), .null] 6)) (T11.setTop (mkF m 48 #[.val (.ref a), .val (.ref b), .val (.int (Int32.ofNat o)), .val (.int (Int32.ofNat len)), .val .null, .val (.ref s.heap.size)] [.int 0, .ref a])) := g11
  obtain ⟨T13, X13, p13, bl13, sl13, st13⟩ := X11.finit hexec hown (wk W (.fieldLink "java/lang/String" 15 "java/lang/String" "coder" "B")) (Or.inr ⟨_, (wk W (.laysFinal "java/lang/String" "java/lang/String" "coder" "B"))⟩) (Or.inl ⟨rfl, hnm⟩) f2 (Or.inl rfl) hB11 (t := .byte) (by decide +kernel) rfl (g := (mkF m 48 #[.val (.ref a), .val (.ref b), .val (.int (Int32.ofNat o)), .val (.int (Int32.ofNat len)), .val .null, .val (.ref s.heap.size)] [.int 0, .ref a])) rfl (rest := []) rfl (hb hbytes d48)
  have c14 : Steps p.tables e below (s₁.setTop (entryFrame m #[.ref a, .ref b, .int (Int32.ofNat o), .int (Int32.ofNat len), .null] 6)) (T13.setTop (mkF m 54 #[.val (.ref a), .val (.ref b), .val (.int (Int32.ofNat o)), .val (.int (Int32.ofNat len)), .val .null, .val (.ref s.heap.size)] [.ref s.heap.size, .ref a])) := (c12.trans (st13 _ (Steps.refl _))).trans (by
    refine XS.aloadN X13.here hexec rfl (hb hbytes d51) rfl rfl ?_
    refine XS.aload X13.here hexec rfl (hb hbytes d52) rfl rfl ?_
    exact Steps.refl _)
  obtain ⟨T15, X15, p15, bl15, sl15, st15⟩ := X13.finit hexec hown (wk W (.fieldLink "java/lang/String" 9 "java/lang/String" "value" "[B")) (Or.inr ⟨_, (wk W (.laysFinal "java/lang/String" "java/lang/String" "value" "[B"))⟩) (Or.inl ⟨rfl, hnm⟩) f1 (Or.inl rfl) bl13 (t := (.array .byte)) (by decide +kernel) rfl (g := (mkF m 54 #[.val (.ref a), .val (.ref b), .val (.int (Int32.ofNat o)), .val (.int (Int32.ofNat len)), .val .null, .val (.ref s.heap.size)] [.ref s.heap.size, .ref a])) rfl (rest := []) rfl (hb hbytes d54)
  have c16 : Steps p.tables e below (s₁.setTop (entryFrame m #[.ref a, .ref b, .int (Int32.ofNat o), .int (Int32.ofNat len), .null] 6)) (T15.setTop (mkF m 57 #[.val (.ref a), .val (.ref b), .val (.int (Int32.ofNat o)), .val (.int (Int32.ofNat len)), .val .null, .val (.ref s.heap.size)] [])) := c14.trans (st15 _ (Steps.refl _))
  have ap := apart (Or.inr ⟨_, (wk W (.laysFinal "java/lang/String" "java/lang/String" "value" "[B"))⟩) (Or.inr ⟨_, (wk W (.laysFinal "java/lang/String" "java/lang/String" "coder" "B"))⟩) f1 f2 (t₁ := .array .byte) (t₂ := .byte) (by decide +kernel) (by decide +kernel) (by decide)
  have al := X8.warmed.alike.symm.trans X15.warmed.alike
  have n7 : T11.heap[s.heap.size]? = some N := by rw [q11]; exact n1.1
  exact ⟨T15, none, _, _, _, X15, by simp, rfl, by omega, (fun _ => rfl), ⟨rfl, _, N, bl15, ((Same.refl D _).set _ (by simp)).set _ (by simp), sl15, (Cell.slots_setSlot_ne _ ap).trans sl13, n1.keep al (p15.other hne (p13.other hne n7)), n2, by rw [al.findClass]; exact n3, n4, n5, fun y c h1 h2 => p15.other h1 (p13.other h1 (by rw [q11]; exact n6 y c h2)), by rw [p15.2.2, p13.2.2, q11]; exact z8⟩, fun fs hl => c16.trans (X15.returnOut hexec hret (hb hbytes d57) hl)⟩
end New4
namespace New1
def yN : MethodName := ⟨"java/lang/String", "<init>", "([C)V"⟩
abbrev yB : ByteArray := jdk_42_method_3_code
theorem d0 : decode yB 0 = .ok (.aload_n 0, 1) := by decide +kernel
theorem d1 : decode yB 1 = .ok (.aload_n 1, 1) := by decide +kernel
theorem d2 : decode yB 2 = .ok (.iconst 0, 1) := by decide +kernel
theorem d3 : decode yB 3 = .ok (.aload_n 1, 1) := by decide +kernel
theorem d4 : decode yB 4 = .ok (.arraylength, 1) := by decide +kernel
theorem d5 : decode yB 5 = .ok (.aconst_null, 1) := by decide +kernel
theorem d6 : decode yB 6 = .ok (.invokespecial 27, 3) := by decide +kernel
theorem d9 : decode yB 9 = .ok (.return_, 1) := by decide +kernel
def site : List Cond := [New4.tab] ++ initW "java/lang/String" 27 New4.yN
def tab : Cond := tabOf yN yB 2 none site
def P (a : Addr) (D : Cell) (fV fC : Field) (b : Addr) (A : Cell) (z : Int32) (args : Array Value) (s : State) : Prop := args = #[.ref a, .ref b] ∧ Blank "java/lang/String" a D s ∧ Found "java/lang/String" "value" "[B" fV s ∧ Found "java/lang/String" "coder" "B" fC s ∧ Ch b A s ∧ StaticIs s "java/lang/String" "COMPACT_STRINGS" "Z" (.int z) ∧ ¬ z = 0 ∧ 0 < A.slots.size ∧ A.slots.size ≤ 536870912 ∧ ∀ i, i < A.slots.size → ¬ 255 < cv A i
def E (a : Addr) (D : Cell) (fV fC : Field) (A : Cell) (r : Option Value) (s u : State) : Prop := Got a D fV fC A 0 A.slots.size r s u
/-- new String(chars), not empty, no char above 255: a Latin-1 String of their low bytes -/
theorem law (l : Launch) (a : Addr) (D : Cell) (fV fC : Field) (b : Addr) (A : Cell) (z : Int32) : Law l yN 2 1 3 52 yB 2 none site (P a D fV fC b A z) (E a D fV fC A) [⟨a, fC.slot⟩, ⟨a, fV.slot⟩] 1 A.slots.size := by
  refine Law.of_walk (plainFor_of_name (by decide +kernel)) (by decide +kernel) (by decide +kernel) (by decide) (fun _ _ h => by rw [h.1]; rfl) (fun _ U U' hal hh h => ⟨h.1, h.2.1.mv hal hh, h.2.2.1.al hal, h.2.2.2.1.al hal, h.2.2.2.2.1.mv hal hh, h.2.2.2.2.2.1.there hal hh, h.2.2.2.2.2.2⟩) (fun r U U' V V' h1 hal h2 h => Got.mv r U U' V V' h1 hal h2 h) ?_
  intro p e s m args below meth c s₁ X0 hexec hbytes hml hret hlk hnm hown hh0 W hP
  obtain ⟨rfl, hB, f1, f2, hA, s1, hz, l0, l2, hp⟩ := hP
  have c1 : Steps p.tables e below (s₁.setTop (entryFrame m #[.ref a, .ref b] 2)) (s₁.setTop (mkF m 0 #[.val (.ref a), .val (.ref b)] [])) := entry rfl
  have c2 : Steps p.tables e below (s₁.setTop (entryFrame m #[.ref a, .ref b] 2)) (s₁.setTop (mkF m 6 #[.val (.ref a), .val (.ref b)] [.null, .int (Int32.ofNat A.slots.size), .int 0, .ref b, .ref a])) := c1.trans (by
    refine XS.aloadN X0.here hexec rfl (hb hbytes d0) rfl rfl ?_
    refine XS.aloadN X0.here hexec rfl (hb hbytes d1) rfl rfl ?_
    refine iconstV X0.here hexec rfl 0 (hb hbytes d2) (by decide) ?_
    refine XS.aloadN X0.here hexec rfl (hb hbytes d3) rfl rfl ?_
    refine X0.alen hexec (hA.1.mv X0.warmed.alike hh0) rfl rfl (hb hbytes d4) ?_
    refine XS.aconstNull X0.here hexec rfl (hb hbytes d5) ?_
    exact Steps.refl _)
  obtain ⟨v3, T3, X3, E3, g3⟩ := X0.callN hexec (New4.law l a D fV fC b A z 0 A.slots.size) rfl hown (wks W (initW "java/lang/String" 27 New4.yN)) (W New4.tab (by simp only [site, List.mem_cons, List.mem_append, true_or, or_true])) (W := 0) (Nat.le_of_ble_eq_true rfl) (Nat.le_of_ble_eq_true rfl) (Nat.le_refl _) (by show 0 + A.slots.size ≤ A.slots.size; omega) (g := (mkF m 6 #[.val (.ref a), .val (.ref b)] [.null, .int (Int32.ofNat A.slots.size), .int (Int32.ofNat 0), .ref b, .ref a])) rfl (by rw [hml]; rfl) c2 (argsL := [.ref b, .int (Int32.ofNat 0), .int (Int32.ofNat A.slots.size), .null]) (rest := []) rfl rfl (by show 2 * 0 + 0 ≤ _; decide) (hb hbytes d6) (⟨rfl, hB.mv X0.warmed.alike hh0, f1.al X0.warmed.alike, f2.al X0.warmed.alike, hA.mv X0.warmed.alike hh0, s1.there X0.warmed.alike hh0, hz, l0, by omega, l2, fun i hi => by rw [Nat.zero_add]; exact hp i hi⟩)
  have e0 := Got.mv _ s₁ s _ _ hh0.symm (Vm.Alike.refl _) rfl E3
  obtain rfl := e0.1
  have c4 : Steps p.tables e below (s₁.setTop (entryFrame m #[.ref a, .ref b] 2)) (T3.setTop (mkF m 9 #[.val (.ref a), .val (.ref b)] [])) := g3
  exact ⟨T3, none, _, _, _, X3, by simp, rfl, by omega, (fun _ => rfl), e0, fun fs hl => c4.trans (X3.returnOut hexec hret (hb hbytes d9) hl)⟩
theorem pays {l : Launch} {R : Room} {p : Program} {e : Env} {below : List Frame} {s : State} {sargs : Array Value} {len W : Nat} (a : Addr) (D : Cell) (fV fC : Field) (b : Addr) (A : Cell) (z : Int32) (htab : tab.before sargs s = true) (hfr : 4 ≤ R.frames) (hlo : W + 65 ≤ R.locals) :
    Back l R p e below s sargs yN len W (fun A₁ a₁ => A₁.cells + 1 ≤ R.cells ∧ A₁.slots + A.slots.size ≤ R.slots ∧ P a D fV fC b A z a₁ A₁.U) (fun A₁ _ v₁ B₁ => E a D fV fC A v₁ A₁.U B₁.U ∧ B₁.locs = A₁.locs ++ [⟨a, fC.slot⟩, ⟨a, fV.slot⟩] ∧ B₁.cells = A₁.cells + 1 ∧ B₁.slots = A₁.slots + A.slots.size) :=
  (law l a D fV fC b A z).pays htab hfr (by omega)
end New1
/-- the byte, read back as charAt reads it, is the char -/
theorem lo8_mask {x : Int32} (h0 : ¬ x < 0) (h1 : ¬ 255 < x) : lo8 x &&& 255 = x := by
  have t : ∀ k : Fin 256, lo8 (Int32.ofNat k.val) &&& 255 = Int32.ofNat k.val := by decide +kernel
  rw [Int32.lt_iff_toInt_lt] at h0 h1
  have e0 : (0 : Int32).toInt = 0 := rfl
  have e1 : (255 : Int32).toInt = 255 := rfl
  obtain ⟨k, hk⟩ : ∃ k : Nat, x.toInt = k := ⟨x.toInt.toNat, by omega⟩
  have hx : x = Int32.ofNat k := Int32.toInt_inj.mp (by rw [hk, Int32.toInt_ofNat_small (by omega)])
  rw [hx]
  exact t ⟨k, by omega⟩
end StrChars
namespace StrChars.Road
open Jvm Sem ClassFile Op Lib Jvm.Stand Jvm.Free Jvm.Free.XT
open Jvm.Lib.Cold (StaticIs)
abbrev ST : String := "java/lang/String"
/-- every table word that New1's law asks, flat -/
abbrev words : List Jvm.Cond := [.code New1.yN New1.yB 2 none, .initialized ST, .methodLink ST 27 New4.yN, .instanceMethod New4.yN,
  .code New4.yN New4.yB 6 none, .fieldLink ST 38 ST "COMPACT_STRINGS" "Z", .laysFinal ST ST "value" "[B", .fieldLink ST 9 ST "value" "[B", .laysFinal ST ST "coder" "B", .fieldLink ST 15 ST "coder" "B",
  .methodLink ST 1 Lib.objectInit, .instanceMethod Lib.objectInit, .code Lib.objectInit ⟨#[0xb1]⟩ 1 none, .methodLink ST 177 Cmp3.yN, .static Cmp3.yN, .methodLink ST 47 CodL.yN, .static CodL.yN,
  .code Cmp3.yN Cmp3.yB 6 (some (.array .byte)), .initialized U16, .arrayClass .byte, .methodLink U16 115 Cmp5.yN, .static Cmp5.yN, .code Cmp5.yN Cmp5.yB 7 (some .int), .code CodL.yN CodL.yB 2 (some .byte)]
theorem tab_of {a : Array Value} {s : State} (h : ∀ w ∈ words, w.before a s = true) : New1.tab.before a s = true := by
  have h5 : Cmp5.tab.before a s = true := unparts (wk h (.code Cmp5.yN Cmp5.yB 7 (some .int))) (wks h (.initialized Cmp5.yN.cls :: Cmp5.site))
  have hc : CodL.tab.before a s = true := unparts (wk h (.code CodL.yN CodL.yB 2 (some .byte))) (wks h (.initialized CodL.yN.cls :: CodL.site))
  have q5 : ∀ w ∈ Cmp5.tab :: words, w.before a s = true := fun w hw => (List.mem_cons.mp hw).elim (fun e => e ▸ h5) (h w)
  have h3 : Cmp3.tab.before a s = true := unparts (wk q5 (.code Cmp3.yN Cmp3.yB 6 (some (.array .byte)))) (wks q5 (.initialized Cmp3.yN.cls :: Cmp3.site))
  have q3 : ∀ w ∈ Cmp3.tab :: CodL.tab :: words, w.before a s = true := fun w hw => (List.mem_cons.mp hw).elim (fun e => e ▸ h3) fun hw => (List.mem_cons.mp hw).elim (fun e => e ▸ hc) (h w)
  have h4 : New4.tab.before a s = true := unparts (wk q3 (.code New4.yN New4.yB 6 none)) (wks q3 (.initialized New4.yN.cls :: New4.site))
  have q4 : ∀ w ∈ New4.tab :: words, w.before a s = true := fun w hw => (List.mem_cons.mp hw).elim (fun e => e ▸ h4) (h w)
  exact unparts (wk q4 (.code New1.yN New1.yB 2 none)) (wks q4 (.initialized New1.yN.cls :: New1.site))
/-- the words ride from the start Z to the walk's own state -/
theorem moved {Z s : State} {a0 args : Array Value} (hZ : Z.Warmed39 s.vm) (hw : ∀ d ∈ words, d.before a0 Z = true) : ∀ d ∈ words, d.before args s = true := fun d hd => by
  have q := hw d hd
  have t : ∀ d ∈ words, d = .arrayClass .byte ∨ (d.onTables && d.keepsFace) = true := by decide +kernel
  rcases t d hd with rfl | t
  · exact RoadKit.mvA hZ q
  · exact RoadKit.mv hZ q t
/-- WHAT COMES BACK, over the tables of the start Z: h the heap at the call, h' behind it -/
def Q (Z : State) (x : Addr) (A : Cell) (h : Heap) (v : Option Value) (h' : Heap) (L : List Loc) : Prop := v = none ∧ (∀ y ∈ L, y.base = x) ∧ RoadKit.Keep h h' [x] ∧ h'.size = h.size + 1 ∧ RoadKit.Exa Z h' x ST ∧ RoadKit.Fld Z h' x ST "value" "[B" (.ref h.size) ∧ RoadKit.Fld Z h' x ST "coder" "B" (.int 0) ∧
  (∃ V : Cell, RoadKit.Arr Z h' h.size V .byte ∧ V.vm = .none ∧ Z.vm.findClass "[B" = some V.cls ∧ V.slots.size = A.slots.size ∧ ∀ j, j < A.slots.size → V.slots[j]? = some (.int (lo8 (cv A j)))) ∧
  ∀ (O n d : String) (w : Value), RoadKit.Fld Z h x O n d w → RoadKit.slotOf Z O n d ≠ RoadKit.slotOf Z ST "value" "[B" → RoadKit.slotOf Z O n d ≠ RoadKit.slotOf Z ST "coder" "B" → RoadKit.Fld Z h' x O n d w
/-- **new String(chars) AT A CALL, IN THE ROAD'S FORM**: for specialBack behind newO: x the fresh String, b the char[] with the cell A -/
theorem back {p : Program} {l : Launch} {e : Env} {R : Room} {s : State} {args : Array Value} {below : List Frame} {len W : Nat} {Z : State} {a0 : Array Value} {h : Heap} (hZ : Z.Warmed39 s.vm) (hw : ∀ d ∈ words, d.before a0 Z = true) {kI : Nat} (wi : (Jvm.Cond.instantiable ST kI).before a0 Z = true)
    {x b : Addr} {A : Cell} {z : Int32} {v0 c0 : Value} (E : RoadKit.Exa Z h x ST) (V : RoadKit.Fld Z h x ST "value" "[B" v0) (C : RoadKit.Fld Z h x ST "coder" "B" c0) (K : RoadKit.Arr Z h b A .char) (hty : Typed .char A) (S : RoadKit.Sta Z h ST "COMPACT_STRINGS" "Z" (.int z)) (hz : ¬ z = 0)
    (l0 : 0 < A.slots.size) (l2 : A.slots.size ≤ 536870912) (hp : ∀ i, i < A.slots.size → ¬ 255 < cv A i) (hfr : 4 ≤ R.frames) (hlo : W + 65 ≤ R.locals) :
    Back l R p e below s args New1.yN len W (fun P a => a = #[.ref x, .ref b] ∧ P.U.heap = h ∧ P.cells + 1 ≤ R.cells ∧ P.slots + A.slots.size ≤ R.slots)
      (fun P _ v B => ∃ L, Q Z x A h v B.U.heap L ∧ B.locs = P.locs ++ L ∧ B.cells = P.cells + 1 ∧ B.slots = P.slots + A.slots.size) := by
  intro m meth c P g ig mk a X hg hsize hdg hW hn hp'
  obtain ⟨rfl, rfl, r1, r2⟩ := hp'
  have al : Z.vm.Alike P.U.vm := hZ.alike.trans X.warmed.alike
  obtain ⟨D, cfV, kV, iV, fV, hD, gV, stV, knV, obV, asV, slV⟩ := id V
  obtain ⟨D', cfC, kC, iC, fC, hD', gC, stC, -, -, asC, slC⟩ := id C
  cases hD.symm.trans hD'
  obtain ⟨D2, kD, e1, e2, e3, e4, e5⟩ := id E
  cases hD.symm.trans e1
  obtain ⟨c2, k2, i1, i2, i3, -⟩ := Cond.instantiable_spec wi
  cases e2.symm.trans i1
  cases e3.symm.trans i2
  obtain ⟨kU, u1, u2⟩ := al.2.2 _ _ e3
  have hB : Blank ST x D P.U := ⟨hD, ⟨knV, fun q hq => by rw [hq] at obV; cases obV⟩, by rw [al.findClass]; exact e2, kU, u1, by rw [u2]; exact i3, by rw [u2]; exact e5 i3⟩
  have F1 : Found ST "value" "[B" fV P.U := ⟨SBG.found_only al ⟨cfV, kV, iV, gV⟩, stV⟩
  have F2 : Found ST "coder" "B" fC P.U := ⟨SBG.found_only al ⟨cfC, kC, iC, gC⟩, stC⟩
  have hA : Ch b A P.U := ⟨⟨K.1, State.isArrayOf_alike al K.2.1, K.2.2, by omega⟩, hty⟩
  have hS : StaticIs P.U ST "COMPACT_STRINGS" "Z" (.int z) := by
    obtain ⟨cfS, iS, kS, fS, st, cS, t1, t2, t3, t4, t5, t6, t7⟩ := S
    exact StaticIs.there (s := { Z with heap := P.U.heap }) ⟨cfS, iS, kS, fS, st, cS, t1, t2, t3, t4, t5, (fun q => by rw [q] at t6; cases t6), t7⟩ al rfl
  obtain ⟨v, B, X', ⟨⟨hv, E', V', q1, q2, q3, q4, q5, q6, q7, q8, q9, q10, q11⟩, hl, hc, hs⟩, st⟩ := New1.pays x D fV fC b A z (tab_of (moved hZ hw)) hfr hlo m meth c P g ig mk _ X hg hsize hdg hW hn ⟨r1, r2, rfl, hB, F1, F2, hA, hS, hz, l0, l2, hp⟩
  have al' : Z.vm.Alike B.U.vm := hZ.alike.trans X'.warmed.alike
  have hsz : E'.slots.size = D.slots.size := by
    obtain ⟨-, -, -, kB, w1, w2, w3⟩ := q1
    obtain ⟨kB', y1, y2⟩ := al'.2.2 _ _ e3
    rw [q2.2.1] at w1
    cases w1.symm.trans y1
    rw [w3, e5 i3, y2]
  refine ⟨v, B, X', ⟨_, ⟨hv, ?_, ⟨by omega, fun y cy hy hn' => q10 y cy (by simpa using hn') hy, fun y cy hy => ?_⟩, q11, ⟨E', _, q1.1, by rw [q2.2.1]; exact e2, by rw [q2.2.1]; exact e3, by rw [q2.1]; exact obV, fun _ => by rw [hsz]; exact e5 i3⟩,
    ⟨E', cfV, kV, iV, fV, q1.1, gV, stV, by rw [q2.1]; exact knV, by rw [q2.1]; exact obV, by rw [q2.2.1]; exact asV, q3⟩, ⟨E', cfC, kC, iC, fC, q1.1, gC, stC, by rw [q2.1]; exact knV, by rw [q2.1]; exact obV, by rw [q2.2.1]; exact asC, q4⟩,
    ⟨V', ⟨q5.1, State.isArrayOf_alike al'.symm q5.2.1, q5.2.2.1⟩, q6, by rw [← al'.findClass]; exact q7, q8, fun j hj => by have := q9 j hj; rwa [Nat.zero_add] at this⟩, fun O n d w F n1 n2 => ?_⟩, hl, hc, hs⟩, st⟩
  · intro y hy
    simp only [List.mem_cons, List.not_mem_nil, or_false] at hy
    rcases hy with rfl | rfl <;> rfl
  · by_cases q : y = x
    · subst q
      cases hD.symm.trans hy
      exact ⟨E', q1.1, q2.2.1, q2.1, hsz⟩
    · exact ⟨cy, q10 y cy q hy, rfl, rfl, rfl⟩
  · obtain ⟨D3, cf, k, i, f, g1, g2, g3, g4, g5, g6, g7⟩ := F
    cases hD.symm.trans g1
    simp only [RoadKit.slotOf, g2, gV, gC, Option.map_some, Option.getD_some] at n1 n2
    exact ⟨E', cf, k, i, f, q1.1, g2, g3, by rw [q2.1]; exact g4, by rw [q2.1]; exact g5, by rw [q2.2.1]; exact g6, by rw [q2.2.2 f.slot (by simp [n1, n2])]; exact g7⟩
end StrChars.Road
namespace StrChars.Road
open Jvm Sem ClassFile Op Lib Jvm.Stand Jvm.Free Jvm.Free.XT
/-- WHAT COMES BACK, the byte[] as a list of values -/
def QA (Z : State) (x : Addr) (zn : Int32) (cs : List Int32) (h : Heap) (v : Option Value) (h' : Heap) (L : List Loc) : Prop := v = none ∧ (∀ y ∈ L, y.base = x) ∧ RoadKit.Keep h h' [x] ∧ h'.size = h.size + 1 ∧ RoadKit.Exa Z h' x ST ∧ RoadKit.Fld Z h' x ST "value" "[B" (.ref h.size) ∧ RoadKit.Fld Z h' x ST "coder" "B" (.int 0) ∧
  (∃ kb, Z.vm.findClass "[B" = some kb ∧ RoadKit.Arv Z h' h.size kb .byte zn (cs.map fun c => .int (lo8 c)) (.int 0)) ∧
  ∀ (O n d : String) (w : Value), RoadKit.Fld Z h x O n d w → RoadKit.slotOf Z O n d ≠ RoadKit.slotOf Z ST "value" "[B" → RoadKit.slotOf Z O n d ≠ RoadKit.slotOf Z ST "coder" "B" → RoadKit.Fld Z h' x O n d w
/-- **new String(chars) AT A CALL, THE ARRAYS AS LISTS**: the char[] at b holds cs, not empty, no char above 255 -/
theorem backArv {p : Program} {l : Launch} {e : Env} {R : Room} {s : State} {args : Array Value} {below : List Frame} {len W : Nat} {Z : State} {a0 : Array Value} {h : Heap} (hZ : Z.Warmed39 s.vm) (hw : ∀ d ∈ words, d.before a0 Z = true) {kI : Nat} (wi : (Jvm.Cond.instantiable ST kI).before a0 Z = true)
    {x b : Addr} {k : ClassId} {zn z : Int32} {cs : List Int32} {dv v0 c0 : Value} (E : RoadKit.Exa Z h x ST) (V : RoadKit.Fld Z h x ST "value" "[B" v0) (C : RoadKit.Fld Z h x ST "coder" "B" c0) (K : RoadKit.Arv Z h b k .char zn (cs.map Value.int) dv) (S : RoadKit.Sta Z h ST "COMPACT_STRINGS" "Z" (.int z)) (hz : ¬ z = 0)
    (hlen : zn.toNatClampNeg = cs.length) (h0 : 0 < cs.length) (hbig : cs.length ≤ 536870912) (hall : ∀ c ∈ cs, ¬ 255 < c) (hfr : 4 ≤ R.frames) (hlo : W + 65 ≤ R.locals) :
    Back l R p e below s args New1.yN len W (fun P a => a = #[.ref x, .ref b] ∧ P.U.heap = h ∧ P.cells + 1 ≤ R.cells ∧ P.slots + cs.length ≤ R.slots)
      (fun P _ v B => ∃ L, QA Z x zn cs h v B.U.heap L ∧ B.locs = P.locs ++ L ∧ B.cells = P.cells + 1 ∧ B.slots = P.slots + cs.length) := by
  obtain ⟨A, K1, K2, K3, K4, K5, K6⟩ := K
  have e : A.slots.size = cs.length := K3.trans hlen
  have hat : ∀ (i : Nat) (hi : i < cs.length), A.slots[i]? = some (.int cs[i]) := fun i hi => by rw [K5 i (by omega)]; simp [List.getD_eq_getElem?_getD, hi]
  have hcv : ∀ (i : Nat) (hi : i < cs.length), cv A i = cs[i] := fun i hi => by unfold cv; rw [hat i hi]
  have hty : Typed .char A := fun i v hv => by
    have hi : i < A.slots.size := (Array.getElem?_eq_some_iff.mp hv).1
    have q := K5 i hi
    rw [hv] at q
    rw [Option.some.inj q]
    exact K6 i hi
  refine Back.mono (back hZ hw wi E V C K1 hty S hz (by omega) (by omega) (fun i hi => by rw [hcv i (by omega)]; exact hall _ (List.getElem_mem _)) hfr hlo) (fun P a hp => ⟨hp.1, hp.2.1, hp.2.2.1, by rw [e]; exact hp.2.2.2⟩) (fun P a v B hp hq => ?_)
  obtain ⟨L, ⟨q1, q2, q3, q4, q5, q6, q7, ⟨V', v1, v2, v3, v4, v5⟩, q9⟩, hl, hc, hs⟩ := hq
  refine ⟨L, ⟨q1, q2, q3, q4, q5, q6, q7, ⟨V'.cls, v3, V', v1, rfl, by rw [v4, e, hlen], K4, fun i hi => ?_, fun i hi => ?_⟩, q9⟩, hl, hc, by rw [hs, e]⟩
  · have hi' : i < cs.length := by omega
    rw [v5 i (by omega), hcv i hi']; simp [List.getD_eq_getElem?_getD, hi']
  · have hi' : i < cs.length := by omega
    simp only [List.getD_eq_getElem?_getD, List.getElem?_map, List.getElem?_eq_getElem hi', Option.map_some, Option.getD_some]
    exact fits_lo8 _
end StrChars.Road
namespace StrChars.Road
open Jvm Sem ClassFile Op Lib Jvm.Stand Jvm.Free Jvm.Free.XT
/-- WHAT COMES BACK, in the writer's own shape -/
def QV (Z : State) (x : Addr) (N : Int32) (bs : List Int32) (h : Heap) (n0 : Nat) (v : Option Value) (h' : Heap) (L : List Loc) : Prop := v = none ∧ RoadKit.Fr n0 L ∧ RoadKit.Keep h h' [x] ∧ RoadKit.Exa Z h' x ST ∧ RoadKit.Fld Z h' x ST "coder" "B" (.int 0) ∧
  ∃ (t : Addr) (kb : ClassId), n0 ≤ t ∧ h.size ≤ t ∧ ¬ t = x ∧ RoadKit.Fld Z h' x ST "value" "[B" (.ref t) ∧ RoadKit.Arv Z h' t kb .byte N (bs.map Value.int) (.int 0)
/-- **new String(chars) AT A CALL, FOR THE WRITER**: a char[] of n known ints, each 0 to 255 -/
theorem backV {p : Program} {l : Launch} {e : Env} {R : Room} {s : State} {args : Array Value} {below : List Frame} {len W : Nat} {Z : State} {a0 : Array Value} {h : Heap} (hZ : Z.Warmed39 s.vm) (hw : ∀ d ∈ words, d.before a0 Z = true) {kI : Nat} (wi : (Jvm.Cond.instantiable ST kI).before a0 Z = true)
    {x b : Addr} {kC : ClassId} {cs bs : List Int32} {d v0 c0 : Value} {z N : Int32} {n n0 : Nat} (hx0 : n0 ≤ x) (hh0 : n0 ≤ h.size) (E : RoadKit.Exa Z h x ST) (V : RoadKit.Fld Z h x ST "value" "[B" v0) (C : RoadKit.Fld Z h x ST "coder" "B" c0) (K : RoadKit.Arv Z h b kC .char N (cs.map Value.int) d) (S : RoadKit.Sta Z h ST "COMPACT_STRINGS" "Z" (.int z)) (hz : ¬ z = 0)
    (hn : cs.length = n) (hN : N = Int32.ofNat n) (l0 : 0 < n) (l2 : n ≤ 4000) (hp : ∀ c ∈ cs, ¬ c < 0 ∧ ¬ (255 : Int32) < c) (hb : bs = cs.map (fun c => c.toInt8.toInt32)) (hfr : 4 ≤ R.frames) (hlo : W + 65 ≤ R.locals) :
    Back l R p e below s args (⟨"java/lang/String", "<init>", "([C)V"⟩ : MethodName) len W (fun P a => a = #[.ref x, .ref b] ∧ P.U.heap = h ∧ P.cells + 1 ≤ R.cells ∧ P.slots + n ≤ R.slots)
      (fun P _ v B => ∃ L, QV Z x N bs h n0 v B.U.heap L ∧ B.locs = P.locs ++ L ∧ B.cells = P.cells + 1 ∧ B.slots = P.slots + n) := by
  subst hn hN hb
  refine Back.mono (backArv hZ hw wi E V C K S hz (n32 (by omega)) l0 (by omega) (fun c hc => (hp c hc).2) hfr hlo) (fun P a hp => hp) (fun P a v B hp hq => ?_)
  obtain ⟨L, ⟨q1, q2, q3, q4, q5, q6, q7, ⟨kb, v1, v2⟩, q9⟩, hl, hc, hs⟩ := hq
  exact ⟨L, ⟨q1, fun y hy => by rw [q2 y hy]; exact hx0, q3, q5, q7, h.size, kb, hh0, Nat.le_refl _, Nat.ne_of_gt E.lt, q6, by rw [List.map_map]; exact v2⟩, hl, hc, hs⟩
end StrChars.Road
namespace StrChars
open Jvm Sem ClassFile Op Lib Jvm.Stand Jvm.Free.XT Jvm.Free.ALB Jvm.Free.JM Jvm.Free
open Jvm.Lib.Cold (StaticIs)
def hi8 (x : Int32) : Int32 := lo8 (x >>> ((8 : Int32) &&& 31))
/-- what StringUTF16.getChar makes of two bytes -/
def pairCh (u v : Int32) : Int32 := (((u &&& 255) <<< ((0 : Int32) &&& 31)) ||| ((v &&& 255) <<< ((8 : Int32) &&& 31))).toUInt32.toUInt16.toUInt32.toInt32
theorem lo8_and (x : Int32) : (lo8 x &&& 255).toBitVec.toNat = x.toBitVec.toNat % 256 := by
  have h : (lo8 x).toBitVec = (x.toBitVec.signExtend 8).signExtend 32 := by rw [lo8, Int8.toBitVec_toInt32, Int32.toBitVec_toInt8]
  rw [Int32.toBitVec_and, BitVec.toNat_and, h]
  have e : ((x.toBitVec.signExtend 8).signExtend 32).toNat % 256 = x.toBitVec.toNat % 256 := by
    rw [BitVec.toNat_signExtend]
    have hlt := x.toBitVec.isLt
    simp only [BitVec.toNat_setWidth, BitVec.toNat_signExtend]
    split <;> split <;> omega
  rw [← e]
  exact Nat.and_two_pow_sub_one_eq_mod _ 8
theorem pair_says {c : Int32} (h0 : ¬ c < 0) (h1 : ¬ 65535 < c) : pairCh (lo8 c) (hi8 c) = c := by
  rw [Int32.lt_iff_toInt_lt] at h0 h1
  have e0 : (0 : Int32).toInt = 0 := rfl
  have e1 : (65535 : Int32).toInt = 65535 := rfl
  have hc : c.toInt = c.toBitVec.toNat := by
    have := c.toBitVec.isLt
    have e : c.toInt = c.toBitVec.toInt := rfl
    rw [e] at h0 h1
    rw [e]
    rw [BitVec.toInt_eq_toNat_cond] at h0 h1 ⊢
    split at h0 <;> split <;> omega
  have hn : c.toBitVec.toNat < 65536 := by omega
  have a1 := lo8_and c
  have a2 : (hi8 c &&& 255).toBitVec.toNat = c.toBitVec.toNat / 256 := by
    rw [hi8, lo8_and]
    have e : ((8 : Int32) &&& 31) = 8 := by decide
    rw [e, Int32.toBitVec_shiftRight]
    have e2 : ((8 : Int32).toBitVec.smod 32) = 8#32 := by decide
    rw [e2, BitVec.sshiftRight_eq', BitVec.toNat_sshiftRight_of_msb_false (by rw [BitVec.msb_eq_false_iff_two_mul_lt]; omega)]
    show c.toBitVec.toNat >>> 8 % 256 = _
    rw [Nat.shiftRight_eq_div_pow]
    omega
  unfold pairCh
  apply Int32.toBitVec_inj.mp
  apply BitVec.eq_of_toNat_eq
  have f0 : ((0 : Int32) &&& 31) = 0 := by decide
  have f8 : ((8 : Int32) &&& 31) = 8 := by decide
  rw [f0, f8]
  have g : (((lo8 c &&& 255) <<< (0 : Int32)) ||| ((hi8 c &&& 255) <<< (8 : Int32))).toBitVec.toNat = c.toBitVec.toNat := by
    rw [Int32.toBitVec_or, Int32.toBitVec_shiftLeft, Int32.toBitVec_shiftLeft]
    have s0 : ((0 : Int32).toBitVec.smod 32) = 0#32 := by decide
    have s8 : ((8 : Int32).toBitVec.smod 32) = 8#32 := by decide
    rw [s0, s8, BitVec.toNat_or]
    simp only [BitVec.shiftLeft_eq', BitVec.toNat_shiftLeft, a1, a2]
    show (c.toBitVec.toNat % 256) <<< 0 % 2 ^ 32 ||| (c.toBitVec.toNat / 256) <<< 8 % 2 ^ 32 = _
    rw [Nat.shiftLeft_zero, Nat.mod_eq_of_lt (show c.toBitVec.toNat % 256 < 2 ^ 32 by omega), Nat.mod_eq_of_lt (show (c.toBitVec.toNat / 256) <<< 8 < 2 ^ 32 by rw [Nat.shiftLeft_eq]; omega), Nat.or_comm, ← Nat.shiftLeft_add_eq_or_of_lt (by omega), Nat.shiftLeft_eq]
    omega
  show BitVec.toNat (((((lo8 c &&& 255) <<< (0 : Int32)) ||| ((hi8 c &&& 255) <<< (8 : Int32))).toBitVec.setWidth 16).setWidth 32) = _
  rw [BitVec.toNat_setWidth, BitVec.toNat_setWidth, g]
  omega
end StrChars
namespace StrChars
open Jvm Sem ClassFile Op Lib Jvm.Stand Jvm.Free.XT Jvm.Free.ALB Jvm.Free.JM Jvm.Free
open Jvm.Lib.Cold (StaticIs)
/-- the array's cell V codes the n chars f 0 .. f (n - 1) by the coder cd, as the JDK does: coder 1 just where some char is above 255 -/
def Cod (cd : Int32) (n : Nat) (f : Nat → Int32) (V : Cell) : Prop := (cd = 0 ∧ V.slots.size = n ∧ ∀ j, j < n → V.slots[j]? = some (.int (lo8 (f j))) ∧ ¬ 255 < f j) ∨ (cd = 1 ∧ V.slots.size = 2 * n ∧ (∀ j, j < n → V.slots[2 * j]? = some (.int (lo8 (f j))) ∧ V.slots[2 * j + 1]? = some (.int (hi8 (f j)))) ∧ ∃ j, j < n ∧ 255 < f j)
/-- **x is a String of the n chars f 0 .. f (n - 1)**, Latin-1 or UTF-16; its array at t has the cell V -/
def Txt (x t : Addr) (V : Cell) (cd : Int32) (n : Nat) (f : Nat → Int32) (U : State) : Prop := Exact "java/lang/String" x U ∧ Has x "java/lang/String" "value" "[B" (.ref t) U ∧ Has x "java/lang/String" "coder" "B" (.int cd) U ∧ XT.Arr .byte t V U ∧ Cod cd n f V ∧ ∀ j, j < n → ¬ f j < 0 ∧ ¬ 65535 < f j
theorem Txt.mv {x t : Addr} {V : Cell} {cd : Int32} {n : Nat} {f : Nat → Int32} {U U' : State} (h : Txt x t V cd n f U) (hal : U.vm.Alike U'.vm) (hh : U'.heap = U.heap) : Txt x t V cd n f U' := ⟨h.1.mv hal hh, h.2.1.mv hal hh, h.2.2.1.mv hal hh, h.2.2.2.1.mv hal hh, h.2.2.2.2⟩
end StrChars
namespace StrChars.Road
open Jvm Sem ClassFile Op Lib Jvm.Stand Jvm.Free Jvm.Free.XT
open Jvm.Lib.Cold (StaticIs)
theorem consq {a : Array Value} {s : State} {c : Jvm.Cond} {L : List Jvm.Cond} (h0 : c.before a s = true) (h : ∀ w ∈ L, w.before a s = true) : ∀ w ∈ c :: L, w.before a s = true := fun w hw => (List.mem_cons.mp hw).elim (fun e => e ▸ h0) (h w)
/-- the bytes of the chars cs, low before high -/
def wideBytes : List Int32 → List Value
  | [] => []
  | c :: cs => .int (lo8 c) :: .int (hi8 c) :: wideBytes cs
theorem wide_lo (d : Value) : ∀ (cs : List Int32) (j : Nat), j < cs.length → (wideBytes cs).getD (2 * j) d = .int (lo8 (cs.getD j 0))
  | [], j, h => absurd h (Nat.not_lt_zero j)
  | c :: cs, 0, _ => rfl
  | c :: cs, j + 1, h => by
    have q := wide_lo d cs j (by simpa using h)
    rw [show 2 * (j + 1) = 2 * j + 1 + 1 from by omega]
    simpa [wideBytes] using q
theorem wide_hi (d : Value) : ∀ (cs : List Int32) (j : Nat), j < cs.length → (wideBytes cs).getD (2 * j + 1) d = .int (hi8 (cs.getD j 0))
  | [], j, h => absurd h (Nat.not_lt_zero j)
  | c :: cs, 0, _ => rfl
  | c :: cs, j + 1, h => by
    have q := wide_hi d cs j (by simpa using h)
    rw [show 2 * (j + 1) + 1 = 2 * j + 1 + 1 + 1 from by omega]
    simpa [wideBytes] using q
theorem low_at (d : Value) (cs : List Int32) (j : Nat) (h : j < cs.length) : (cs.map fun c => Value.int (lo8 c)).getD j d = .int (lo8 (cs.getD j 0)) := by
  simp [List.getD_eq_getElem?_getD, h]
/-- an array of N2 bytes vs codes the chars cs by the coder cd -/
def CodA (cs : List Int32) (cd N2 : Int32) (vs : List Value) : Prop := (cd = 0 ∧ N2 = Int32.ofNat cs.length ∧ vs = (cs.map fun c => Value.int (lo8 c)) ∧ ∀ c ∈ cs, ¬ 255 < c) ∨ (cd = 1 ∧ N2 = Int32.ofNat (2 * cs.length) ∧ vs = wideBytes cs ∧ ∃ c ∈ cs, 255 < c)
theorem CodA.cod {cs : List Int32} {cd N2 : Int32} {vs : List Value} {V : Cell} (h : CodA cs cd N2 vs) (hn : 2 * cs.length < 2 ^ 31) (hs : V.slots.size = N2.toNatClampNeg) (hv : RoadKit.Has V vs (.int 0)) : Cod cd cs.length (fun j => cs.getD j 0) V := by
  rcases h with ⟨rfl, rfl, rfl, h⟩ | ⟨rfl, rfl, rfl, c, hc, hw⟩
  · rw [n32 (by omega)] at hs
    exact Or.inl ⟨rfl, hs, fun j hj => ⟨by rw [hv j (by omega), low_at _ _ _ hj], by
      have e : cs.getD j 0 = cs[j] := by simp [List.getD_eq_getElem?_getD, hj]
      show ¬ 255 < cs.getD j 0
      rw [e]; exact h _ (List.getElem_mem _)⟩⟩
  · rw [n32 (by omega)] at hs
    obtain ⟨j, hj, rfl⟩ := List.getElem_of_mem hc
    exact Or.inr ⟨rfl, hs, fun j hj => ⟨by rw [hv _ (by omega), wide_lo _ _ _ hj], by rw [hv _ (by omega), wide_hi _ _ _ hj]⟩, j, hj, by
      have e : cs.getD j 0 = cs[j] := by simp [List.getD_eq_getElem?_getD, hj]
      show 255 < cs.getD j 0
      rw [e]; exact hw⟩
/-- an object of exactly java/lang/String, its two fields found: as the laws ask it -/
theorem strObj {Z U : State} {a0 : Array Value} {kI : Nat} (wi : (Jvm.Cond.instantiable ST kI).before a0 Z = true) (al : Z.vm.Alike U.vm) {x : Addr} {v0 c0 : Value} (E : RoadKit.Exa Z U.heap x ST) (V : RoadKit.Fld Z U.heap x ST "value" "[B" v0) (C : RoadKit.Fld Z U.heap x ST "coder" "B" c0) :
    ∃ (D : Cell) (fV fC : Field), Blank ST x D U ∧ Found ST "value" "[B" fV U ∧ Found ST "coder" "B" fC U ∧ D.slots[fV.slot]? = some v0 ∧ D.slots[fC.slot]? = some c0 ∧ RoadKit.slotOf Z ST "value" "[B" = fV.slot ∧ RoadKit.slotOf Z ST "coder" "B" = fC.slot := by
  obtain ⟨D, cfV, kV, iV, fV, hD, gV, stV, knV, obV, asV, slV⟩ := V
  obtain ⟨D', cfC, kC, iC, fC, hD', gC, stC, -, -, asC, slC⟩ := C
  cases hD.symm.trans hD'
  obtain ⟨D2, kD, e1, e2, e3, e4, e5⟩ := E
  cases hD.symm.trans e1
  obtain ⟨c2, k2, i1, i2, i3, -⟩ := Cond.instantiable_spec wi
  cases e2.symm.trans i1
  cases e3.symm.trans i2
  obtain ⟨kU, u1, u2⟩ := al.2.2 _ _ e3
  exact ⟨D, fV, fC, ⟨hD, ⟨knV, fun q hq => by rw [hq] at obV; cases obV⟩, by rw [al.findClass]; exact e2, kU, u1, by rw [u2]; exact i3, by rw [u2]; exact e5 i3⟩, ⟨SBG.found_only al ⟨cfV, kV, iV, gV⟩, stV⟩, ⟨SBG.found_only al ⟨cfC, kC, iC, gC⟩, stC⟩, slV, slC, by simp [RoadKit.slotOf, gV], by simp [RoadKit.slotOf, gC]⟩
theorem sta_is {Z U : State} (al : Z.vm.Alike U.vm) {C n d : String} {v : Value} (S : RoadKit.Sta Z U.heap C n d v) : StaticIs U C n d v := by
  obtain ⟨cfS, iS, kS, fS, st, cS, t1, t2, t3, t4, t5, t6, t7⟩ := S
  exact StaticIs.there (s := { Z with heap := U.heap }) ⟨cfS, iS, kS, fS, st, cS, t1, t2, t3, t4, t5, (fun q => by rw [q] at t6; cases t6), t7⟩ al rfl
end StrChars.Road
namespace StrChars
open Jvm Sem ClassFile Op Lib Jvm.Stand Jvm.Free.XT Jvm.Free.ALB Jvm.Free.JM Jvm.Free
open Jvm.Lib.Cold (StaticIs)
/-- what place i of a byte[]'s cell holds -/
def yv (A : Cell) (i : Nat) : Int32 := match A.slots[i]? with | some (.int x) => x | _ => 0
theorem yv_get {a : Addr} {A : Cell} {U : State} (h : XT.Arr .byte a A U) (ht : Typed .byte A) {i : Nat} (hi : i < A.slots.size) : A.slots[i]? = some (.int (yv A i)) := by
  have e := Array.getElem?_eq_getElem hi
  have f := ht i _ e
  unfold yv; rw [e]
  generalize A.slots[i] = v at f
  cases v <;> simp [fits] at f ⊢
/-- the two arrays are equal, place for place -/
def EqC (A B : Cell) : Prop := A.slots.size = B.slots.size ∧ ∀ i, i < A.slots.size → yv A i = yv B i
/-- a boolean that says whether p -/
def Says01 (q : Prop) (r : Option Value) (s u : State) : Prop := ∃ v : Int32, r = some (.int v) ∧ u.heap = s.heap ∧ ((v = 1 ∧ q) ∨ (v = 0 ∧ ¬ q))
theorem Says01.mv {q : Prop} : ∀ r (U U' V V' : State), U'.heap = U.heap → V.vm.Alike V'.vm → V'.heap = V.heap → Says01 q r U V → Says01 q r U' V' :=
  fun r U U' V V' h1 _ h2 ⟨v, a, b, c⟩ => ⟨v, a, by rw [h1, h2]; exact b, c⟩
namespace LEq
def yN : MethodName := ⟨"java/lang/StringLatin1", "equals", "([B[B)Z"⟩
abbrev yB : ByteArray := jdk_43_method_13_code
theorem d0 : decode yB 0 = .ok (.aload_n 0, 1) := by decide +kernel
theorem d1 : decode yB 1 = .ok (.arraylength, 1) := by decide +kernel
theorem d2 : decode yB 2 = .ok (.aload_n 1, 1) := by decide +kernel
theorem d3 : decode yB 3 = .ok (.arraylength, 1) := by decide +kernel
theorem d4 : decode yB 4 = .ok (.if_icmp (.ne) 30, 3) := by decide +kernel
theorem d7 : decode yB 7 = .ok (.iconst 0, 1) := by decide +kernel
theorem d8 : decode yB 8 = .ok (.istore_n 2, 1) := by decide +kernel
theorem d9 : decode yB 9 = .ok (.iload_n 2, 1) := by decide +kernel
theorem d10 : decode yB 10 = .ok (.aload_n 0, 1) := by decide +kernel
theorem d11 : decode yB 11 = .ok (.arraylength, 1) := by decide +kernel
theorem d12 : decode yB 12 = .ok (.if_icmp (.ge) 20, 3) := by decide +kernel
theorem d15 : decode yB 15 = .ok (.aload_n 0, 1) := by decide +kernel
theorem d16 : decode yB 16 = .ok (.iload_n 2, 1) := by decide +kernel
theorem d17 : decode yB 17 = .ok (.baload, 1) := by decide +kernel
theorem d18 : decode yB 18 = .ok (.aload_n 1, 1) := by decide +kernel
theorem d19 : decode yB 19 = .ok (.iload_n 2, 1) := by decide +kernel
theorem d20 : decode yB 20 = .ok (.baload, 1) := by decide +kernel
theorem d21 : decode yB 21 = .ok (.if_icmp (.eq) 5, 3) := by decide +kernel
theorem d24 : decode yB 24 = .ok (.iconst 0, 1) := by decide +kernel
theorem d25 : decode yB 25 = .ok (.ireturn, 1) := by decide +kernel
theorem d26 : decode yB 26 = .ok (.iinc 2 1, 3) := by decide +kernel
theorem d29 : decode yB 29 = .ok (.goto (-20), 3) := by decide +kernel
theorem d32 : decode yB 32 = .ok (.iconst 1, 1) := by decide +kernel
theorem d33 : decode yB 33 = .ok (.ireturn, 1) := by decide +kernel
theorem d34 : decode yB 34 = .ok (.iconst 0, 1) := by decide +kernel
theorem d35 : decode yB 35 = .ok (.ireturn, 1) := by decide +kernel
def site : List Cond := []
def tab : Cond := tabOf yN yB 3 (some .boolean) site
def P (a : Addr) (A : Cell) (b : Addr) (B : Cell) (args : Array Value) (s : State) : Prop := args = #[.ref a, .ref b] ∧ XT.Arr .byte a A s ∧ Typed .byte A ∧ XT.Arr .byte b B s ∧ Typed .byte B
/-- whether two byte[] are equal, place for place -/
theorem law (l : Launch) (a : Addr) (A : Cell) (b : Addr) (B : Cell) : Law l yN 2 2 0 0 yB 3 (some .boolean) site (P a A b B) (Says01 (EqC A B)) [] 0 0 := by
  refine Law.of_walk (plainFor_of_name (by decide +kernel)) (by decide +kernel) (by decide +kernel) (by decide) (fun _ _ h => by rw [h.1]; rfl) (fun _ U U' hal hh h => ⟨h.1, h.2.1.mv hal hh, h.2.2.1, h.2.2.2.1.mv hal hh, h.2.2.2.2⟩) (fun r U U' V V' h1 hal h2 h => Says01.mv r U U' V V' h1 hal h2 h) ?_
  intro p e s m args below meth c s₁ X0 hexec hbytes hml hret hlk hnm hown hh0 W hP
  obtain ⟨rfl, hA, tA, hB, tB⟩ := hP
  have a31 := hA.2.2.2
  have b31 := hB.2.2.2
  have hA0 := hA.mv X0.warmed.alike hh0
  have hB0 := hB.mv X0.warmed.alike hh0
  have c1 : Steps p.tables e below (s₁.setTop (entryFrame m #[.ref a, .ref b] 3)) (s₁.setTop (mkF m 0 #[.val (.ref a), .val (.ref b), .unset] [])) := entry rfl
  have c2 : Steps p.tables e below (s₁.setTop (entryFrame m #[.ref a, .ref b] 3)) (s₁.setTop (mkF m 4 #[.val (.ref a), .val (.ref b), .unset] [.int (Int32.ofNat B.slots.size), .int (Int32.ofNat A.slots.size)])) := c1.trans (by
    refine XS.aloadN X0.here hexec rfl (hb hbytes d0) rfl rfl ?_
    refine X0.alen hexec hA0 rfl rfl (hb hbytes d1) ?_
    refine XS.aloadN X0.here hexec rfl (hb hbytes d2) rfl rfl ?_
    refine X0.alen hexec hB0 rfl rfl (hb hbytes d3) ?_
    exact Steps.refl _)
  by_cases hs : A.slots.size = B.slots.size
  · have c3 : Steps p.tables e below (s₁.setTop (entryFrame m #[.ref a, .ref b] 3)) (s₁.setTop (mkF m 9 #[.val (.ref a), .val (.ref b), .val (.int 0)] [])) := c2.trans (by
      refine XS.icmpNo X0.here hexec rfl (hb hbytes d4) rfl (ii_ne_f (by rw [hs])) ?_
      refine iconstV X0.here hexec rfl 0 (hb hbytes d7) (by decide) ?_
      refine XS.istoreN X0.here hexec rfl (hb hbytes d8) rfl rfl ?_
      exact Steps.refl _)
    have loop : ∀ (r i : Nat), i + r = A.slots.size → (∀ j, j < i → yv A j = yv B j) → Steps p.tables e below (s₁.setTop (entryFrame m #[.ref a, .ref b] 3)) (s₁.setTop (mkF m 9 #[.val (.ref a), .val (.ref b), .val (.int (Int32.ofNat i))] [])) → ∃ (pc : Nat) (Ls : Array Slot) (v : Int32), (pc = 25 ∨ pc = 33) ∧ ((v = 1 ∧ EqC A B) ∨ (v = 0 ∧ ¬ EqC A B)) ∧ Steps p.tables e below (s₁.setTop (entryFrame m #[.ref a, .ref b] 3)) (s₁.setTop (mkF m pc Ls [.int v])) := by
      intro r
      induction r with
      | zero =>
        intro i hi he cl
        exact ⟨33, _, 1, Or.inr rfl, Or.inl ⟨rfl, hs, fun j hj => he j (by omega)⟩, cl.trans (by
          refine XS.iloadN X0.here hexec rfl (hb hbytes d9) rfl ?_
          refine XS.aloadN X0.here hexec rfl (hb hbytes d10) rfl rfl ?_
          refine X0.alen hexec hA0 rfl rfl (hb hbytes d11) ?_
          refine XS.icmpYes X0.here hexec rfl (pc0 := 12) rfl (hb hbytes d12) rfl (ii_ge_t (nlt32 (by omega) (by omega))) (by decide) rfl ?_
          refine iconstV X0.here hexec rfl 1 (hb hbytes d32) (by decide) ?_
          exact Steps.refl _)⟩
      | succ r ih =>
        intro i hi he cl
        have c4 : Steps p.tables e below (s₁.setTop (entryFrame m #[.ref a, .ref b] 3)) (s₁.setTop (mkF m 21 #[.val (.ref a), .val (.ref b), .val (.int (Int32.ofNat i))] [.int (yv B i), .int (yv A i)])) := cl.trans (by
          refine XS.iloadN X0.here hexec rfl (hb hbytes d9) rfl ?_
          refine XS.aloadN X0.here hexec rfl (hb hbytes d10) rfl rfl ?_
          refine X0.alen hexec hA0 rfl rfl (hb hbytes d11) ?_
          refine XS.icmpNo X0.here hexec rfl (hb hbytes d12) rfl (ii_ge_f (lt32 (by omega) (by omega))) ?_
          refine XS.aloadN X0.here hexec rfl (hb hbytes d15) rfl rfl ?_
          refine XS.iloadN X0.here hexec rfl (hb hbytes d16) rfl ?_
          refine X0.aget hexec hA0 rfl (yv_get hA tA (i := i) (by omega)) rfl rfl (hb hbytes d17) ?_
          refine XS.aloadN X0.here hexec rfl (hb hbytes d18) rfl rfl ?_
          refine XS.iloadN X0.here hexec rfl (hb hbytes d19) rfl ?_
          refine X0.aget hexec hB0 rfl (yv_get hB tB (i := i) (by omega)) rfl rfl (hb hbytes d20) ?_
          exact Steps.refl _)
        by_cases hv : yv A i = yv B i
        · have c5 : Steps p.tables e below (s₁.setTop (entryFrame m #[.ref a, .ref b] 3)) (s₁.setTop (mkF m 9 #[.val (.ref a), .val (.ref b), .val (.int (Int32.ofNat i + 1))] [])) := c4.trans (by
            refine XS.icmpYes X0.here hexec rfl (pc0 := 21) rfl (hb hbytes d21) rfl (ii_eq_t hv) (by decide) rfl ?_
            refine iincV X0.here hexec rfl 1 (hb hbytes d26) (by decide) rfl rfl ?_
            refine XS.goto X0.here hexec rfl (pc0 := 29) rfl (hb hbytes d29) (by decide) rfl ?_
            exact Steps.refl _)
          rw [succ32] at c5
          exact ih (i + 1) (by omega) (fun j hj => by
            by_cases e : j = i
            · rw [e]; exact hv
            · exact he j (by omega)) c5
        · exact ⟨25, _, 0, Or.inl rfl, Or.inr ⟨rfl, fun q => hv (q.2 i (by omega))⟩, c4.trans (by
            refine XS.icmpNo X0.here hexec rfl (hb hbytes d21) rfl (ii_eq_f hv) ?_
            refine iconstV X0.here hexec rfl 0 (hb hbytes d24) (by decide) ?_
            exact Steps.refl _)⟩
    obtain ⟨pc, Ls, v, hpc, hv, cz⟩ := loop A.slots.size 0 (by omega) (fun j hj => absurd hj (Nat.not_lt_zero j)) c3
    have nv : narrow .boolean (.int v) = .int v := by rcases hv with ⟨rfl, -⟩ | ⟨rfl, -⟩ <;> rfl
    rcases hpc with rfl | rfl
    · exact ⟨s₁, some (.int v), _, _, _, X0, rfl, rfl, rfl, (fun h => by cases h), ⟨v, rfl, hh0, hv⟩, fun fs hl => cz.trans (X0.ireturnOut hexec hret nv (Or.inr (Or.inl rfl)) (hb hbytes d25) hl)⟩
    · exact ⟨s₁, some (.int v), _, _, _, X0, rfl, rfl, rfl, (fun h => by cases h), ⟨v, rfl, hh0, hv⟩, fun fs hl => cz.trans (X0.ireturnOut hexec hret nv (Or.inr (Or.inl rfl)) (hb hbytes d33) hl)⟩
  · have c3 : Steps p.tables e below (s₁.setTop (entryFrame m #[.ref a, .ref b] 3)) (s₁.setTop (mkF m 35 #[.val (.ref a), .val (.ref b), .unset] [.int 0])) := c2.trans (by
      refine XS.icmpYes X0.here hexec rfl (pc0 := 4) rfl (hb hbytes d4) rfl (ii_ne_t (ne32 a31 b31 hs)) (by decide) rfl ?_
      refine iconstV X0.here hexec rfl 0 (hb hbytes d34) (by decide) ?_
      exact Steps.refl _)
    exact ⟨s₁, some (.int 0), _, _, _, X0, rfl, rfl, rfl, (fun h => by cases h), ⟨0, rfl, hh0, Or.inr ⟨rfl, fun q => hs q.1⟩⟩, fun fs hl => c3.trans (X0.ireturnOut hexec hret rfl (Or.inr (Or.inl rfl)) (hb hbytes d35) hl)⟩
end LEq
theorem Cod.ty {cd : Int32} {n : Nat} {f : Nat → Int32} {V : Cell} (h : Cod cd n f V) : Typed .byte V := fun i v hv => by
  have hi : i < V.slots.size := (Array.getElem?_eq_some_iff.mp hv).1
  rcases h with ⟨-, k1, k2⟩ | ⟨-, k1, k2, -⟩
  · rw [(k2 i (by omega)).1] at hv; cases hv; exact fits_lo8 _
  · rcases Nat.mod_two_eq_zero_or_one i with e | e
    · obtain ⟨j, rfl⟩ : ∃ j, i = 2 * j := ⟨i / 2, by omega⟩
      rw [(k2 j (by omega)).1] at hv; cases hv; exact fits_lo8 _
    · obtain ⟨j, rfl⟩ : ∃ j, i = 2 * j + 1 := ⟨i / 2, by omega⟩
      rw [(k2 j (by omega)).2] at hv; cases hv; exact fits_lo8 _
/-- the same text -/
def SameT (n : Nat) (f : Nat → Int32) (k : Nat) (g : Nat → Int32) : Prop := n = k ∧ ∀ j, j < n → f j = g j
theorem lo8_inj {x y : Int32} (h0 : ¬ x < 0) (h1 : ¬ 255 < x) (k0 : ¬ y < 0) (k1 : ¬ 255 < y) (h : lo8 x = lo8 y) : x = y := by
  rw [← lo8_mask h0 h1, ← lo8_mask k0 k1, h]
/-- arrays coded by one coder are equal just where the texts are -/
theorem Cod.eqv {cd : Int32} {n k : Nat} {f g : Nat → Int32} {V V' : Cell} (h : Cod cd n f V) (h' : Cod cd k g V') (hf : ∀ j, j < n → ¬ f j < 0 ∧ ¬ 65535 < f j) (hg : ∀ j, j < k → ¬ g j < 0 ∧ ¬ 65535 < g j) : EqC V V' ↔ SameT n f k g := by
  have yvv : ∀ {W : Cell} {i : Nat} {x : Int32}, W.slots[i]? = some (.int x) → yv W i = x := fun q => by unfold yv; rw [q]
  rcases h with ⟨rfl, k1, k2⟩ | ⟨rfl, k1, k2, -⟩
  · rcases h' with ⟨-, m1, m2⟩ | ⟨e, -⟩
    · constructor
      · rintro ⟨e1, e2⟩
        refine ⟨by omega, fun j hj => ?_⟩
        have q := e2 j (by omega)
        rw [yvv (k2 j hj).1, yvv (m2 j (by omega)).1] at q
        exact lo8_inj (hf j hj).1 (k2 j hj).2 (hg j (by omega)).1 (m2 j (by omega)).2 q
      · rintro ⟨rfl, e2⟩
        refine ⟨by omega, fun j hj => ?_⟩
        rw [yvv (k2 j (by omega)).1, yvv (m2 j (by omega)).1, e2 j (by omega)]
    · exact absurd e (by decide)
  · rcases h' with ⟨e, -⟩ | ⟨-, m1, m2, -⟩
    · exact absurd e (by decide)
    · constructor
      · rintro ⟨e1, e2⟩
        refine ⟨by omega, fun j hj => ?_⟩
        have q1 := e2 (2 * j) (by omega)
        have q2 := e2 (2 * j + 1) (by omega)
        rw [yvv (k2 j hj).1, yvv (m2 j (by omega)).1] at q1
        rw [yvv (k2 j hj).2, yvv (m2 j (by omega)).2] at q2
        rw [← pair_says (hf j hj).1 (hf j hj).2, ← pair_says (hg j (by omega)).1 (hg j (by omega)).2, q1, q2]
      · rintro ⟨rfl, e2⟩
        refine ⟨by omega, fun i hi => ?_⟩
        rcases Nat.mod_two_eq_zero_or_one i with e | e
        · obtain ⟨j, rfl⟩ : ∃ j, i = 2 * j := ⟨i / 2, by omega⟩
          rw [yvv (k2 j (by omega)).1, yvv (m2 j (by omega)).1, e2 j (by omega)]
        · obtain ⟨j, rfl⟩ : ∃ j, i = 2 * j + 1 := ⟨i / 2, by omega⟩
          rw [yvv (k2 j (by omega)).2, yvv (m2 j (by omega)).2, e2 j (by omega)]
/-- two codings differ: so do the texts -/
theorem Cod.dif {cd cd' : Int32} {n k : Nat} {f g : Nat → Int32} {V V' : Cell} (h : Cod cd n f V) (h' : Cod cd' k g V') (hne : ¬ cd = cd') : ¬ SameT n f k g := by
  rintro ⟨rfl, e⟩
  rcases h with ⟨rfl, -, k2⟩ | ⟨rfl, -, -, j, hj, hw⟩
  · rcases h' with ⟨rfl, -⟩ | ⟨-, -, -, j, hj, hw⟩
    · exact hne rfl
    · exact (k2 j hj).2 (by rw [e j hj]; exact hw)
  · rcases h' with ⟨-, -, m2⟩ | ⟨rfl, -⟩
    · exact (m2 j hj).2 (by rw [← e j hj]; exact hw)
    · exact hne rfl
/-- an object of exactly C is an instance of C -/
theorem cinst {p : Program} {l : Launch} {e : Env} {R : Room} {s : State} {m : MethodId} {args : Array Value} {below : List Frame} {meth : Method} {c : Code} {T : State} {locs : List Loc} {cells slots : Nat} (X : Stand p l e R s m args below meth c T locs cells slots) (hexec : p.tables.exec = Jvm.exec) {own C : String} {index : Nat} (hown : s.vm.findClass own = some m.cls) (hlink : (Cond.classLink own index C).before args s = true) {a : Addr} (hE : Exact C a T)
    {g : JFrame} (hg : g.method = m) {rest : List Value} (hstack : g.stack = .ref a :: rest) (hdg : decode c.code g.pc = .ok (.instanceof index, 3)) :
    ∃ T', Stand p l e R s m args below meth c T' locs cells slots ∧ T'.heap = T.heap ∧ ∀ target, Steps p.tables e below (T'.setTop { g with pc := g.pc + 3, stack := .int 1 :: rest }) target → Steps p.tables e below (T.setTop g) target := by
  obtain ⟨cB, h1, D, h2, h3, h4⟩ := hE
  have h1' : s.vm.findClass C = some cB := by rw [← X.warmed.alike.findClass]; exact h1
  obtain ⟨vm', X', st⟩ := X.instanceofYes hexec hown hlink h2 h4 h1' (by rw [h3]; exact Jvm.Free.SB.assignable_self _ _) hg hstack hdg
  exact ⟨_, X', rfl, st⟩
theorem cself {p : Program} {l : Launch} {e : Env} {R : Room} {s : State} {m : MethodId} {args : Array Value} {below : List Frame} {meth : Method} {c : Code} {T : State} {locs : List Loc} {cells slots : Nat} (X : Stand p l e R s m args below meth c T locs cells slots) (hexec : p.tables.exec = Jvm.exec) {own C : String} {index : Nat} (hown : s.vm.findClass own = some m.cls) (hlink : (Cond.classLink own index C).before args s = true) {a : Addr} (hE : Exact C a T)
    {g : JFrame} (hg : g.method = m) {rest : List Value} (hstack : g.stack = .ref a :: rest) (hdg : decode c.code g.pc = .ok (.checkcast index, 3)) :
    ∃ T', Stand p l e R s m args below meth c T' locs cells slots ∧ T'.heap = T.heap ∧ ∀ target, Steps p.tables e below (T'.setTop { g with pc := g.pc + 3, stack := .ref a :: rest }) target → Steps p.tables e below (T.setTop g) target := by
  obtain ⟨cB, h1, D, h2, h3, h4⟩ := hE
  have h1' : s.vm.findClass C = some cB := by rw [← X.warmed.alike.findClass]; exact h1
  obtain ⟨vm', X', st⟩ := X.checkcastYes hexec hown hlink h2 h4 h1' (by rw [h3]; exact Jvm.Free.SB.assignable_self _ _) hg hstack hdg
  exact ⟨_, X', rfl, fun t h => st t (by rw [← hstack] at h; exact h)⟩
namespace SEq
def yN : MethodName := ⟨"java/lang/String", "equals", "(Ljava/lang/Object;)Z"⟩
abbrev yB : ByteArray := jdk_42_method_66_code
theorem d0 : decode yB 0 = .ok (.aload_n 0, 1) := by decide +kernel
theorem d1 : decode yB 1 = .ok (.aload_n 1, 1) := by decide +kernel
theorem d2 : decode yB 2 = .ok (.if_acmp (.ne) 5, 3) := by decide +kernel
theorem d5 : decode yB 5 = .ok (.iconst 1, 1) := by decide +kernel
theorem d6 : decode yB 6 = .ok (.ireturn, 1) := by decide +kernel
theorem d7 : decode yB 7 = .ok (.aload_n 1, 1) := by decide +kernel
theorem d8 : decode yB 8 = .ok (.instanceof 10, 3) := by decide +kernel
theorem d11 : decode yB 11 = .ok (.ifCond (.eq) 43, 3) := by decide +kernel
theorem d14 : decode yB 14 = .ok (.aload_n 1, 1) := by decide +kernel
theorem d15 : decode yB 15 = .ok (.checkcast 10, 3) := by decide +kernel
theorem d18 : decode yB 18 = .ok (.astore_n 2, 1) := by decide +kernel
theorem d19 : decode yB 19 = .ok (.getstatic 38, 3) := by decide +kernel
theorem d22 : decode yB 22 = .ok (.ifCond (.eq) 14, 3) := by decide +kernel
theorem d25 : decode yB 25 = .ok (.aload_n 0, 1) := by decide +kernel
theorem d26 : decode yB 26 = .ok (.getfield 15, 3) := by decide +kernel
theorem d29 : decode yB 29 = .ok (.aload_n 2, 1) := by decide +kernel
theorem d30 : decode yB 30 = .ok (.getfield 15, 3) := by decide +kernel
theorem d33 : decode yB 33 = .ok (.if_icmp (.ne) 21, 3) := by decide +kernel
theorem d36 : decode yB 36 = .ok (.aload_n 0, 1) := by decide +kernel
theorem d37 : decode yB 37 = .ok (.getfield 9, 3) := by decide +kernel
theorem d40 : decode yB 40 = .ok (.aload_n 2, 1) := by decide +kernel
theorem d41 : decode yB 41 = .ok (.getfield 9, 3) := by decide +kernel
theorem d44 : decode yB 44 = .ok (.invokestatic 541, 3) := by decide +kernel
theorem d47 : decode yB 47 = .ok (.ifCond (.eq) 7, 3) := by decide +kernel
theorem d50 : decode yB 50 = .ok (.iconst 1, 1) := by decide +kernel
theorem d51 : decode yB 51 = .ok (.goto 4, 3) := by decide +kernel
theorem d54 : decode yB 54 = .ok (.iconst 0, 1) := by decide +kernel
theorem d55 : decode yB 55 = .ok (.ireturn, 1) := by decide +kernel
def site : List Cond := [.classLink "java/lang/String" 10 "java/lang/String", .fieldLink "java/lang/String" 38 "java/lang/String" "COMPACT_STRINGS" "Z", .fieldLink "java/lang/String" 15 "java/lang/String" "coder" "B", .fieldLink "java/lang/String" 9 "java/lang/String" "value" "[B", LEq.tab] ++ staticW "java/lang/String" 541 LEq.yN
def tab : Cond := tabOf yN yB 3 (some .boolean) site
def P (x t : Addr) (V : Cell) (cd : Int32) (n : Nat) (f : Nat → Int32) (y t' : Addr) (V' : Cell) (cd' : Int32) (k : Nat) (g : Nat → Int32) (z : Int32) (args : Array Value) (s : State) : Prop := args = #[.ref x, .ref y] ∧ Txt x t V cd n f s ∧ Txt y t' V' cd' k g s ∧ StaticIs s "java/lang/String" "COMPACT_STRINGS" "Z" (.int z) ∧ ¬ z = 0
/-- equals(Object) of two Strings: whether the texts are the same -/
theorem law (l : Launch) (x t : Addr) (V : Cell) (cd : Int32) (n : Nat) (f : Nat → Int32) (y t' : Addr) (V' : Cell) (cd' : Int32) (k : Nat) (g : Nat → Int32) (z : Int32) : Law l yN 2 1 1 14 yB 3 (some .boolean) site (P x t V cd n f y t' V' cd' k g z) (Says01 (SameT n f k g)) [] 0 0 := by
  refine Law.of_walk (plainFor_of_name (by decide +kernel)) (by decide +kernel) (by decide +kernel) (by decide) (fun _ _ h => by rw [h.1]; rfl) (fun _ U U' hal hh h => ⟨h.1, h.2.1.mv hal hh, h.2.2.1.mv hal hh, h.2.2.2.1.there hal hh, h.2.2.2.2⟩) (fun r U U' V V' h1 hal h2 h => Says01.mv r U U' V V' h1 hal h2 h) ?_
  intro p e s m args below meth c s₁ X0 hexec hbytes hml hret hlk hnm hown hh0 W hP
  obtain ⟨rfl, hx, hy, s1, hz⟩ := hP
  have c1 : Steps p.tables e below (s₁.setTop (entryFrame m #[.ref x, .ref y] 3)) (s₁.setTop (mkF m 2 #[.val (.ref x), .val (.ref y), .unset] [.ref y, .ref x])) := Steps.trans (entry rfl) (by
    show Steps p.tables e below (s₁.setTop (mkF m 0 #[.val (.ref x), .val (.ref y), .unset] [])) _
    refine XS.aloadN X0.here hexec rfl (hb hbytes d0) rfl rfl ?_
    refine XS.aloadN X0.here hexec rfl (hb hbytes d1) rfl rfl ?_
    exact Steps.refl _)
  by_cases hxy : x = y
  · have c2 : Steps p.tables e below (s₁.setTop (entryFrame m #[.ref x, .ref y] 3)) (s₁.setTop (mkF m 6 #[.val (.ref x), .val (.ref y), .unset] [.int 1])) := c1.trans (by
      refine acmpNo X0.here hexec rfl (hb hbytes d2) rfl rfl rfl (by simp [acmp, hxy]) ?_
      refine iconstV X0.here hexec rfl 1 (hb hbytes d5) (by decide) ?_
      exact Steps.refl _)
    subst hxy
    have ec : cd = cd' := by
      obtain ⟨D, fd, a1, a2, a3⟩ := hx.2.2.1
      obtain ⟨D', fd', b1, b2, b3⟩ := hy.2.2.1
      cases a1.symm.trans b1
      obtain ⟨q1, q2, q3, q4⟩ := a2.1
      obtain ⟨r1, r2, r3, r4⟩ := b2.1
      cases q4.symm.trans r4
      cases a3.symm.trans b3; rfl
    have et : t = t' := by
      obtain ⟨D, fd, a1, a2, a3⟩ := hx.2.1
      obtain ⟨D', fd', b1, b2, b3⟩ := hy.2.1
      cases a1.symm.trans b1
      obtain ⟨q1, q2, q3, q4⟩ := a2.1
      obtain ⟨r1, r2, r3, r4⟩ := b2.1
      cases q4.symm.trans r4
      cases a3.symm.trans b3; rfl
    subst ec et
    have ev : V = V' := by cases hx.2.2.2.1.1.symm.trans hy.2.2.2.1.1; rfl
    subst ev
    have hs : SameT n f k g := (Cod.eqv hx.2.2.2.2.1 hy.2.2.2.2.1 hx.2.2.2.2.2 hy.2.2.2.2.2).mp ⟨rfl, fun _ _ => rfl⟩
    exact ⟨s₁, some (.int 1), _, _, _, X0, rfl, rfl, rfl, (fun h => by cases h), ⟨1, rfl, hh0, Or.inl ⟨rfl, hs⟩⟩, fun fs hl => c2.trans (X0.ireturnOut hexec hret rfl (Or.inr (Or.inl rfl)) (hb hbytes d6) hl)⟩
  · have c2 : Steps p.tables e below (s₁.setTop (entryFrame m #[.ref x, .ref y] 3)) (s₁.setTop (mkF m 8 #[.val (.ref x), .val (.ref y), .unset] [.ref y])) := c1.trans (by
      refine acmpYes X0.here hexec rfl (pc0 := 2) rfl (hb hbytes d2) rfl rfl rfl (by simp [acmp, hxy]) (by decide) rfl ?_
      refine XS.aloadN X0.here hexec rfl (hb hbytes d7) rfl rfl ?_
      exact Steps.refl _)
    obtain ⟨T3, X3, q3, st3⟩ := cinst X0 hexec hown (wk W (.classLink "java/lang/String" 10 "java/lang/String")) (hy.mv X0.warmed.alike hh0).1 (g := (mkF m 8 #[.val (.ref x), .val (.ref y), .unset] [.ref y])) rfl (rest := []) rfl (hb hbytes d8)
    have hh3 := q3.trans hh0
    have c4 : Steps p.tables e below (s₁.setTop (entryFrame m #[.ref x, .ref y] 3)) (T3.setTop (mkF m 15 #[.val (.ref x), .val (.ref y), .unset] [.ref y])) := (c2.trans (st3 _ (Steps.refl _))).trans (by
      refine XS.ifNo X3.here hexec rfl (hb hbytes d11) rfl (i0_eq_f (by decide)) ?_
      refine XS.aloadN X3.here hexec rfl (hb hbytes d14) rfl rfl ?_
      exact Steps.refl _)
    obtain ⟨T5, X5, q5, st5⟩ := cself X3 hexec hown (wk W (.classLink "java/lang/String" 10 "java/lang/String")) (hy.mv X3.warmed.alike hh3).1 (g := (mkF m 15 #[.val (.ref x), .val (.ref y), .unset] [.ref y])) rfl (rest := []) rfl (hb hbytes d15)
    have hh5 := q5.trans hh3
    have c6 : Steps p.tables e below (s₁.setTop (entryFrame m #[.ref x, .ref y] 3)) (T5.setTop (mkF m 19 #[.val (.ref x), .val (.ref y), .val (.ref y)] [])) := (c4.trans (st5 _ (Steps.refl _))).trans (by
      refine XS.astoreN X5.here hexec rfl (hb hbytes d18) rfl rfl rfl ?_
      exact Steps.refl _)
    obtain ⟨T7, X7, q7, st7⟩ := X5.sget hexec hown (wk W (.fieldLink "java/lang/String" 38 "java/lang/String" "COMPACT_STRINGS" "Z")) s1 (fun _ _ h => by rw [hh5]; exact h) (g := (mkF m 19 #[.val (.ref x), .val (.ref y), .val (.ref y)] [])) rfl (hb hbytes d19)
    have hh7 := q7.trans hh5
    have c8 : Steps p.tables e below (s₁.setTop (entryFrame m #[.ref x, .ref y] 3)) (T7.setTop (mkF m 26 #[.val (.ref x), .val (.ref y), .val (.ref y)] [.ref x])) := (c6.trans (st7 _ (Steps.refl _))).trans (by
      refine XS.ifNo X7.here hexec rfl (hb hbytes d22) rfl (i0_eq_f hz) ?_
      refine XS.aloadN X7.here hexec rfl (hb hbytes d25) rfl rfl ?_
      exact Steps.refl _)
    obtain ⟨T9, X9, q9, st9⟩ := X7.hget hexec hown (wk W (.fieldLink "java/lang/String" 15 "java/lang/String" "coder" "B")) (hx.mv X7.warmed.alike hh7).2.2.1 (g := (mkF m 26 #[.val (.ref x), .val (.ref y), .val (.ref y)] [.ref x])) rfl (rest := []) rfl (hb hbytes d26)
    have hh9 := q9.trans hh7
    have c10 : Steps p.tables e below (s₁.setTop (entryFrame m #[.ref x, .ref y] 3)) (T9.setTop (mkF m 30 #[.val (.ref x), .val (.ref y), .val (.ref y)] [.ref y, .int cd])) := (c8.trans (st9 _ (Steps.refl _))).trans (by
      refine XS.aloadN X9.here hexec rfl (hb hbytes d29) rfl rfl ?_
      exact Steps.refl _)
    obtain ⟨T11, X11, q11, st11⟩ := X9.hget hexec hown (wk W (.fieldLink "java/lang/String" 15 "java/lang/String" "coder" "B")) (hy.mv X9.warmed.alike hh9).2.2.1 (g := (mkF m 30 #[.val (.ref x), .val (.ref y), .val (.ref y)] [.ref y, .int cd])) rfl (rest := [.int cd]) rfl (hb hbytes d30)
    have hh11 := q11.trans hh9
    have c12 : Steps p.tables e below (s₁.setTop (entryFrame m #[.ref x, .ref y] 3)) (T11.setTop (mkF m 33 #[.val (.ref x), .val (.ref y), .val (.ref y)] [.int cd', .int cd])) := c10.trans (st11 _ (Steps.refl _))
    by_cases hcd : cd = cd'
    · subst hcd
      have c13 : Steps p.tables e below (s₁.setTop (entryFrame m #[.ref x, .ref y] 3)) (T11.setTop (mkF m 37 #[.val (.ref x), .val (.ref y), .val (.ref y)] [.ref x])) := c12.trans (by
        refine XS.icmpNo X11.here hexec rfl (hb hbytes d33) rfl (ii_ne_f rfl) ?_
        refine XS.aloadN X11.here hexec rfl (hb hbytes d36) rfl rfl ?_
        exact Steps.refl _)
      obtain ⟨T14, X14, q14, st14⟩ := X11.hget hexec hown (wk W (.fieldLink "java/lang/String" 9 "java/lang/String" "value" "[B")) (hx.mv X11.warmed.alike hh11).2.1 (g := (mkF m 37 #[.val (.ref x), .val (.ref y), .val (.ref y)] [.ref x])) rfl (rest := []) rfl (hb hbytes d37)
      have hh14 := q14.trans hh11
      have c15 : Steps p.tables e below (s₁.setTop (entryFrame m #[.ref x, .ref y] 3)) (T14.setTop (mkF m 41 #[.val (.ref x), .val (.ref y), .val (.ref y)] [.ref y, .ref t])) := (c13.trans (st14 _ (Steps.refl _))).trans (by
        refine XS.aloadN X14.here hexec rfl (hb hbytes d40) rfl rfl ?_
        exact Steps.refl _)
      obtain ⟨T16, X16, q16, st16⟩ := X14.hget hexec hown (wk W (.fieldLink "java/lang/String" 9 "java/lang/String" "value" "[B")) (hy.mv X14.warmed.alike hh14).2.1 (g := (mkF m 41 #[.val (.ref x), .val (.ref y), .val (.ref y)] [.ref y, .ref t])) rfl (rest := [.ref t]) rfl (hb hbytes d41)
      have hh16 := q16.trans hh14
      have c17 : Steps p.tables e below (s₁.setTop (entryFrame m #[.ref x, .ref y] 3)) (T16.setTop (mkF m 44 #[.val (.ref x), .val (.ref y), .val (.ref y)] [.ref t', .ref t])) := c15.trans (st16 _ (Steps.refl _))
      obtain ⟨v18, T18, X18, E18, g18⟩ := X16.callS hexec (LEq.law l t V t' V') hown (wks W (staticW "java/lang/String" 541 LEq.yN)) (wk W LEq.tab) (W := 0) (Nat.le_of_ble_eq_true rfl) (Nat.le_of_ble_eq_true rfl) (Nat.le_refl _) (Nat.le_refl _) (g := (mkF m 44 #[.val (.ref x), .val (.ref y), .val (.ref y)] [.ref t', .ref t])) rfl (by rw [hml]; rfl) c17 (argsL := [.ref t, .ref t']) (rest := []) rfl rfl (by show 2 * 0 + 0 ≤ _; decide) (hb hbytes d44) (⟨rfl, hx.2.2.2.1.mv X16.warmed.alike hh16, hx.2.2.2.2.1.ty, hy.2.2.2.1.mv X16.warmed.alike hh16, hy.2.2.2.2.1.ty⟩)
      obtain ⟨v, rfl, q18, hv⟩ := E18
      have iff := Cod.eqv hx.2.2.2.2.1 hy.2.2.2.2.1 hx.2.2.2.2.2 hy.2.2.2.2.2
      rcases hv with ⟨rfl, he⟩ | ⟨rfl, he⟩
      · have c19 : Steps p.tables e below (s₁.setTop (entryFrame m #[.ref x, .ref y] 3)) (T18.setTop (mkF m 55 #[.val (.ref x), .val (.ref y), .val (.ref y)] [.int 1])) := Steps.trans g18 (by
          refine XS.ifNo X18.here hexec rfl (hb hbytes d47) rfl (i0_eq_f (by decide)) ?_
          refine iconstV X18.here hexec rfl 1 (hb hbytes d50) (by decide) ?_
          refine XS.goto X18.here hexec rfl (pc0 := 51) rfl (hb hbytes d51) (by decide) rfl ?_
          exact Steps.refl _)
        exact ⟨T18, some (.int 1), _, _, _, X18, rfl, rfl, rfl, (fun h => by cases h), ⟨1, rfl, q18.trans hh16, Or.inl ⟨rfl, iff.mp he⟩⟩, fun fs hl => c19.trans (X18.ireturnOut hexec hret rfl (Or.inr (Or.inl rfl)) (hb hbytes d55) hl)⟩
      · have c19 : Steps p.tables e below (s₁.setTop (entryFrame m #[.ref x, .ref y] 3)) (T18.setTop (mkF m 55 #[.val (.ref x), .val (.ref y), .val (.ref y)] [.int 0])) := Steps.trans g18 (by
          refine XS.ifYes X18.here hexec rfl (pc0 := 47) rfl (hb hbytes d47) rfl (i0_eq_t rfl) (by decide) rfl ?_
          refine iconstV X18.here hexec rfl 0 (hb hbytes d54) (by decide) ?_
          exact Steps.refl _)
        exact ⟨T18, some (.int 0), _, _, _, X18, rfl, rfl, rfl, (fun h => by cases h), ⟨0, rfl, q18.trans hh16, Or.inr ⟨rfl, fun q => he (iff.mpr q)⟩⟩, fun fs hl => c19.trans (X18.ireturnOut hexec hret rfl (Or.inr (Or.inl rfl)) (hb hbytes d55) hl)⟩
    · have c13 : Steps p.tables e below (s₁.setTop (entryFrame m #[.ref x, .ref y] 3)) (T11.setTop (mkF m 55 #[.val (.ref x), .val (.ref y), .val (.ref y)] [.int 0])) := c12.trans (by
        refine XS.icmpYes X11.here hexec rfl (pc0 := 33) rfl (hb hbytes d33) rfl (ii_ne_t hcd) (by decide) rfl ?_
        refine iconstV X11.here hexec rfl 0 (hb hbytes d54) (by decide) ?_
        exact Steps.refl _)
      exact ⟨T11, some (.int 0), _, _, _, X11, rfl, rfl, rfl, (fun h => by cases h), ⟨0, rfl, hh11, Or.inr ⟨rfl, Cod.dif hx.2.2.2.2.1 hy.2.2.2.2.1 hcd⟩⟩, fun fs hl => c13.trans (X11.ireturnOut hexec hret rfl (Or.inr (Or.inl rfl)) (hb hbytes d55) hl)⟩
theorem pays {l : Launch} {R : Room} {p : Program} {e : Env} {below : List Frame} {s : State} {sargs : Array Value} {len W : Nat} (x t : Addr) (V : Cell) (cd : Int32) (n : Nat) (f : Nat → Int32) (y t' : Addr) (V' : Cell) (cd' : Int32) (k : Nat) (g : Nat → Int32) (z : Int32) (htab : tab.before sargs s = true) (hfr : 2 ≤ R.frames) (hlo : W + 28 ≤ R.locals) :
    Back l R p e below s sargs yN len W (fun A₁ a₁ => A₁.cells + 0 ≤ R.cells ∧ A₁.slots + 0 ≤ R.slots ∧ P x t V cd n f y t' V' cd' k g z a₁ A₁.U) (fun A₁ _ v₁ B₁ => Says01 (SameT n f k g) v₁ A₁.U B₁.U ∧ B₁.locs = A₁.locs ++ [] ∧ B₁.cells = A₁.cells + 0 ∧ B₁.slots = A₁.slots + 0) :=
  (law l x t V cd n f y t' V' cd' k g z).pays htab hfr (by omega)
end SEq
end StrChars
namespace StrChars.Road
open Jvm Sem ClassFile Op Lib Jvm.Stand Jvm.Free Jvm.Free.XT
open Jvm.Lib.Cold (StaticIs)
/-- the words of String.equals(Object) -/
abbrev wordsEq : List Jvm.Cond := [.code SEq.yN SEq.yB 3 (some .boolean), .initialized ST, .classLink ST 10 ST, .fieldLink ST 38 ST "COMPACT_STRINGS" "Z", .fieldLink ST 15 ST "coder" "B", .fieldLink ST 9 ST "value" "[B", .methodLink ST 541 LEq.yN, .static LEq.yN, .code LEq.yN LEq.yB 3 (some .boolean), .initialized "java/lang/StringLatin1"]
theorem tabEq_of {a : Array Value} {s : State} (h : ∀ w ∈ wordsEq, w.before a s = true) : SEq.tab.before a s = true := by
  have hl : LEq.tab.before a s = true := unparts (wk h (.code LEq.yN LEq.yB 3 (some .boolean))) (wks h (.initialized LEq.yN.cls :: LEq.site))
  have q := consq hl h
  exact unparts (wk q (.code SEq.yN SEq.yB 3 (some .boolean))) (wks q (.initialized SEq.yN.cls :: SEq.site))
theorem movedEq {Z s : State} {a0 args : Array Value} (hZ : Z.Warmed39 s.vm) (hw : ∀ d ∈ wordsEq, d.before a0 Z = true) : ∀ d ∈ wordsEq, d.before args s = true := fun d hd => by
  have t : ∀ d ∈ wordsEq, (d.onTables && d.keepsFace) = true := by decide +kernel
  exact RoadKit.mv hZ (hw d hd) (t d hd)
/-- the road's facts of a String, as the laws ask it -/
theorem txt_of {Z U : State} {a0 : Array Value} {kI : Nat} (wi : (Jvm.Cond.instantiable ST kI).before a0 Z = true) (al : Z.vm.Alike U.vm) {x t : Addr} {kb : ClassId} {cs : List Int32} {cd N2 : Int32} {vs : List Value} (E : RoadKit.Exa Z U.heap x ST) (V : RoadKit.Fld Z U.heap x ST "value" "[B" (.ref t)) (C : RoadKit.Fld Z U.heap x ST "coder" "B" (.int cd)) (K : RoadKit.Arv Z U.heap t kb .byte N2 vs (.int 0)) (hc : CodA cs cd N2 vs) (hb : ∀ c ∈ cs, ¬ c < 0 ∧ ¬ (65535 : Int32) < c) (l2 : cs.length ≤ 4000) :
    ∃ A, Txt x t A cd cs.length (fun j => cs.getD j 0) U := by
  obtain ⟨A, K1, K2, K3, K4, K5, K6⟩ := K
  have hcod := hc.cod (by omega) K3 K5
  obtain ⟨D, fV, fC, hB, F1, F2, g1, g2, -, -⟩ := strObj wi al E V C
  exact ⟨A, ⟨_, hB.2.2.1, D, hB.1, rfl, by cases q : D.vm <;> first | rfl | exact absurd q (hB.2.1.2 _)⟩, Has.of hB F1 g1, Has.of hB F2 g2, ⟨K1.1, State.isArrayOf_alike al K1.2.1, K1.2.2, by rcases hcod with ⟨-, q, -⟩ | ⟨-, q, -⟩ <;> omega⟩, hcod, fun j hj => by
    have e : cs.getD j 0 = cs[j] := by simp [List.getD_eq_getElem?_getD, hj]
    show ¬ cs.getD j 0 < 0 ∧ ¬ 65535 < cs.getD j 0
    rw [e]; exact hb _ (List.getElem_mem _)⟩
theorem same_list (cs ds : List Int32) : SameT cs.length (fun j => cs.getD j 0) ds.length (fun j => ds.getD j 0) ↔ cs = ds := by
  constructor
  · rintro ⟨e, q⟩
    refine List.ext_getElem e fun j h1 h2 => ?_
    have := q j h1
    simpa [List.getD_eq_getElem?_getD, h1, h2] using this
  · rintro rfl
    exact ⟨rfl, fun _ _ => rfl⟩
/-- **equals(Object) OF TWO SUCH STRINGS**: 1 just where the chars are the same -/
theorem eqW {p : Program} {l : Launch} {e : Env} {R : Room} {s : State} {args : Array Value} {below : List Frame} {len W : Nat} {Z : State} {a0 : Array Value} {h : Heap} (hZ : Z.Warmed39 s.vm) (hw : ∀ d ∈ wordsEq, d.before a0 Z = true) {kI : Nat} (wi : (Jvm.Cond.instantiable ST kI).before a0 Z = true)
    {x t : Addr} {kb : ClassId} {cs : List Int32} {cd N2 : Int32} {vs : List Value} (E : RoadKit.Exa Z h x ST) (V : RoadKit.Fld Z h x ST "value" "[B" (.ref t)) (C : RoadKit.Fld Z h x ST "coder" "B" (.int cd)) (K : RoadKit.Arv Z h t kb .byte N2 vs (.int 0)) (hc : CodA cs cd N2 vs) (hb : ∀ c ∈ cs, ¬ c < 0 ∧ ¬ (65535 : Int32) < c) (l2 : cs.length ≤ 4000)
    {y t' : Addr} {kb' : ClassId} {ds : List Int32} {cd' N2' : Int32} {vs' : List Value} (E' : RoadKit.Exa Z h y ST) (V' : RoadKit.Fld Z h y ST "value" "[B" (.ref t')) (C' : RoadKit.Fld Z h y ST "coder" "B" (.int cd')) (K' : RoadKit.Arv Z h t' kb' .byte N2' vs' (.int 0)) (hc' : CodA ds cd' N2' vs') (hb' : ∀ c ∈ ds, ¬ c < 0 ∧ ¬ (65535 : Int32) < c) (l2' : ds.length ≤ 4000)
    {z : Int32} (S : RoadKit.Sta Z h ST "COMPACT_STRINGS" "Z" (.int z)) (hz : ¬ z = 0) (hfr : 2 ≤ R.frames) (hlo : W + 28 ≤ R.locals) :
    Back l R p e below s args (⟨"java/lang/String", "equals", "(Ljava/lang/Object;)Z"⟩ : MethodName) len W (fun P a => a = #[.ref x, .ref y] ∧ P.U.heap = h ∧ P.cells + 0 ≤ R.cells ∧ P.slots + 0 ≤ R.slots)
      (fun P _ v B => ∃ L, (((v = some (.int 1) ∧ cs = ds) ∨ (v = some (.int 0) ∧ ¬ cs = ds)) ∧ L = [] ∧ B.U.heap = h) ∧ B.locs = P.locs ++ L ∧ B.cells = P.cells + 0 ∧ B.slots = P.slots + 0) := by
  intro m meth c P g ig mk a X hg hsize hdg hW hn hp'
  obtain ⟨rfl, rfl, r1, r2⟩ := hp'
  have al : Z.vm.Alike P.U.vm := hZ.alike.trans X.warmed.alike
  obtain ⟨A, hx⟩ := txt_of wi al E V C K hc hb l2
  obtain ⟨A', hy⟩ := txt_of wi al E' V' C' K' hc' hb' l2'
  obtain ⟨v, B, X', ⟨⟨w, hv, hh, hq⟩, hl, hk, hs⟩, st⟩ := SEq.pays x t A cd cs.length (fun j => cs.getD j 0) y t' A' cd' ds.length (fun j => ds.getD j 0) z (tabEq_of (movedEq hZ hw)) hfr hlo m meth c P g ig mk _ X hg hsize hdg hW hn ⟨r1, r2, rfl, hx, hy, sta_is al S, hz⟩
  refine ⟨v, B, X', ⟨[], ⟨?_, rfl, hh⟩, hl, hk, hs⟩, st⟩
  rcases hq with ⟨rfl, q⟩ | ⟨rfl, q⟩
  · exact Or.inl ⟨hv, (same_list cs ds).mp q⟩
  · exact Or.inr ⟨hv, fun e => q ((same_list cs ds).mpr e)⟩
end StrChars.Road
namespace StrChars.Road
open Jvm Sem ClassFile Op Lib Jvm.Stand Jvm.Free Jvm.Free.XT
open Jvm.Lib.Cold (StaticIs)
/-- what backV says of its String, as the contracts of this text ask it: cs's low bytes, coder 0 -/
theorem codOf {cs : List Int32} {n : Nat} (hn : cs.length = n) (hb : ∀ c ∈ cs, ¬ 255 < c) : CodA cs 0 (Int32.ofNat n) ((cs.map lo8).map Value.int) := Or.inl ⟨rfl, by rw [hn], by simp [List.map_map, Function.comp_def], hb⟩
end StrChars.Road
end Jvm.Pilot.@@N@@

namespace Jvm.Pilot.@@N@@
open Jvm Jvm.ClassFile Sem Op Lib Jvm.Free Jvm.Stand Jvm.LawKit Jvm.RoadKit Bundle Jvm.Pilot.@@N@@.Jvm.D
abbrev cn_0 : String := "com/example/tempogate/tempogate/rules/Rule$Kind"
abbrev cn_1 : String := "com/example/tempogate/tempogate/rules/KindNamedPinLaw"
abbrev cn_2 : String := "java/lang/String"
abbrev cn_3 : String := "[Lcom/example/tempogate/tempogate/rules/Rule$Kind;"
abbrev cn_4 : String := "(Ljava/lang/String;)Lcom/example/tempogate/tempogate/rules/Rule$Kind;"
abbrev cn_5 : String := "Lcom/example/tempogate/tempogate/rules/Rule$Kind;"
abbrev cn_6 : String := "jdk/internal/util/Preconditions"
abbrev cn_7 : String := "()[Lcom/example/tempogate/tempogate/rules/Rule$Kind;"
abbrev cn_8 : String := "()Ljava/lang/Object;"
abbrev cn_9 : String := "java/lang/Object"
abbrev cn_10 : String := "(Ljava/lang/Object;)Z"
abbrev cn_11 : String := "(IILjava/util/function/BiFunction;)I"
abbrev cn_12 : String := "java/lang/StringLatin1"
abbrev cn_13 : String := "([CILjava/lang/String;IC)V"
abbrev cn_14 : String := "Ljava/lang/String;"
abbrev cn_15 : String := "([CIILjava/lang/Void;)V"
abbrev cn_16 : String := "(I)Ljava/lang/String;"
abbrev cn_17 : String := "java/lang/Math"
def own_St (Z : State) (w__VALUES : Addr) (w_CAP : Addr) (w_RATE : Addr) (w_BUDGET : Addr) (w_COMPACT_STRINGS : Int32) (w_SIOOBE_FORMATTER : Value) (w_tCAP : Addr) (w_vCAP : Addr) (w_tRATE : Addr) (w_vRATE : Addr) (w_tBUDGET : Addr) (w_vBUDGET : Addr) : Prop := (Sta Z Z.heap cn_0 "$VALUES" cn_3 (.ref w__VALUES)) ∧ (Exa Z Z.heap w__VALUES cn_3) ∧ (Sta Z Z.heap cn_0 "CAP" cn_5 (.ref w_CAP)) ∧ (Exa Z Z.heap w_CAP cn_0) ∧ (Sta Z Z.heap cn_0 "RATE" cn_5 (.ref w_RATE)) ∧ (Exa Z Z.heap w_RATE cn_0) ∧ (Sta Z Z.heap cn_0 "BUDGET" cn_5 (.ref w_BUDGET)) ∧ (Exa Z Z.heap w_BUDGET cn_0) ∧ (Sta Z Z.heap cn_2 "COMPACT_STRINGS" "Z" (.int w_COMPACT_STRINGS)) ∧ (Sta Z Z.heap cn_6 "SIOOBE_FORMATTER" "Ljava/util/function/BiFunction;" w_SIOOBE_FORMATTER) ∧ (w_SIOOBE_FORMATTER.isRef = true) ∧ (¬ w_COMPACT_STRINGS = (0 : Int32)) ∧ (Exa Z Z.heap w_tCAP cn_2) ∧ (Fld Z Z.heap w_CAP cn_0 "text" cn_14 (.ref w_tCAP)) ∧ (Fld Z Z.heap w_tCAP cn_2 "coder" "B" (.int 0)) ∧ (Fld Z Z.heap w_tCAP cn_2 "value" "[B" (.ref w_vCAP)) ∧ (∃ k, Arv Z Z.heap w_vCAP k .byte (3 : Int32) [(.int 99), (.int 97), (.int 112)] (.int 0)) ∧ (Exa Z Z.heap w_tRATE cn_2) ∧ (Fld Z Z.heap w_RATE cn_0 "text" cn_14 (.ref w_tRATE)) ∧ (Fld Z Z.heap w_tRATE cn_2 "coder" "B" (.int 0)) ∧ (Fld Z Z.heap w_tRATE cn_2 "value" "[B" (.ref w_vRATE)) ∧ (∃ k, Arv Z Z.heap w_vRATE k .byte (4 : Int32) [(.int 114), (.int 97), (.int 116), (.int 101)] (.int 0)) ∧ (Exa Z Z.heap w_tBUDGET cn_2) ∧ (Fld Z Z.heap w_BUDGET cn_0 "text" cn_14 (.ref w_tBUDGET)) ∧ (Fld Z Z.heap w_tBUDGET cn_2 "coder" "B" (.int 0)) ∧ (Fld Z Z.heap w_tBUDGET cn_2 "value" "[B" (.ref w_vBUDGET)) ∧ (∃ k, Arv Z Z.heap w_vBUDGET k .byte (6 : Int32) [(.int 98), (.int 117), (.int 100), (.int 103), (.int 101), (.int 116)] (.int 0)) ∧ (∃ k, Arv Z Z.heap w__VALUES k (.object cn_0) (3 : Int32) [(.ref w_CAP), (.ref w_RATE), (.ref w_BUDGET)] .null)
theorem own_St.k0 {Z : State} {w__VALUES : Addr} {w_CAP : Addr} {w_RATE : Addr} {w_BUDGET : Addr} {w_COMPACT_STRINGS : Int32} {w_SIOOBE_FORMATTER : Value} {w_tCAP : Addr} {w_vCAP : Addr} {w_tRATE : Addr} {w_vRATE : Addr} {w_tBUDGET : Addr} {w_vBUDGET : Addr} (ST : own_St Z w__VALUES w_CAP w_RATE w_BUDGET w_COMPACT_STRINGS w_SIOOBE_FORMATTER w_tCAP w_vCAP w_tRATE w_vRATE w_tBUDGET w_vBUDGET) : Sta Z Z.heap cn_0 "$VALUES" cn_3 (.ref w__VALUES) := ST.1
theorem own_St.k1 {Z : State} {w__VALUES : Addr} {w_CAP : Addr} {w_RATE : Addr} {w_BUDGET : Addr} {w_COMPACT_STRINGS : Int32} {w_SIOOBE_FORMATTER : Value} {w_tCAP : Addr} {w_vCAP : Addr} {w_tRATE : Addr} {w_vRATE : Addr} {w_tBUDGET : Addr} {w_vBUDGET : Addr} (ST : own_St Z w__VALUES w_CAP w_RATE w_BUDGET w_COMPACT_STRINGS w_SIOOBE_FORMATTER w_tCAP w_vCAP w_tRATE w_vRATE w_tBUDGET w_vBUDGET) : Exa Z Z.heap w__VALUES cn_3 := ST.2.1
theorem own_St.k2 {Z : State} {w__VALUES : Addr} {w_CAP : Addr} {w_RATE : Addr} {w_BUDGET : Addr} {w_COMPACT_STRINGS : Int32} {w_SIOOBE_FORMATTER : Value} {w_tCAP : Addr} {w_vCAP : Addr} {w_tRATE : Addr} {w_vRATE : Addr} {w_tBUDGET : Addr} {w_vBUDGET : Addr} (ST : own_St Z w__VALUES w_CAP w_RATE w_BUDGET w_COMPACT_STRINGS w_SIOOBE_FORMATTER w_tCAP w_vCAP w_tRATE w_vRATE w_tBUDGET w_vBUDGET) : Sta Z Z.heap cn_0 "CAP" cn_5 (.ref w_CAP) := ST.2.2.1
theorem own_St.k3 {Z : State} {w__VALUES : Addr} {w_CAP : Addr} {w_RATE : Addr} {w_BUDGET : Addr} {w_COMPACT_STRINGS : Int32} {w_SIOOBE_FORMATTER : Value} {w_tCAP : Addr} {w_vCAP : Addr} {w_tRATE : Addr} {w_vRATE : Addr} {w_tBUDGET : Addr} {w_vBUDGET : Addr} (ST : own_St Z w__VALUES w_CAP w_RATE w_BUDGET w_COMPACT_STRINGS w_SIOOBE_FORMATTER w_tCAP w_vCAP w_tRATE w_vRATE w_tBUDGET w_vBUDGET) : Exa Z Z.heap w_CAP cn_0 := ST.2.2.2.1
theorem own_St.k4 {Z : State} {w__VALUES : Addr} {w_CAP : Addr} {w_RATE : Addr} {w_BUDGET : Addr} {w_COMPACT_STRINGS : Int32} {w_SIOOBE_FORMATTER : Value} {w_tCAP : Addr} {w_vCAP : Addr} {w_tRATE : Addr} {w_vRATE : Addr} {w_tBUDGET : Addr} {w_vBUDGET : Addr} (ST : own_St Z w__VALUES w_CAP w_RATE w_BUDGET w_COMPACT_STRINGS w_SIOOBE_FORMATTER w_tCAP w_vCAP w_tRATE w_vRATE w_tBUDGET w_vBUDGET) : Sta Z Z.heap cn_0 "RATE" cn_5 (.ref w_RATE) := ST.2.2.2.2.1
theorem own_St.k5 {Z : State} {w__VALUES : Addr} {w_CAP : Addr} {w_RATE : Addr} {w_BUDGET : Addr} {w_COMPACT_STRINGS : Int32} {w_SIOOBE_FORMATTER : Value} {w_tCAP : Addr} {w_vCAP : Addr} {w_tRATE : Addr} {w_vRATE : Addr} {w_tBUDGET : Addr} {w_vBUDGET : Addr} (ST : own_St Z w__VALUES w_CAP w_RATE w_BUDGET w_COMPACT_STRINGS w_SIOOBE_FORMATTER w_tCAP w_vCAP w_tRATE w_vRATE w_tBUDGET w_vBUDGET) : Exa Z Z.heap w_RATE cn_0 := ST.2.2.2.2.2.1
theorem own_St.k6 {Z : State} {w__VALUES : Addr} {w_CAP : Addr} {w_RATE : Addr} {w_BUDGET : Addr} {w_COMPACT_STRINGS : Int32} {w_SIOOBE_FORMATTER : Value} {w_tCAP : Addr} {w_vCAP : Addr} {w_tRATE : Addr} {w_vRATE : Addr} {w_tBUDGET : Addr} {w_vBUDGET : Addr} (ST : own_St Z w__VALUES w_CAP w_RATE w_BUDGET w_COMPACT_STRINGS w_SIOOBE_FORMATTER w_tCAP w_vCAP w_tRATE w_vRATE w_tBUDGET w_vBUDGET) : Sta Z Z.heap cn_0 "BUDGET" cn_5 (.ref w_BUDGET) := ST.2.2.2.2.2.2.1
theorem own_St.k7 {Z : State} {w__VALUES : Addr} {w_CAP : Addr} {w_RATE : Addr} {w_BUDGET : Addr} {w_COMPACT_STRINGS : Int32} {w_SIOOBE_FORMATTER : Value} {w_tCAP : Addr} {w_vCAP : Addr} {w_tRATE : Addr} {w_vRATE : Addr} {w_tBUDGET : Addr} {w_vBUDGET : Addr} (ST : own_St Z w__VALUES w_CAP w_RATE w_BUDGET w_COMPACT_STRINGS w_SIOOBE_FORMATTER w_tCAP w_vCAP w_tRATE w_vRATE w_tBUDGET w_vBUDGET) : Exa Z Z.heap w_BUDGET cn_0 := ST.2.2.2.2.2.2.2.1
theorem own_St.k8 {Z : State} {w__VALUES : Addr} {w_CAP : Addr} {w_RATE : Addr} {w_BUDGET : Addr} {w_COMPACT_STRINGS : Int32} {w_SIOOBE_FORMATTER : Value} {w_tCAP : Addr} {w_vCAP : Addr} {w_tRATE : Addr} {w_vRATE : Addr} {w_tBUDGET : Addr} {w_vBUDGET : Addr} (ST : own_St Z w__VALUES w_CAP w_RATE w_BUDGET w_COMPACT_STRINGS w_SIOOBE_FORMATTER w_tCAP w_vCAP w_tRATE w_vRATE w_tBUDGET w_vBUDGET) : Sta Z Z.heap cn_2 "COMPACT_STRINGS" "Z" (.int w_COMPACT_STRINGS) := ST.2.2.2.2.2.2.2.2.1
theorem own_St.k9 {Z : State} {w__VALUES : Addr} {w_CAP : Addr} {w_RATE : Addr} {w_BUDGET : Addr} {w_COMPACT_STRINGS : Int32} {w_SIOOBE_FORMATTER : Value} {w_tCAP : Addr} {w_vCAP : Addr} {w_tRATE : Addr} {w_vRATE : Addr} {w_tBUDGET : Addr} {w_vBUDGET : Addr} (ST : own_St Z w__VALUES w_CAP w_RATE w_BUDGET w_COMPACT_STRINGS w_SIOOBE_FORMATTER w_tCAP w_vCAP w_tRATE w_vRATE w_tBUDGET w_vBUDGET) : Sta Z Z.heap cn_6 "SIOOBE_FORMATTER" "Ljava/util/function/BiFunction;" w_SIOOBE_FORMATTER := ST.2.2.2.2.2.2.2.2.2.1
theorem own_St.k10 {Z : State} {w__VALUES : Addr} {w_CAP : Addr} {w_RATE : Addr} {w_BUDGET : Addr} {w_COMPACT_STRINGS : Int32} {w_SIOOBE_FORMATTER : Value} {w_tCAP : Addr} {w_vCAP : Addr} {w_tRATE : Addr} {w_vRATE : Addr} {w_tBUDGET : Addr} {w_vBUDGET : Addr} (ST : own_St Z w__VALUES w_CAP w_RATE w_BUDGET w_COMPACT_STRINGS w_SIOOBE_FORMATTER w_tCAP w_vCAP w_tRATE w_vRATE w_tBUDGET w_vBUDGET) : w_SIOOBE_FORMATTER.isRef = true := ST.2.2.2.2.2.2.2.2.2.2.1
theorem own_St.k11 {Z : State} {w__VALUES : Addr} {w_CAP : Addr} {w_RATE : Addr} {w_BUDGET : Addr} {w_COMPACT_STRINGS : Int32} {w_SIOOBE_FORMATTER : Value} {w_tCAP : Addr} {w_vCAP : Addr} {w_tRATE : Addr} {w_vRATE : Addr} {w_tBUDGET : Addr} {w_vBUDGET : Addr} (ST : own_St Z w__VALUES w_CAP w_RATE w_BUDGET w_COMPACT_STRINGS w_SIOOBE_FORMATTER w_tCAP w_vCAP w_tRATE w_vRATE w_tBUDGET w_vBUDGET) : ¬ w_COMPACT_STRINGS = (0 : Int32) := ST.2.2.2.2.2.2.2.2.2.2.2.1
theorem own_St.k12 {Z : State} {w__VALUES : Addr} {w_CAP : Addr} {w_RATE : Addr} {w_BUDGET : Addr} {w_COMPACT_STRINGS : Int32} {w_SIOOBE_FORMATTER : Value} {w_tCAP : Addr} {w_vCAP : Addr} {w_tRATE : Addr} {w_vRATE : Addr} {w_tBUDGET : Addr} {w_vBUDGET : Addr} (ST : own_St Z w__VALUES w_CAP w_RATE w_BUDGET w_COMPACT_STRINGS w_SIOOBE_FORMATTER w_tCAP w_vCAP w_tRATE w_vRATE w_tBUDGET w_vBUDGET) : Exa Z Z.heap w_tCAP cn_2 := ST.2.2.2.2.2.2.2.2.2.2.2.2.1
theorem own_St.k13 {Z : State} {w__VALUES : Addr} {w_CAP : Addr} {w_RATE : Addr} {w_BUDGET : Addr} {w_COMPACT_STRINGS : Int32} {w_SIOOBE_FORMATTER : Value} {w_tCAP : Addr} {w_vCAP : Addr} {w_tRATE : Addr} {w_vRATE : Addr} {w_tBUDGET : Addr} {w_vBUDGET : Addr} (ST : own_St Z w__VALUES w_CAP w_RATE w_BUDGET w_COMPACT_STRINGS w_SIOOBE_FORMATTER w_tCAP w_vCAP w_tRATE w_vRATE w_tBUDGET w_vBUDGET) : Fld Z Z.heap w_CAP cn_0 "text" cn_14 (.ref w_tCAP) := ST.2.2.2.2.2.2.2.2.2.2.2.2.2.1
theorem own_St.k14 {Z : State} {w__VALUES : Addr} {w_CAP : Addr} {w_RATE : Addr} {w_BUDGET : Addr} {w_COMPACT_STRINGS : Int32} {w_SIOOBE_FORMATTER : Value} {w_tCAP : Addr} {w_vCAP : Addr} {w_tRATE : Addr} {w_vRATE : Addr} {w_tBUDGET : Addr} {w_vBUDGET : Addr} (ST : own_St Z w__VALUES w_CAP w_RATE w_BUDGET w_COMPACT_STRINGS w_SIOOBE_FORMATTER w_tCAP w_vCAP w_tRATE w_vRATE w_tBUDGET w_vBUDGET) : Fld Z Z.heap w_tCAP cn_2 "coder" "B" (.int 0) := ST.2.2.2.2.2.2.2.2.2.2.2.2.2.2.1
theorem own_St.k15 {Z : State} {w__VALUES : Addr} {w_CAP : Addr} {w_RATE : Addr} {w_BUDGET : Addr} {w_COMPACT_STRINGS : Int32} {w_SIOOBE_FORMATTER : Value} {w_tCAP : Addr} {w_vCAP : Addr} {w_tRATE : Addr} {w_vRATE : Addr} {w_tBUDGET : Addr} {w_vBUDGET : Addr} (ST : own_St Z w__VALUES w_CAP w_RATE w_BUDGET w_COMPACT_STRINGS w_SIOOBE_FORMATTER w_tCAP w_vCAP w_tRATE w_vRATE w_tBUDGET w_vBUDGET) : Fld Z Z.heap w_tCAP cn_2 "value" "[B" (.ref w_vCAP) := ST.2.2.2.2.2.2.2.2.2.2.2.2.2.2.2.1
theorem own_St.k16 {Z : State} {w__VALUES : Addr} {w_CAP : Addr} {w_RATE : Addr} {w_BUDGET : Addr} {w_COMPACT_STRINGS : Int32} {w_SIOOBE_FORMATTER : Value} {w_tCAP : Addr} {w_vCAP : Addr} {w_tRATE : Addr} {w_vRATE : Addr} {w_tBUDGET : Addr} {w_vBUDGET : Addr} (ST : own_St Z w__VALUES w_CAP w_RATE w_BUDGET w_COMPACT_STRINGS w_SIOOBE_FORMATTER w_tCAP w_vCAP w_tRATE w_vRATE w_tBUDGET w_vBUDGET) : ∃ k, Arv Z Z.heap w_vCAP k .byte (3 : Int32) [(.int 99), (.int 97), (.int 112)] (.int 0) := ST.2.2.2.2.2.2.2.2.2.2.2.2.2.2.2.2.1
theorem own_St.k17 {Z : State} {w__VALUES : Addr} {w_CAP : Addr} {w_RATE : Addr} {w_BUDGET : Addr} {w_COMPACT_STRINGS : Int32} {w_SIOOBE_FORMATTER : Value} {w_tCAP : Addr} {w_vCAP : Addr} {w_tRATE : Addr} {w_vRATE : Addr} {w_tBUDGET : Addr} {w_vBUDGET : Addr} (ST : own_St Z w__VALUES w_CAP w_RATE w_BUDGET w_COMPACT_STRINGS w_SIOOBE_FORMATTER w_tCAP w_vCAP w_tRATE w_vRATE w_tBUDGET w_vBUDGET) : Exa Z Z.heap w_tRATE cn_2 := ST.2.2.2.2.2.2.2.2.2.2.2.2.2.2.2.2.2.1
theorem own_St.k18 {Z : State} {w__VALUES : Addr} {w_CAP : Addr} {w_RATE : Addr} {w_BUDGET : Addr} {w_COMPACT_STRINGS : Int32} {w_SIOOBE_FORMATTER : Value} {w_tCAP : Addr} {w_vCAP : Addr} {w_tRATE : Addr} {w_vRATE : Addr} {w_tBUDGET : Addr} {w_vBUDGET : Addr} (ST : own_St Z w__VALUES w_CAP w_RATE w_BUDGET w_COMPACT_STRINGS w_SIOOBE_FORMATTER w_tCAP w_vCAP w_tRATE w_vRATE w_tBUDGET w_vBUDGET) : Fld Z Z.heap w_RATE cn_0 "text" cn_14 (.ref w_tRATE) := ST.2.2.2.2.2.2.2.2.2.2.2.2.2.2.2.2.2.2.1
theorem own_St.k19 {Z : State} {w__VALUES : Addr} {w_CAP : Addr} {w_RATE : Addr} {w_BUDGET : Addr} {w_COMPACT_STRINGS : Int32} {w_SIOOBE_FORMATTER : Value} {w_tCAP : Addr} {w_vCAP : Addr} {w_tRATE : Addr} {w_vRATE : Addr} {w_tBUDGET : Addr} {w_vBUDGET : Addr} (ST : own_St Z w__VALUES w_CAP w_RATE w_BUDGET w_COMPACT_STRINGS w_SIOOBE_FORMATTER w_tCAP w_vCAP w_tRATE w_vRATE w_tBUDGET w_vBUDGET) : Fld Z Z.heap w_tRATE cn_2 "coder" "B" (.int 0) := ST.2.2.2.2.2.2.2.2.2.2.2.2.2.2.2.2.2.2.2.1
theorem own_St.k20 {Z : State} {w__VALUES : Addr} {w_CAP : Addr} {w_RATE : Addr} {w_BUDGET : Addr} {w_COMPACT_STRINGS : Int32} {w_SIOOBE_FORMATTER : Value} {w_tCAP : Addr} {w_vCAP : Addr} {w_tRATE : Addr} {w_vRATE : Addr} {w_tBUDGET : Addr} {w_vBUDGET : Addr} (ST : own_St Z w__VALUES w_CAP w_RATE w_BUDGET w_COMPACT_STRINGS w_SIOOBE_FORMATTER w_tCAP w_vCAP w_tRATE w_vRATE w_tBUDGET w_vBUDGET) : Fld Z Z.heap w_tRATE cn_2 "value" "[B" (.ref w_vRATE) := ST.2.2.2.2.2.2.2.2.2.2.2.2.2.2.2.2.2.2.2.2.1
theorem own_St.k21 {Z : State} {w__VALUES : Addr} {w_CAP : Addr} {w_RATE : Addr} {w_BUDGET : Addr} {w_COMPACT_STRINGS : Int32} {w_SIOOBE_FORMATTER : Value} {w_tCAP : Addr} {w_vCAP : Addr} {w_tRATE : Addr} {w_vRATE : Addr} {w_tBUDGET : Addr} {w_vBUDGET : Addr} (ST : own_St Z w__VALUES w_CAP w_RATE w_BUDGET w_COMPACT_STRINGS w_SIOOBE_FORMATTER w_tCAP w_vCAP w_tRATE w_vRATE w_tBUDGET w_vBUDGET) : ∃ k, Arv Z Z.heap w_vRATE k .byte (4 : Int32) [(.int 114), (.int 97), (.int 116), (.int 101)] (.int 0) := ST.2.2.2.2.2.2.2.2.2.2.2.2.2.2.2.2.2.2.2.2.2.1
theorem own_St.k22 {Z : State} {w__VALUES : Addr} {w_CAP : Addr} {w_RATE : Addr} {w_BUDGET : Addr} {w_COMPACT_STRINGS : Int32} {w_SIOOBE_FORMATTER : Value} {w_tCAP : Addr} {w_vCAP : Addr} {w_tRATE : Addr} {w_vRATE : Addr} {w_tBUDGET : Addr} {w_vBUDGET : Addr} (ST : own_St Z w__VALUES w_CAP w_RATE w_BUDGET w_COMPACT_STRINGS w_SIOOBE_FORMATTER w_tCAP w_vCAP w_tRATE w_vRATE w_tBUDGET w_vBUDGET) : Exa Z Z.heap w_tBUDGET cn_2 := ST.2.2.2.2.2.2.2.2.2.2.2.2.2.2.2.2.2.2.2.2.2.2.1
theorem own_St.k23 {Z : State} {w__VALUES : Addr} {w_CAP : Addr} {w_RATE : Addr} {w_BUDGET : Addr} {w_COMPACT_STRINGS : Int32} {w_SIOOBE_FORMATTER : Value} {w_tCAP : Addr} {w_vCAP : Addr} {w_tRATE : Addr} {w_vRATE : Addr} {w_tBUDGET : Addr} {w_vBUDGET : Addr} (ST : own_St Z w__VALUES w_CAP w_RATE w_BUDGET w_COMPACT_STRINGS w_SIOOBE_FORMATTER w_tCAP w_vCAP w_tRATE w_vRATE w_tBUDGET w_vBUDGET) : Fld Z Z.heap w_BUDGET cn_0 "text" cn_14 (.ref w_tBUDGET) := ST.2.2.2.2.2.2.2.2.2.2.2.2.2.2.2.2.2.2.2.2.2.2.2.1
theorem own_St.k24 {Z : State} {w__VALUES : Addr} {w_CAP : Addr} {w_RATE : Addr} {w_BUDGET : Addr} {w_COMPACT_STRINGS : Int32} {w_SIOOBE_FORMATTER : Value} {w_tCAP : Addr} {w_vCAP : Addr} {w_tRATE : Addr} {w_vRATE : Addr} {w_tBUDGET : Addr} {w_vBUDGET : Addr} (ST : own_St Z w__VALUES w_CAP w_RATE w_BUDGET w_COMPACT_STRINGS w_SIOOBE_FORMATTER w_tCAP w_vCAP w_tRATE w_vRATE w_tBUDGET w_vBUDGET) : Fld Z Z.heap w_tBUDGET cn_2 "coder" "B" (.int 0) := ST.2.2.2.2.2.2.2.2.2.2.2.2.2.2.2.2.2.2.2.2.2.2.2.2.1
theorem own_St.k25 {Z : State} {w__VALUES : Addr} {w_CAP : Addr} {w_RATE : Addr} {w_BUDGET : Addr} {w_COMPACT_STRINGS : Int32} {w_SIOOBE_FORMATTER : Value} {w_tCAP : Addr} {w_vCAP : Addr} {w_tRATE : Addr} {w_vRATE : Addr} {w_tBUDGET : Addr} {w_vBUDGET : Addr} (ST : own_St Z w__VALUES w_CAP w_RATE w_BUDGET w_COMPACT_STRINGS w_SIOOBE_FORMATTER w_tCAP w_vCAP w_tRATE w_vRATE w_tBUDGET w_vBUDGET) : Fld Z Z.heap w_tBUDGET cn_2 "value" "[B" (.ref w_vBUDGET) := ST.2.2.2.2.2.2.2.2.2.2.2.2.2.2.2.2.2.2.2.2.2.2.2.2.2.1
theorem own_St.k26 {Z : State} {w__VALUES : Addr} {w_CAP : Addr} {w_RATE : Addr} {w_BUDGET : Addr} {w_COMPACT_STRINGS : Int32} {w_SIOOBE_FORMATTER : Value} {w_tCAP : Addr} {w_vCAP : Addr} {w_tRATE : Addr} {w_vRATE : Addr} {w_tBUDGET : Addr} {w_vBUDGET : Addr} (ST : own_St Z w__VALUES w_CAP w_RATE w_BUDGET w_COMPACT_STRINGS w_SIOOBE_FORMATTER w_tCAP w_vCAP w_tRATE w_vRATE w_tBUDGET w_vBUDGET) : ∃ k, Arv Z Z.heap w_vBUDGET k .byte (6 : Int32) [(.int 98), (.int 117), (.int 100), (.int 103), (.int 101), (.int 116)] (.int 0) := ST.2.2.2.2.2.2.2.2.2.2.2.2.2.2.2.2.2.2.2.2.2.2.2.2.2.2.1
theorem own_St.k27 {Z : State} {w__VALUES : Addr} {w_CAP : Addr} {w_RATE : Addr} {w_BUDGET : Addr} {w_COMPACT_STRINGS : Int32} {w_SIOOBE_FORMATTER : Value} {w_tCAP : Addr} {w_vCAP : Addr} {w_tRATE : Addr} {w_vRATE : Addr} {w_tBUDGET : Addr} {w_vBUDGET : Addr} (ST : own_St Z w__VALUES w_CAP w_RATE w_BUDGET w_COMPACT_STRINGS w_SIOOBE_FORMATTER w_tCAP w_vCAP w_tRATE w_vRATE w_tBUDGET w_vBUDGET) : ∃ k, Arv Z Z.heap w__VALUES k (.object cn_0) (3 : Int32) [(.ref w_CAP), (.ref w_RATE), (.ref w_BUDGET)] .null := ST.2.2.2.2.2.2.2.2.2.2.2.2.2.2.2.2.2.2.2.2.2.2.2.2.2.2.2
theorem own_hwV {Z : State} {a0 : Array Value} (hw : ∀ d ∈ tables_1, d.before a0 Z = true) : ∀ d ∈ StrChars.Road.words, d.before a0 Z = true := fun d hd => hw d ((by decide +kernel : ∀ d ∈ StrChars.Road.words, d ∈ tables_1) d hd)
theorem own_hwE {Z : State} {a0 : Array Value} (hw : ∀ d ∈ tables_1, d.before a0 Z = true) : ∀ d ∈ StrChars.Road.wordsEq, d.before a0 Z = true := fun d hd => hw d ((by decide +kernel : ∀ d ∈ StrChars.Road.wordsEq, d ∈ tables_1) d hd)
theorem own_up {cs : List Int32} (h : ∀ c ∈ cs, ¬ c < 0 ∧ ¬ (255 : Int32) < c) : ∀ c ∈ cs, ¬ c < 0 ∧ ¬ (65535 : Int32) < c := fun c hc => ⟨(h c hc).1, fun q => (h c hc).2 (Int32.lt_trans (by decide) q)⟩
theorem own_cod (cs : List Int32) (n : Nat) (hn : cs.length = n) (h : ∀ c ∈ cs, ¬ c < 0 ∧ ¬ (255 : Int32) < c) : StrChars.Road.CodA cs 0 (Int32.ofNat n) ((cs.map StrChars.lo8).map Value.int) := StrChars.Road.codOf hn (fun c hc => (h c hc).2)
abbrev own_EL : List (String × Nat) := [(cn_1, 7), (cn_1, 9), (cn_1, 11), (cn_1, 13), (cn_2, 7)]
theorem own_eC : (∀ c ∈ "cap".toList, c.toNat < 256) ∧ "cap".toList.map (fun c => Value.int (Jvm.Lit.byteI c.toNat.toUInt16)) = [(.int 99), (.int 97), (.int 112)] := by
  have e : "cap".toList = ['c', 'a', 'p'] := by first | rfl | decide | simp
  rw [e]
  exact ⟨by decide, by first | rfl | decide⟩
theorem own_eR : (∀ c ∈ "rate".toList, c.toNat < 256) ∧ "rate".toList.map (fun c => Value.int (Jvm.Lit.byteI c.toNat.toUInt16)) = [(.int 114), (.int 97), (.int 116), (.int 101)] := by
  have e : "rate".toList = ['r', 'a', 't', 'e'] := by first | rfl | decide | simp
  rw [e]
  exact ⟨by decide, by first | rfl | decide⟩
theorem own_eB : (∀ c ∈ "budget".toList, c.toNat < 256) ∧ "budget".toList.map (fun c => Value.int (Jvm.Lit.byteI c.toNat.toUInt16)) = [(.int 98), (.int 117), (.int 100), (.int 103), (.int 101), (.int 116)] := by
  have e : "budget".toList = ['b', 'u', 'd', 'g', 'e', 't'] := by first | rfl | decide | simp
  rw [e]
  exact ⟨by decide, by first | rfl | decide⟩
theorem own_eE : (∀ c ∈ "".toList, c.toNat < 256) ∧ "".toList.map (fun c => Value.int (Jvm.Lit.byteI c.toNat.toUInt16)) = [] := by
  have e : "".toList = [] := by first | rfl | decide | simp
  rw [e]
  exact ⟨by decide, by first | rfl | decide⟩
theorem ww50 {Z : State} {a0 : Array Value} (hw : ∀ d ∈ tables_1, d.before a0 Z = true) : Jvm.Cond.before (Jvm.Cond.laysStatic cn_0 "$VALUES" cn_3) a0 Z = true := hw _ (List.mem_of_getElem? (i := 50) rfl)
theorem ww44 {Z : State} {a0 : Array Value} (hw : ∀ d ∈ tables_1, d.before a0 Z = true) : Jvm.Cond.before (Jvm.Cond.initialized cn_0) a0 Z = true := hw _ (List.mem_of_getElem? (i := 44) rfl)
theorem ww61 {Z : State} {a0 : Array Value} (hw : ∀ d ∈ tables_1, d.before a0 Z = true) : Jvm.Cond.before (Jvm.Cond.initializedFor cn_0 "$VALUES" cn_3) a0 Z = true := hw _ (List.mem_of_getElem? (i := 61) rfl)
theorem ww58 {Z : State} {a0 : Array Value} (hw : ∀ d ∈ tables_1, d.before a0 Z = true) : Jvm.Cond.before (Jvm.Cond.laysStatic cn_0 "CAP" cn_5) a0 Z = true := hw _ (List.mem_of_getElem? (i := 58) rfl)
theorem ww59 {Z : State} {a0 : Array Value} (hw : ∀ d ∈ tables_1, d.before a0 Z = true) : Jvm.Cond.before (Jvm.Cond.laysStatic cn_0 "RATE" cn_5) a0 Z = true := hw _ (List.mem_of_getElem? (i := 59) rfl)
theorem ww60 {Z : State} {a0 : Array Value} (hw : ∀ d ∈ tables_1, d.before a0 Z = true) : Jvm.Cond.before (Jvm.Cond.laysStatic cn_0 "BUDGET" cn_5) a0 Z = true := hw _ (List.mem_of_getElem? (i := 60) rfl)
theorem ww41 {Z : State} {a0 : Array Value} (hw : ∀ d ∈ tables_1, d.before a0 Z = true) : Jvm.Cond.before (Jvm.Cond.stringLink cn_2 (7 : Nat) "") a0 Z = true := hw _ (List.mem_of_getElem? (i := 41) rfl)
theorem ww82 {Z : State} {a0 : Array Value} (hw : ∀ d ∈ tables_1, d.before a0 Z = true) : Jvm.Cond.before (Jvm.Cond.stringLink cn_1 (13 : Nat) "") a0 Z = true := hw _ (List.mem_of_getElem? (i := 82) rfl)
theorem ww81 {Z : State} {a0 : Array Value} (hw : ∀ d ∈ tables_1, d.before a0 Z = true) : Jvm.Cond.before (Jvm.Cond.stringLink cn_1 (11 : Nat) "budget") a0 Z = true := hw _ (List.mem_of_getElem? (i := 81) rfl)
theorem ww80 {Z : State} {a0 : Array Value} (hw : ∀ d ∈ tables_1, d.before a0 Z = true) : Jvm.Cond.before (Jvm.Cond.stringLink cn_1 (9 : Nat) "rate") a0 Z = true := hw _ (List.mem_of_getElem? (i := 80) rfl)
theorem ww5 {Z : State} {a0 : Array Value} (hw : ∀ d ∈ tables_1, d.before a0 Z = true) : Jvm.Cond.before (Jvm.Cond.stringLink cn_1 (7 : Nat) "cap") a0 Z = true := hw _ (List.mem_of_getElem? (i := 5) rfl)
theorem own_EW {Z : State} {a0 : Array Value} (hw : ∀ d ∈ tables_1, d.before a0 Z = true) : EW Z a0 own_EL := (EW.cons (text := "cap") (ww5 hw) own_eC.1 (EW.cons (text := "rate") (ww80 hw) own_eR.1 (EW.cons (text := "budget") (ww81 hw) own_eB.1 (EW.cons (text := "") (ww82 hw) own_eE.1 (EW.cons (text := "") (ww41 hw) own_eE.1 EW.nil)))))
theorem own_safeN {Z : State} {EL : List (String × Nat)} {vm : Vm} {h : Heap} {x : Addr} (hal : Z.vm.Alike vm) (E : Exa Z h x cn_2) (F : Fld Z h x cn_2 "value" "[B" .null) : Safe Z EL vm h x := fun B => by
  obtain ⟨p, -, u, a, -, q, -, S, rfl | rfl⟩ := B
  · obtain ⟨cell, cf, k, i, f, e1, e2, -, -, -, -, e7⟩ := F
    cases (show h[q.sa]? = some q.sC from S.ha).symm.trans e1
    obtain ⟨cS, ⟨⟨-, -, -, ⟨cv, kv, iv, s4, -⟩, -, -, -, s8, -⟩, -⟩, -⟩ := S
    obtain ⟨kv', z4⟩ := ff_back (U := Wst Z vm h) hal s4
    have e4 := z4.symm.trans e2
    simp only [Option.some.injEq, Prod.mk.injEq] at e4
    rw [← e4.2.2.2, s8] at e7
    cases e7
  · obtain ⟨cell, k, e1, e2, -⟩ := E
    cases (show h[q.sd]? = some q.SA from S.hd).symm.trans e1
    obtain ⟨cS, -, -, f, -⟩ := S
    have f' : vm.findClass "[B" = some q.SA.cls := f
    rw [hal.findClass] at f'
    obtain ⟨k1, q1, q2⟩ := Vm.findClass_spec f'
    obtain ⟨k2, q3, q4⟩ := Vm.findClass_spec e2
    cases q1.symm.trans q3
    exact absurd (q2.symm.trans q4) (by decide)
theorem own_safeV {Z : State} {EL : List (String × Nat)} {vm : Vm} {h : Heap} {x : Addr} {k : ClassId} {ty : FieldType} {n : Int32} {vs : List Value} {d : Value} (hal : Z.vm.Alike vm) (V : Arv Z h x k ty n vs d) (ht : ty ≠ .byte) : Safe Z EL vm h x := by
  obtain ⟨c, A, -⟩ := V
  exact Safe.arr hal A ht
theorem own_openH {p : Program} {l : Launch} {e : Env} {R : Room} {s : State} {m : MethodId} {args : Array Value} {below : List Frame} {meth : Method} {c : Code} {Z : State} {a0 : Array Value} {EL : List (String × Nat)} {h0 : Heap} (K N : Nat) (Q : Option Value → Heap → List Loc → Prop) (hEL : EW Z a0 EL) (hh : s.heap = h0) (hlocks : meth.locks = false) :
    ∃ G : State → JFrame → Prop,
      (∀ {T T' : State} {g g' : JFrame}, (∀ t, Steps p.tables e below (T'.setTop g') t → Steps p.tables e below (T.setTop g) t) → G T' g' → G T g) ∧
      (∀ {T : State} {g : JFrame} {locs : List Loc} {cells slots : Nat} {v : Option Value} {h : Heap} {vm0 : Vm} {k0 : Nat}, Stand p l e R (s.setVm vm0) m args below meth c T locs cells slots → s.Since vm0 k0 → k0 ≤ h.size → CHr Z EL s.vm h0 vm0 h → Z.Warmed39 vm0 → (meth.sig.returnType = none → v = none) →
        (∀ fs, (∀ (f : JFrame) (acts : List Action), f.method = m → f.locked = none → f.entered = [] → (doReturn e (T.setTop f) acts v).1 = T.setFrames fs) → Steps p.tables e below (T.setTop g) (T.setFrames fs)) → T.heap = h → Q v h locs → cells ≤ K → slots ≤ N → G T g) ∧
      (∀ {T : State} {g : JFrame}, G T g → ∃ t o, Steps p.tables e below (T.setTop g) t ∧ t.status = .running ∧ Ended t below o ∧ ∃ v L, o = .returned v ∧ Q v t.heap L ∧ CHr Z EL s.vm s.heap t.vm t.heap ∧ ReturnedEndW s o t L K N) := by
  refine ⟨fun T g => ∃ t o, Steps p.tables e below (T.setTop g) t ∧ t.status = .running ∧ Ended t below o ∧ ∃ v L, o = .returned v ∧ Q v t.heap L ∧ CHr Z EL s.vm s.heap t.vm t.heap ∧ ReturnedEndW s o t L K N, ?_, ?_, fun h => h⟩
  · intro T T' g g' hs hG
    obtain ⟨t, o, h1, h2⟩ := hG
    exact ⟨t, o, hs t h1, h2⟩
  · intro T g locs cells slots v h vm0 k0 X hS hk0 hC hZ hv hst hT hQ hk hn
    obtain ⟨fs, hr, hrun, hended, hW⟩ := X.leaveW hS (by rw [hT]; exact hk0) hv hlocks
    refine ⟨_, _, hst fs hr, hrun, hended, v, locs, rfl, by show Q v T.heap locs; rw [hT]; exact hQ, ?_, hW.1, hW.2.1, hW.2.2.1, hW.2.2.2.mono hk hn⟩
    show CHr Z EL s.vm s.heap T.vm T.heap
    rw [hT, hh]
    exact hC.trans (CHv.at X hZ hEL hC.1)
def own_sp (cs : List Int32) (n : Int32) (vs : List Value) : Prop := StrChars.Road.CodA cs 0 n vs ∧ (∀ c ∈ cs, ¬ c < 0 ∧ ¬ (65535 : Int32) < c) ∧ cs.length ≤ 4000
theorem own_wS {Z : State} {a0 : Array Value} (hw : ∀ d ∈ tables_1, d.before a0 Z = true) : ∀ a ∈ Bundle.stringAtoms, a.before a0 Z = true := by
  intro a ha
  simp only [Bundle.stringAtoms, List.mem_cons, List.not_mem_nil, or_false] at ha
  rcases ha with rfl | rfl | rfl | rfl | rfl | rfl | rfl
  all_goals first | exact hw _ (List.mem_of_getElem? (i := 5) rfl) | exact hw _ (List.mem_of_getElem? (i := 6) rfl) | exact hw _ (List.mem_of_getElem? (i := 7) rfl) | exact hw _ (List.mem_of_getElem? (i := 8) rfl) | exact hw _ (List.mem_of_getElem? (i := 9) rfl) | exact hw _ (List.mem_of_getElem? (i := 10) rfl) | exact hw _ (List.mem_of_getElem? (i := 11) rfl) | exact hw _ (List.mem_of_getElem? (i := 12) rfl)
theorem own_shr0 (n : Int32) : n >>> ((0 : Int32) &&& 31) = n := by
  have c1 := c_ishr n (0 : Int32) 0 (by decide)
  rw [own_xeq, c1]
  simp
theorem own_spC : own_sp [(99 : Int32), (97 : Int32), (112 : Int32)] (3 : Int32) [(.int 99), (.int 97), (.int 112)] := ⟨Or.inl ⟨rfl, by decide, by first | rfl | decide, by decide⟩, by decide, by decide⟩
theorem own_spR : own_sp [(114 : Int32), (97 : Int32), (116 : Int32), (101 : Int32)] (4 : Int32) [(.int 114), (.int 97), (.int 116), (.int 101)] := ⟨Or.inl ⟨rfl, by decide, by first | rfl | decide, by decide⟩, by decide, by decide⟩
theorem own_spB : own_sp [(98 : Int32), (117 : Int32), (100 : Int32), (103 : Int32), (101 : Int32), (116 : Int32)] (6 : Int32) [(.int 98), (.int 117), (.int 100), (.int 103), (.int 101), (.int 116)] := ⟨Or.inl ⟨rfl, by decide, by first | rfl | decide, by decide⟩, by decide, by decide⟩
theorem own_spE : own_sp [] (0 : Int32) [] := ⟨Or.inl ⟨rfl, by decide, by first | rfl | decide, by decide⟩, by decide, by decide⟩
theorem own_fldE {Z : State} {args : Array Value} {t : Term} {C f d : String} {a : Addr} {v : Value} (ht : t.eval args Z none [] Z = some (.ref a)) (h : (Term.field t C f d).eval args Z none [] Z = some v) : Fld Z Z.heap a C f d v := by
  refine Fld.start ?_
  rw [← fld_at (C := C) (n := f) (dd := d) ht]
  exact h
theorem own_evR {Z : State} {args : Array Value} {X F : Term} {a : Addr} (hF : F.eval args Z none [] Z = some (.ref a)) (h : (Cond.eq X F).value args Z none Z [] = some true) : X.eval args Z none [] Z = some (.ref a) := by
  obtain ⟨x, y, h1, h2, h3, h4⟩ := cmp_v (Or.inl h)
  cases hF.symm.trans h2
  have hr : x.isRef = true := h4.2
  rcases ref_cases hr with rfl | ⟨b, rfl⟩
  · simp [Cond.value, h1, h2] at h
  · have q := gotT (P := b = a) (by simp [Cond.value, h1, h2]) h
    rw [h1, q]
theorem own_slotR {Z : State} {args : Array Value} {t u : Term} {a b : Addr} {i : Int32} {cl : Cell} (ht : t.eval args Z none [] Z = some (.ref a)) (hc : Z.heap[a]? = some cl) (hu : u.eval args Z none [] Z = some (.ref b)) (h : (Cond.eq (.elem t (.int i)) u).value args Z none Z [] = some true) : cl.slots[i.toNatClampNeg]? = some (.ref b) :=
  (elem_in (own_evR hu h) ht (Term.int_eval i) hc).2
section CloneV
variable {p : Program} {l : Launch} {e : Env} {R : Room} {s : State} {m : MethodId} {args : Array Value} {below : List Frame} {meth : Method} {c : Code} {T : State} {locs : List Loc} {cells slots : Nat} {Z : State} {h : Heap} {a : Addr} {ty : FieldType}
theorem own_cloneV (X : Stand p l e R s m args below meth c T locs cells slots) (hx : p.tables.exec = Jvm.exec) (hZ : Z.Warmed39 s.vm) {a0 : Array Value} {own ad : String} {index : Nat} (hown : s.vm.findClass own = some m.cls)
    (w1 : (Cond.methodLink own index ⟨ad, "clone", cn_8⟩).before a0 Z = true) (w2 : (Cond.sameMethod ad cn_9 "clone" cn_8).before a0 Z = true) (w3 : (Cond.native ⟨cn_9, "clone", cn_8⟩).before a0 Z = true)
    (w4 : (Cond.instanceMethod ⟨cn_9, "clone", cn_8⟩).before a0 Z = true) (w5 : (Cond.selects ad ⟨ad, "clone", cn_8⟩ ⟨cn_9, "clone", cn_8⟩).before a0 Z = true) (w6 : (Cond.castable ad "java/lang/Cloneable").before a0 Z = true)
    (eT : T.heap = h) {k : ClassId} {z : Int32} {vs : List Value} {dv : Value} (F : Arv Z h a k ty z vs dv) (E : Exa Z h a ad) {g : JFrame} (hg : g.method = m) (hsize : g.locals.size = c.maxLocals) {rest : List Value} (hst : g.stack = .ref a :: rest) (hd : decode c.code g.pc = .ok (.invokevirtual index, 3))
    (hf : 1 ≤ R.frames) {W cap : Nat} (hW : 2 * g.monitorRoom + (rest.map fun v => v.category).sum ≤ W) (hl : W + 14 ≤ R.locals) (hcap : z.toNatClampNeg ≤ cap) (hc : cells + 1 ≤ R.cells) (hsl : slots + cap ≤ R.slots) :
    ∃ T' h', Stand p l e R s m args below meth c T' locs (cells + 1) (slots + cap) ∧ T'.heap = h' ∧ Ext h h' ∧ Arv Z h' h.size k ty z vs dv ∧ Exa Z h' h.size ad ∧
      ∀ target, Steps p.tables e below (T'.setTop { g with pc := g.pc + 3, stack := .ref h.size :: rest }) target → Steps p.tables e below (T.setTop g) target := by
  obtain ⟨cl, A, q1, S, q3, H, G⟩ := F
  have FC : FitC Z cl := fitC_of A fun i hi v hv => by rw [H i hi] at hv; cases hv; exact G i hi
  obtain ⟨T', h', X', e', ex, A', E', st⟩ := cloneA X hx hZ hown w1 w2 w3 w4 w5 w6 eT A E FC hg hsize hst hd hf hW hl (by rw [S]; exact hcap) hc hsl
  exact ⟨T', h', X', e', ex, ⟨cloneOf cl, A', q1, S, q3, H, G⟩, E', st⟩
theorem own_getB {k : ClassId} {n j : Int32} {vs : List Value} {dv : Value} (V : Arv Z h a k .byte n vs dv) (hj : ¬ j < 0 ∧ j < n) : ∃ z, vs.getD j.toNatClampNeg dv = .int z := by
  obtain ⟨cl, A, -, S, N, H, Gf⟩ := V
  have hin := inb_of S hj
  have q := Gf j.toNatClampNeg (Nat.lt_of_not_le fun x => hin (Or.inr x))
  cases hv : vs.getD j.toNatClampNeg dv with
  | int z => exact ⟨z, rfl⟩
  | _ => rw [hv] at q; cases q
def own_ca (m : Int32) (cs : List Int32) : Prop := cs.length = m.toNatClampNeg ∧ ∀ c ∈ cs, ¬ c < 0 ∧ ¬ (255 : Int32) < c
theorem own_ca0 {k : ClassId} {m : Int32} (V : Arv Z h a k .char m [] (.int 0)) : ∃ cs : List Int32, Arv Z h a k .char m (cs.map Value.int) (.int 0) ∧ own_ca m cs := by
  refine ⟨List.replicate m.toNatClampNeg 0, ?_, by simp, fun c hc => ?_⟩
  · rw [List.map_replicate]
    exact V.pad (pad_rep [] (.int 0) m.toNatClampNeg)
  · rw [List.eq_of_mem_replicate hc]
    decide
theorem own_cal {m j : Int32} {cs : List Int32} (hca : own_ca m cs) (hj : ¬ j < 0 ∧ j < m) : j.toNatClampNeg < (cs.map Value.int).length := by
  rw [List.length_map, hca.1]
  show j.toInt.toNat < m.toInt.toNat
  have q0 : (0 : Int32).toInt = 0 := by decide
  rw [own_xlt, own_xlt] at hj
  omega
theorem own_cas {k : ClassId} {m c : Int32} {i : Nat} {cs : List Int32} {d : Value} (V : Arv Z h a k .char m ((cs.map Value.int).set i (.int c)) d) (hca : own_ca m cs) (hc : ¬ c < 0 ∧ ¬ (255 : Int32) < c) : ∃ cs' : List Int32, Arv Z h a k .char m (cs'.map Value.int) d ∧ own_ca m cs' := by
  refine ⟨cs.set i c, ?_, ?_, ?_⟩
  · rw [List.map_set]
    exact V
  · rw [List.length_set]
    exact hca.1
  · intro x hx
    rcases List.mem_or_eq_of_mem_set hx with h | rfl
    · exact hca.2 x h
    · exact hc
end CloneV
theorem own_c0s {cs : List Int32} (h : own_ca (0 : Int32) cs) : cs = [] := List.eq_nil_of_length_eq_zero (h.1.trans (by decide))
def own_bl (n : Int32) : Prop := ¬ n < (0 : Int32) ∧ ¬ (6 : Int32) < n
def own_n7 (n : Int32) : Prop := ¬ n < (0 : Int32) ∧ ¬ (7 : Int32) < n
theorem own_bli (n : Int32) : own_bl n ↔ 0 ≤ n.toInt ∧ n.toInt ≤ 6 := by
  have q0 : (0 : Int32).toInt = 0 := by decide
  have q6 : (6 : Int32).toInt = 6 := by decide
  unfold own_bl
  rw [own_xlt, own_xlt]
  omega
theorem own_n7i (n : Int32) : own_n7 n ↔ 0 ≤ n.toInt ∧ n.toInt ≤ 7 := by
  have q0 : (0 : Int32).toInt = 0 := by decide
  have q7 : (7 : Int32).toInt = 7 := by decide
  unfold own_n7
  rw [own_xlt, own_xlt]
  omega
theorem own_n7a {n : Int32} (h : own_bl n) : own_n7 n := by
  rw [own_bli] at h
  rw [own_n7i]
  omega
theorem own_n7c {n : Int32} (h : own_bl n) : own_n7 (n + (1 : Int32)) := by
  rw [own_bli] at h
  rw [own_n7i]
  have c1 := c_iadd n (1 : Int32)
  have q1 : (1 : Int32).toInt = 1 := by decide
  have r1 := rng32 (n + (1 : Int32))
  omega
theorem own_n7d (p : Int32) : own_n7 (p &&& (7 : Int32)) := by
  rw [own_n7i]
  have c1 := c_mask p (7 : Int32) 3 (by decide) (by decide)
  omega
theorem own_z0 {z : Int32} (h : (0 : Int32) < z) : ¬ z = 0 := by
  rintro rfl
  exact absurd h (by decide)
theorem own_ix {p z : Int32} (h : (0 : Int32) < z) : ¬ ((p &&& (2147483647 : Int32)) % z) < 0 ∧ ((p &&& (2147483647 : Int32)) % z) < z := by
  have m1 := c_mask p (2147483647 : Int32) 31 (by decide) (by decide)
  have q0 : (0 : Int32).toInt = 0 := by decide
  rw [own_xlt] at h
  have m2 := (c_iremV (p &&& (2147483647 : Int32)) z).1 (by omega) (by omega)
  rw [own_xlt, own_xlt]
  omega
theorem own_z8 {z : Int32} (h : own_n7 z) : z = (0 : Int32) ∨ z = (1 : Int32) ∨ z = (2 : Int32) ∨ z = (3 : Int32) ∨ z = (4 : Int32) ∨ z = (5 : Int32) ∨ z = (6 : Int32) ∨ z = (7 : Int32) := by
  rw [own_n7i] at h
  have q0 : (0 : Int32).toInt = 0 := by decide
  have q1 : (1 : Int32).toInt = 1 := by decide
  have q2 : (2 : Int32).toInt = 2 := by decide
  have q3 : (3 : Int32).toInt = 3 := by decide
  have q4 : (4 : Int32).toInt = 4 := by decide
  have q5 : (5 : Int32).toInt = 5 := by decide
  have q6 : (6 : Int32).toInt = 6 := by decide
  have q7 : (7 : Int32).toInt = 7 := by decide
  simp only [own_xeq, q0, q1, q2, q3, q4, q5, q6, q7]
  omega
theorem own_cap7 {z : Int32} (h : own_n7 z) : z.toNatClampNeg ≤ 7 := by
  rw [own_n7i] at h
  show z.toInt.toNat ≤ 7
  omega
def own_pk (c r b : Addr) (ds : List Int32) (v : Value) : Prop := ([(99 : Int32), (97 : Int32), (112 : Int32)] = ds ∧ v = .ref c) ∨ ([(114 : Int32), (97 : Int32), (116 : Int32), (101 : Int32)] = ds ∧ v = .ref r) ∨ ([(98 : Int32), (117 : Int32), (100 : Int32), (103 : Int32), (101 : Int32), (116 : Int32)] = ds ∧ v = .ref b) ∨ ((¬ [(99 : Int32), (97 : Int32), (112 : Int32)] = ds ∧ ¬ [(114 : Int32), (97 : Int32), (116 : Int32), (101 : Int32)] = ds ∧ ¬ [(98 : Int32), (117 : Int32), (100 : Int32), (103 : Int32), (101 : Int32), (116 : Int32)] = ds) ∧ v = .null)
theorem own_pk_u {c r b : Addr} {ds : List Int32} {v w : Value} (h1 : own_pk c r b ds v) (h2 : own_pk c r b ds w) : w = v := by
  rcases h1 with ⟨rfl, rfl⟩ | ⟨rfl, rfl⟩ | ⟨rfl, rfl⟩ | ⟨⟨n1, n2, n3⟩, rfl⟩ <;> rcases h2 with ⟨q, rfl⟩ | ⟨q, rfl⟩ | ⟨q, rfl⟩ | ⟨⟨m1, m2, m3⟩, rfl⟩
  all_goals first | rfl | exact absurd rfl m1 | exact absurd rfl m2 | exact absurd rfl m3 | exact absurd q n1 | exact absurd q n2 | exact absurd q n3 | exact absurd q (by decide)
theorem own_pk_r {c r b : Addr} {ds : List Int32} {v : Value} (h : own_pk c r b ds v) : v.isRef = true := by
  rcases h with ⟨-, rfl⟩ | ⟨-, rfl⟩ | ⟨-, rfl⟩ | ⟨-, rfl⟩ <;> rfl
theorem d0_0 : decode jdk_42_method_152_code 0 = .ok (.getstatic 38, 3) := by decide +kernel
theorem ww24 {Z : State} {a0 : Array Value} (hw : ∀ d ∈ tables_1, d.before a0 Z = true) : Jvm.Cond.before (Jvm.Cond.fieldLink cn_2 (38 : Nat) cn_2 "COMPACT_STRINGS" "Z") a0 Z = true := hw _ (List.mem_of_getElem? (i := 24) rfl)
theorem d0_3 : decode jdk_42_method_152_code 3 = .ok (.ifCond .eq 10, 3) := by decide +kernel
theorem d0_6 : decode jdk_42_method_152_code 6 = .ok (.aload_n 0, 1) := by decide +kernel
theorem d0_7 : decode jdk_42_method_152_code 7 = .ok (.getfield 15, 3) := by decide +kernel
theorem ww25 {Z : State} {a0 : Array Value} (hw : ∀ d ∈ tables_1, d.before a0 Z = true) : Jvm.Cond.before (Jvm.Cond.fieldLink cn_2 (15 : Nat) cn_2 "coder" "B") a0 Z = true := hw _ (List.mem_of_getElem? (i := 25) rfl)
theorem d0_10 : decode jdk_42_method_152_code 10 = .ok (.goto 4, 3) := by decide +kernel
theorem d0_14 : decode jdk_42_method_152_code 14 = .ok (.ireturn, 1) := by decide +kernel
abbrev rr_co : Room := { frames := 0, cells := 0, slots := 0, locals := 0 }
abbrev y_0 : MethodName := ⟨cn_2, "coder", "()B"⟩
theorem pn_0 : plainName cn_2 = true := by first | (simp [plainName, overriddenIn]; done) | decide +kernel
theorem ef_co (m : MethodId) (o0 : Addr) : entryFrame m #[(.ref o0)] 1 = mkF m 0 #[.val (.ref o0)] [] := by first | (simp [entryFrame, mkF, argsToLocals, Value.category]; done) | rfl
def f_co (w__VALUES : Addr) (w_CAP : Addr) (w_RATE : Addr) (w_BUDGET : Addr) (w_COMPACT_STRINGS : Int32) (w_SIOOBE_FORMATTER : Value) (w_tCAP : Addr) (w_vCAP : Addr) (w_tRATE : Addr) (w_vRATE : Addr) (w_tBUDGET : Addr) (w_vBUDGET : Addr) (o0 : Addr) : Int32 := (0 : Int32)
def Q_co (Z : State) (w__VALUES : Addr) (w_CAP : Addr) (w_RATE : Addr) (w_BUDGET : Addr) (w_COMPACT_STRINGS : Int32) (w_SIOOBE_FORMATTER : Value) (w_tCAP : Addr) (w_vCAP : Addr) (w_tRATE : Addr) (w_vRATE : Addr) (w_tBUDGET : Addr) (w_vBUDGET : Addr) (o0 : Addr) (h0 : Heap) (n0 : Nat) (v : Option Value) (h : Heap) (L : List Loc) : Prop := v = some (.int (f_co w__VALUES w_CAP w_RATE w_BUDGET w_COMPACT_STRINGS w_SIOOBE_FORMATTER w_tCAP w_vCAP w_tRATE w_vRATE w_tBUDGET w_vBUDGET o0)) ∧ Fr n0 L ∧ h = h0
set_option maxRecDepth 65536 in
set_option maxHeartbeats 40000000 in
theorem rm_co (l : Launch) (Z : State) (a0 : Array Value) (hw : ∀ d ∈ tables_1, d.before a0 Z = true) (ws : List Jvm.Cond) (w__VALUES : Addr) (w_CAP : Addr) (w_RATE : Addr) (w_BUDGET : Addr) (w_COMPACT_STRINGS : Int32) (w_SIOOBE_FORMATTER : Value) (w_tCAP : Addr) (w_vCAP : Addr) (w_tRATE : Addr) (w_vRATE : Addr) (w_tBUDGET : Addr) (w_vBUDGET : Addr) (o0 : Addr) (h0 : Heap) (n0 : Nat) (Z0 : n0 ≤ h0.size) (ST : own_St Z w__VALUES w_CAP w_RATE w_BUDGET w_COMPACT_STRINGS w_SIOOBE_FORMATTER w_tCAP w_vCAP w_tRATE w_vRATE w_tBUDGET w_vBUDGET) (O0 : Old Z n0 h0) (Fc : Fld Z h0 o0 cn_2 "coder" "B" (.int 0)) :
    MetFree l y_0 (head1 (Jvm.Cond.code y_0 jdk_42_method_152_code 1 (some .byte) :: ws) rr_co) (fun a U => a = #[(.ref o0)] ∧ Z.Warmed39 U.vm ∧ U.heap = h0) (fun _ _ _ _ _ => True) (fun _ U o U' => ∃ v L, o = .returned v ∧ Q_co Z w__VALUES w_CAP w_RATE w_BUDGET w_COMPACT_STRINGS w_SIOOBE_FORMATTER w_tCAP w_vCAP w_tRATE w_vRATE w_tBUDGET w_vBUDGET o0 h0 n0 v U'.heap L ∧ FrameEnd U o U' L rr_co.cells rr_co.slots) := by
  refine MetFree.of_bodySF (plainFor_of_name pn_0) hisR ?_
  intro p e s m args below meth c s₁ Bd hml0 hP hK
  obtain ⟨rfl, hZ, hh⟩ := hP
  have hx := Bd.exec
  have hby := Bd.bytes
  have hml : c.maxLocals = 1 := hml0
  have hown : s.vm.findClass cn_2 = some m.cls := findClass_of_methodNamed Bd.named
  have hnm := (name_of_methodNamed Bd.named Bd.method).1
  have X0 : Stand p l e rr_co s m #[(.ref o0)] below meth c s₁ [] 0 0 := Stand.of_body Bd
  have e0 : s₁.heap = h0 := by rw [← hh, Bd.state]; rfl
  have N0 := Fr.nil n0
  obtain ⟨G, step, ret, fin⟩ := own_open (p := p) (l := l) (e := e) (R := rr_co) (s := s) (m := m) (args := #[(.ref o0)]) (below := below) (meth := meth) (c := c) (rr_co.cells) (rr_co.slots) (Q_co Z w__VALUES w_CAP w_RATE w_BUDGET w_COMPACT_STRINGS w_SIOOBE_FORMATTER w_tCAP w_vCAP w_tRATE w_vRATE w_tBUDGET w_vBUDGET o0 h0 n0) Bd.notSynchronized
  refine fin (g := entryFrame m #[(.ref o0)] 1) ?_
  rw [ef_co m o0]
  show G s₁ (mkF m 0 #[.val (.ref o0)] [])
  obtain ⟨T1, X1, e1, st1⟩ := getS2 X0 hx hZ hown (host := "") (Or.inl (ww24 hw)) Via.refl e0 (Sta.ext O0.2 ST.k8) (g := (mkF m 0 #[.val (.ref o0)] [])) rfl (hb hby d0_0)
  refine step st1 ?_
  show G T1 (mkF m 3 #[.val (.ref o0)] [(.int w_COMPACT_STRINGS)])
  refine step (fun t k => XS.ifNo X1.here hx rfl (hb hby d0_3) rfl ((if0 _ _).trans (feq ST.k11).1) k) ?_
  show G T1 (mkF m 6 #[.val (.ref o0)] [])
  refine step (fun t k => XS.aloadN X1.here hx rfl (hb hby d0_6) rfl rfl k) ?_
  show G T1 (mkF m 7 #[.val (.ref o0)] [(.ref o0)])
  obtain ⟨T2, X2, e2, st2⟩ := getF X1 hx hZ hown (host := "") (Or.inl (ww25 hw)) Via.refl e1 Fc (g := (mkF m 7 #[.val (.ref o0)] [(.ref o0)])) rfl rfl (hb hby d0_7)
  refine step st2 ?_
  show G T2 (mkF m 10 #[.val (.ref o0)] [(.int 0)])
  refine step (fun t k => XS.goto X2.here hx rfl (pc0 := 10) (pc' := 14) rfl (hb hby d0_10) (by decide) (by decide) k) ?_
  show G T2 (mkF m 14 #[.val (.ref o0)] [(.int 0)])
  exact ret (v := some (.int 0)) X2 (fun h => by rw [Bd.returns] at h; cases h) (fun fs hr => retN X2 hx (t := .byte) Bd.returns (by simp) (hb hby d0_14) hr) e2 ⟨rfl, N0, rfl⟩ (by decide) (by decide)
theorem d1_0 : decode jdk_42_method_154_code 0 = .ok (.getstatic 38, 3) := by decide +kernel
theorem d1_3 : decode jdk_42_method_154_code 3 = .ok (.ifCond .eq 14, 3) := by decide +kernel
theorem d1_6 : decode jdk_42_method_154_code 6 = .ok (.aload_n 0, 1) := by decide +kernel
theorem d1_7 : decode jdk_42_method_154_code 7 = .ok (.getfield 15, 3) := by decide +kernel
theorem d1_10 : decode jdk_42_method_154_code 10 = .ok (.ifCond .ne 7, 3) := by decide +kernel
theorem d1_13 : decode jdk_42_method_154_code 13 = .ok (.iconst 1, 1) := by decide +kernel
theorem d1_14 : decode jdk_42_method_154_code 14 = .ok (.goto 4, 3) := by decide +kernel
theorem d1_18 : decode jdk_42_method_154_code 18 = .ok (.ireturn, 1) := by decide +kernel
abbrev rr_la : Room := { frames := 0, cells := 0, slots := 0, locals := 0 }
abbrev y_1 : MethodName := ⟨cn_2, "isLatin1", "()Z"⟩
theorem ef_la (m : MethodId) (o0 : Addr) : entryFrame m #[(.ref o0)] 1 = mkF m 0 #[.val (.ref o0)] [] := by first | (simp [entryFrame, mkF, argsToLocals, Value.category]; done) | rfl
def f_la (w__VALUES : Addr) (w_CAP : Addr) (w_RATE : Addr) (w_BUDGET : Addr) (w_COMPACT_STRINGS : Int32) (w_SIOOBE_FORMATTER : Value) (w_tCAP : Addr) (w_vCAP : Addr) (w_tRATE : Addr) (w_vRATE : Addr) (w_tBUDGET : Addr) (w_vBUDGET : Addr) (o0 : Addr) : Int32 := (1 : Int32)
def Q_la (Z : State) (w__VALUES : Addr) (w_CAP : Addr) (w_RATE : Addr) (w_BUDGET : Addr) (w_COMPACT_STRINGS : Int32) (w_SIOOBE_FORMATTER : Value) (w_tCAP : Addr) (w_vCAP : Addr) (w_tRATE : Addr) (w_vRATE : Addr) (w_tBUDGET : Addr) (w_vBUDGET : Addr) (o0 : Addr) (h0 : Heap) (n0 : Nat) (v : Option Value) (h : Heap) (L : List Loc) : Prop := v = some (.int (f_la w__VALUES w_CAP w_RATE w_BUDGET w_COMPACT_STRINGS w_SIOOBE_FORMATTER w_tCAP w_vCAP w_tRATE w_vRATE w_tBUDGET w_vBUDGET o0)) ∧ Fr n0 L ∧ h = h0
set_option maxRecDepth 65536 in
set_option maxHeartbeats 40000000 in
theorem rm_la (l : Launch) (Z : State) (a0 : Array Value) (hw : ∀ d ∈ tables_1, d.before a0 Z = true) (ws : List Jvm.Cond) (w__VALUES : Addr) (w_CAP : Addr) (w_RATE : Addr) (w_BUDGET : Addr) (w_COMPACT_STRINGS : Int32) (w_SIOOBE_FORMATTER : Value) (w_tCAP : Addr) (w_vCAP : Addr) (w_tRATE : Addr) (w_vRATE : Addr) (w_tBUDGET : Addr) (w_vBUDGET : Addr) (o0 : Addr) (h0 : Heap) (n0 : Nat) (Z0 : n0 ≤ h0.size) (ST : own_St Z w__VALUES w_CAP w_RATE w_BUDGET w_COMPACT_STRINGS w_SIOOBE_FORMATTER w_tCAP w_vCAP w_tRATE w_vRATE w_tBUDGET w_vBUDGET) (O0 : Old Z n0 h0) (Fc : Fld Z h0 o0 cn_2 "coder" "B" (.int 0)) :
    MetFree l y_1 (head1 (Jvm.Cond.code y_1 jdk_42_method_154_code 1 (some .boolean) :: ws) rr_la) (fun a U => a = #[(.ref o0)] ∧ Z.Warmed39 U.vm ∧ U.heap = h0) (fun _ _ _ _ _ => True) (fun _ U o U' => ∃ v L, o = .returned v ∧ Q_la Z w__VALUES w_CAP w_RATE w_BUDGET w_COMPACT_STRINGS w_SIOOBE_FORMATTER w_tCAP w_vCAP w_tRATE w_vRATE w_tBUDGET w_vBUDGET o0 h0 n0 v U'.heap L ∧ FrameEnd U o U' L rr_la.cells rr_la.slots) := by
  refine MetFree.of_bodySF (plainFor_of_name pn_0) hisR ?_
  intro p e s m args below meth c s₁ Bd hml0 hP hK
  obtain ⟨rfl, hZ, hh⟩ := hP
  have hx := Bd.exec
  have hby := Bd.bytes
  have hml : c.maxLocals = 1 := hml0
  have hown : s.vm.findClass cn_2 = some m.cls := findClass_of_methodNamed Bd.named
  have hnm := (name_of_methodNamed Bd.named Bd.method).1
  have X0 : Stand p l e rr_la s m #[(.ref o0)] below meth c s₁ [] 0 0 := Stand.of_body Bd
  have e0 : s₁.heap = h0 := by rw [← hh, Bd.state]; rfl
  have N0 := Fr.nil n0
  obtain ⟨G, step, ret, fin⟩ := own_open (p := p) (l := l) (e := e) (R := rr_la) (s := s) (m := m) (args := #[(.ref o0)]) (below := below) (meth := meth) (c := c) (rr_la.cells) (rr_la.slots) (Q_la Z w__VALUES w_CAP w_RATE w_BUDGET w_COMPACT_STRINGS w_SIOOBE_FORMATTER w_tCAP w_vCAP w_tRATE w_vRATE w_tBUDGET w_vBUDGET o0 h0 n0) Bd.notSynchronized
  refine fin (g := entryFrame m #[(.ref o0)] 1) ?_
  rw [ef_la m o0]
  show G s₁ (mkF m 0 #[.val (.ref o0)] [])
  obtain ⟨T1, X1, e1, st1⟩ := getS2 X0 hx hZ hown (host := "") (Or.inl (ww24 hw)) Via.refl e0 (Sta.ext O0.2 ST.k8) (g := (mkF m 0 #[.val (.ref o0)] [])) rfl (hb hby d1_0)
  refine step st1 ?_
  show G T1 (mkF m 3 #[.val (.ref o0)] [(.int w_COMPACT_STRINGS)])
  refine step (fun t k => XS.ifNo X1.here hx rfl (hb hby d1_3) rfl ((if0 _ _).trans (feq ST.k11).1) k) ?_
  show G T1 (mkF m 6 #[.val (.ref o0)] [])
  refine step (fun t k => XS.aloadN X1.here hx rfl (hb hby d1_6) rfl rfl k) ?_
  show G T1 (mkF m 7 #[.val (.ref o0)] [(.ref o0)])
  obtain ⟨T2, X2, e2, st2⟩ := getF X1 hx hZ hown (host := "") (Or.inl (ww25 hw)) Via.refl e1 Fc (g := (mkF m 7 #[.val (.ref o0)] [(.ref o0)])) rfl rfl (hb hby d1_7)
  refine step st2 ?_
  show G T2 (mkF m 10 #[.val (.ref o0)] [(.int 0)])
  refine step (fun t k => XS.ifNo X2.here hx rfl (hb hby d1_10) rfl ((if0 _ _).trans (teq (by decide : (0 : Int32) = (0 : Int32))).2) k) ?_
  show G T2 (mkF m 13 #[.val (.ref o0)] [])
  refine step (fun t k => XS.iconst X2.here hx rfl (hb hby d1_13) k) ?_
  show G T2 (mkF m 14 #[.val (.ref o0)] [(.int 1)])
  refine step (fun t k => XS.goto X2.here hx rfl (pc0 := 14) (pc' := 18) rfl (hb hby d1_14) (by decide) (by decide) k) ?_
  show G T2 (mkF m 18 #[.val (.ref o0)] [(.int 1)])
  exact ret (v := some (.int 1)) X2 (fun h => by rw [Bd.returns] at h; cases h) (fun fs hr => retN X2 hx (t := .boolean) Bd.returns (by simp) (hb hby d1_18) hr) e2 ⟨rfl, N0, rfl⟩ (by decide) (by decide)
theorem ww7 {Z : State} {a0 : Array Value} (hw : ∀ d ∈ tables_1, d.before a0 Z = true) : Jvm.Cond.before (Jvm.Cond.instantiable cn_2 (4 : Nat)) a0 Z = true := hw _ (List.mem_of_getElem? (i := 7) rfl)
theorem d2_0 : decode jdk_42_method_54_code 0 = .ok (.aload_n 0, 1) := by decide +kernel
theorem d2_1 : decode jdk_42_method_54_code 1 = .ok (.getfield 9, 3) := by decide +kernel
theorem ww18 {Z : State} {a0 : Array Value} (hw : ∀ d ∈ tables_1, d.before a0 Z = true) : Jvm.Cond.before (Jvm.Cond.fieldLink cn_2 (9 : Nat) cn_2 "value" "[B") a0 Z = true := hw _ (List.mem_of_getElem? (i := 18) rfl)
theorem d2_4 : decode jdk_42_method_54_code 4 = .ok (.arraylength, 1) := by decide +kernel
theorem d2_5 : decode jdk_42_method_54_code 5 = .ok (.aload_n 0, 1) := by decide +kernel
theorem d2_6 : decode jdk_42_method_54_code 6 = .ok (.invokevirtual 335, 3) := by decide +kernel
theorem ww19 {Z : State} {a0 : Array Value} (hw : ∀ d ∈ tables_1, d.before a0 Z = true) : Jvm.Cond.before (Jvm.Cond.methodLink cn_2 (335 : Nat) ({ cls := cn_2, name := "coder", desc := "()B" } : Jvm.MethodName)) a0 Z = true := hw _ (List.mem_of_getElem? (i := 19) rfl)
theorem ww22 {Z : State} {a0 : Array Value} (hw : ∀ d ∈ tables_1, d.before a0 Z = true) : Jvm.Cond.before (Jvm.Cond.selects cn_2 ({ cls := cn_2, name := "coder", desc := "()B" } : Jvm.MethodName) ({ cls := cn_2, name := "coder", desc := "()B" } : Jvm.MethodName)) a0 Z = true := hw _ (List.mem_of_getElem? (i := 22) rfl)
theorem ww23 {Z : State} {a0 : Array Value} (hw : ∀ d ∈ tables_1, d.before a0 Z = true) : Jvm.Cond.before (Jvm.Cond.code ({ cls := cn_2, name := "coder", desc := "()B" } : Jvm.MethodName) jdk_42_method_152_code (1 : Nat) (Option.some Jvm.ClassFile.FieldType.byte)) a0 Z = true := hw _ (List.mem_of_getElem? (i := 23) rfl)
theorem ww6 {Z : State} {a0 : Array Value} (hw : ∀ d ∈ tables_1, d.before a0 Z = true) : Jvm.Cond.before (Jvm.Cond.initialized cn_2) a0 Z = true := hw _ (List.mem_of_getElem? (i := 6) rfl)
theorem pd_0 : parseMethodDescriptor "()B" = some ⟨[], some .byte⟩ := by decide +kernel
theorem ww20 {Z : State} {a0 : Array Value} (hw : ∀ d ∈ tables_1, d.before a0 Z = true) : Jvm.Cond.before (Jvm.Cond.declares ({ cls := cn_2, name := "coder", desc := "()B" } : Jvm.MethodName)) a0 Z = true := hw _ (List.mem_of_getElem? (i := 20) rfl)
theorem ww21 {Z : State} {a0 : Array Value} (hw : ∀ d ∈ tables_1, d.before a0 Z = true) : Jvm.Cond.before (Jvm.Cond.instanceMethod ({ cls := cn_2, name := "coder", desc := "()B" } : Jvm.MethodName)) a0 Z = true := hw _ (List.mem_of_getElem? (i := 21) rfl)
theorem d2_9 : decode jdk_42_method_54_code 9 = .ok (.ishr, 1) := by decide +kernel
theorem d2_10 : decode jdk_42_method_54_code 10 = .ok (.ireturn, 1) := by decide +kernel
abbrev rr_le : Room := { frames := 1, cells := 0, slots := 0, locals := 13 }
abbrev y_2 : MethodName := ⟨cn_2, "length", "()I"⟩
theorem ef_le (m : MethodId) (o0 : Addr) : entryFrame m #[(.ref o0)] 1 = mkF m 0 #[.val (.ref o0)] [] := by first | (simp [entryFrame, mkF, argsToLocals, Value.category]; done) | rfl
def f_le (w__VALUES : Addr) (w_CAP : Addr) (w_RATE : Addr) (w_BUDGET : Addr) (w_COMPACT_STRINGS : Int32) (w_SIOOBE_FORMATTER : Value) (w_tCAP : Addr) (w_vCAP : Addr) (w_tRATE : Addr) (w_vRATE : Addr) (w_tBUDGET : Addr) (w_vBUDGET : Addr) (o0 : Addr) (t : Addr) (kk : ClassId) (n : Int32) (vs : List Value) : Int32 := n
def Q_le (Z : State) (w__VALUES : Addr) (w_CAP : Addr) (w_RATE : Addr) (w_BUDGET : Addr) (w_COMPACT_STRINGS : Int32) (w_SIOOBE_FORMATTER : Value) (w_tCAP : Addr) (w_vCAP : Addr) (w_tRATE : Addr) (w_vRATE : Addr) (w_tBUDGET : Addr) (w_vBUDGET : Addr) (o0 : Addr) (t : Addr) (kk : ClassId) (n : Int32) (vs : List Value) (h0 : Heap) (n0 : Nat) (v : Option Value) (h : Heap) (L : List Loc) : Prop := v = some (.int (f_le w__VALUES w_CAP w_RATE w_BUDGET w_COMPACT_STRINGS w_SIOOBE_FORMATTER w_tCAP w_vCAP w_tRATE w_vRATE w_tBUDGET w_vBUDGET o0 t kk n vs)) ∧ Fr n0 L ∧ h = h0
set_option maxRecDepth 65536 in
set_option maxHeartbeats 40000000 in
theorem rm_le (l : Launch) (Z : State) (a0 : Array Value) (hw : ∀ d ∈ tables_1, d.before a0 Z = true) (ws : List Jvm.Cond) (w__VALUES : Addr) (w_CAP : Addr) (w_RATE : Addr) (w_BUDGET : Addr) (w_COMPACT_STRINGS : Int32) (w_SIOOBE_FORMATTER : Value) (w_tCAP : Addr) (w_vCAP : Addr) (w_tRATE : Addr) (w_vRATE : Addr) (w_tBUDGET : Addr) (w_vBUDGET : Addr) (o0 : Addr) (t : Addr) (kk : ClassId) (n : Int32) (vs : List Value) (h0 : Heap) (n0 : Nat) (Z0 : n0 ≤ h0.size) (ST : own_St Z w__VALUES w_CAP w_RATE w_BUDGET w_COMPACT_STRINGS w_SIOOBE_FORMATTER w_tCAP w_vCAP w_tRATE w_vRATE w_tBUDGET w_vBUDGET) (O0 : Old Z n0 h0) (Es : Exa Z h0 o0 cn_2) (Fv : Fld Z h0 o0 cn_2 "value" "[B" (.ref t)) (Fc : Fld Z h0 o0 cn_2 "coder" "B" (.int 0)) (Va : Arv Z h0 t kk .byte n vs (.int 0)) :
    MetFree l y_2 (head1 (Jvm.Cond.code y_2 jdk_42_method_54_code 1 (some .int) :: ws) rr_le) (fun a U => a = #[(.ref o0)] ∧ Z.Warmed39 U.vm ∧ U.heap = h0) (fun _ _ _ _ _ => True) (fun _ U o U' => ∃ v L, o = .returned v ∧ Q_le Z w__VALUES w_CAP w_RATE w_BUDGET w_COMPACT_STRINGS w_SIOOBE_FORMATTER w_tCAP w_vCAP w_tRATE w_vRATE w_tBUDGET w_vBUDGET o0 t kk n vs h0 n0 v U'.heap L ∧ FrameEnd U o U' L rr_le.cells rr_le.slots) := by
  refine MetFree.of_bodySF (plainFor_of_name pn_0) hisR ?_
  intro p e s m args below meth c s₁ Bd hml0 hP hK
  obtain ⟨rfl, hZ, hh⟩ := hP
  have hx := Bd.exec
  have hby := Bd.bytes
  have hml : c.maxLocals = 1 := hml0
  have hown : s.vm.findClass cn_2 = some m.cls := findClass_of_methodNamed Bd.named
  have hnm := (name_of_methodNamed Bd.named Bd.method).1
  have X0 : Stand p l e rr_le s m #[(.ref o0)] below meth c s₁ [] 0 0 := Stand.of_body Bd
  have e0 : s₁.heap = h0 := by rw [← hh, Bd.state]; rfl
  have N0 := Fr.nil n0
  obtain ⟨G, step, ret, fin⟩ := own_open (p := p) (l := l) (e := e) (R := rr_le) (s := s) (m := m) (args := #[(.ref o0)]) (below := below) (meth := meth) (c := c) (rr_le.cells) (rr_le.slots) (Q_le Z w__VALUES w_CAP w_RATE w_BUDGET w_COMPACT_STRINGS w_SIOOBE_FORMATTER w_tCAP w_vCAP w_tRATE w_vRATE w_tBUDGET w_vBUDGET o0 t kk n vs h0 n0) Bd.notSynchronized
  refine fin (g := entryFrame m #[(.ref o0)] 1) ?_
  rw [ef_le m o0]
  have ne_o0_t : o0 ≠ t := own_ne_arv Es (ww7 hw) Va
  show G s₁ (mkF m 0 #[.val (.ref o0)] [])
  refine step (fun t k => XS.aloadN X0.here hx rfl (hb hby d2_0) rfl rfl k) ?_
  show G s₁ (mkF m 1 #[.val (.ref o0)] [(.ref o0)])
  obtain ⟨T1, X1, e1, st1⟩ := getF X0 hx hZ hown (host := "") (Or.inl (ww18 hw)) Via.refl e0 Fv (g := (mkF m 1 #[.val (.ref o0)] [(.ref o0)])) rfl rfl (hb hby d2_1)
  refine step st1 ?_
  show G T1 (mkF m 4 #[.val (.ref o0)] [(.ref t)])
  have q2 := own_len X1 hx hZ e1 Va (g := (mkF m 4 #[.val (.ref o0)] [(.ref t)])) rfl rfl (hb hby d2_4)
  refine step q2 ?_
  show G T1 (mkF m 5 #[.val (.ref o0)] [(.int n)])
  refine step (fun t k => XS.aloadN X1.here hx rfl (hb hby d2_5) rfl rfl k) ?_
  show G T1 (mkF m 6 #[.val (.ref o0)] [(.ref o0), (.int n)])
  have hK3 := (backOf (R := rr_le) (p := p) (e := e) (below := below) (s := s) (args := #[(.ref o0)]) (len := 3) (W := 1) (rm_co l Z a0 hw [] w__VALUES w_CAP w_RATE w_BUDGET w_COMPACT_STRINGS w_SIOOBE_FORMATTER w_tCAP w_vCAP w_tRATE w_vRATE w_tBUDGET w_vBUDGET o0 h0 n0 (own_old_le O0) ST O0 Fc) hZ (ww23 hw) (ww6 hw) (by decide) (by decide))
  obtain ⟨cq3, kq3, q3a, q3b, q3c⟩ := isOf hZ e1 Es
  obtain ⟨_, _, ⟨T3, L3, k3, n3⟩, -, X3, ⟨Lc3, hQ3, l3, y3, z3⟩, st3⟩ := X1.virtualBack hx (y := y_0) (z := y_0) hown (mvT hZ (ww19 hw)) (mvT hZ (ww20 hw)) (notFace_of_selects (args := #[]) (mvT hZ (ww22 hw))) (mvT hZ (ww22 hw)) (mvT hZ (ww21 hw)) (by decide) hK3 q3a q3c (g := (mkF m 6 #[.val (.ref o0)] [(.ref o0), (.int n)])) rfl (by rw [hml]; rfl) (Steps.refl _) (argsL := []) (rest := [(.int n)]) (lenOf pd_0 rfl) rfl (by show 2 * 0 + _ ≤ _; exact Nat.le_of_eq rfl) (hb hby d2_6) (fun _ _ => ⟨rfl, e1, (by decide : 0 + 0 ≤ _), (by decide : 0 + 0 ≤ _)⟩)
  dsimp only [Pt.U, Pt.locs, Pt.cells, Pt.slots] at X3 l3 y3 z3 st3 hQ3
  subst l3 y3 z3
  obtain ⟨rfl, N3q, e3⟩ := hQ3
  have N3 := Fr.app N0 N3q
  obtain ⟨lc3, X3, N3⟩ := own_gen X3 N3
  refine step (fun t k => st3.trans k) ?_
  show G T3 (mkF m 9 #[.val (.ref o0)] [(.int (f_co w__VALUES w_CAP w_RATE w_BUDGET w_COMPACT_STRINGS w_SIOOBE_FORMATTER w_tCAP w_vCAP w_tRATE w_vRATE w_tBUDGET w_vBUDGET o0)), (.int n)])
  have r4 : (f_co w__VALUES w_CAP w_RATE w_BUDGET w_COMPACT_STRINGS w_SIOOBE_FORMATTER w_tCAP w_vCAP w_tRATE w_vRATE w_tBUDGET w_vBUDGET o0) = (0 : Int32) := rfl
  rw [r4]
  show G T3 (mkF m 9 #[.val (.ref o0)] [(.int 0), (.int n)])
  refine step (fun t k => XS.ishr X3.here hx rfl (hb hby d2_9) rfl k) ?_
  show G T3 (mkF m 10 #[.val (.ref o0)] [(.int (n >>> ((0 : Int32) &&& 31)))])
  rw [own_shr0]
  show G T3 (mkF m 10 #[.val (.ref o0)] [(.int n)])
  exact ret (v := some (.int n)) X3 (fun h => by rw [Bd.returns] at h; cases h) (fun fs hr => retI X3 hx Bd.returns (hb hby d2_10) hr) e3 ⟨rfl, N3, rfl⟩ (by decide) (by decide)
theorem d3_0 : decode jdk_41_method_11_code 0 = .ok (.iload_n 0, 1) := by decide +kernel
theorem d3_1 : decode jdk_41_method_11_code 1 = .ok (.ifCond .lt 8, 3) := by decide +kernel
theorem d3_4 : decode jdk_41_method_11_code 4 = .ok (.iload_n 0, 1) := by decide +kernel
theorem d3_5 : decode jdk_41_method_11_code 5 = .ok (.iload_n 1, 1) := by decide +kernel
theorem d3_6 : decode jdk_41_method_11_code 6 = .ok (.if_icmp .lt 10, 3) := by decide +kernel
theorem d3_16 : decode jdk_41_method_11_code 16 = .ok (.iload_n 0, 1) := by decide +kernel
theorem d3_17 : decode jdk_41_method_11_code 17 = .ok (.ireturn, 1) := by decide +kernel
abbrev rr_ci : Room := { frames := 0, cells := 0, slots := 0, locals := 0 }
abbrev y_3 : MethodName := ⟨cn_6, "checkIndex", cn_11⟩
theorem pn_1 : plainName cn_6 = true := by first | (simp [plainName, overriddenIn]; done) | decide +kernel
theorem ef_ci (m : MethodId) (p0 : Int32) (p1 : Int32) (w_SIOOBE_FORMATTER : Value) (hw_SIOOBE_FORMATTER : w_SIOOBE_FORMATTER.isRef = true) : entryFrame m #[(.int p0), (.int p1), w_SIOOBE_FORMATTER] 3 = mkF m 0 #[.val (.int p0), .val (.int p1), .val w_SIOOBE_FORMATTER] [] := by
  rcases ref_cases hw_SIOOBE_FORMATTER with rfl | ⟨_, rfl⟩ <;> first | (simp [entryFrame, mkF, argsToLocals, Value.category]; done) | rfl
def f_ci (w__VALUES : Addr) (w_CAP : Addr) (w_RATE : Addr) (w_BUDGET : Addr) (w_COMPACT_STRINGS : Int32) (w_SIOOBE_FORMATTER : Value) (w_tCAP : Addr) (w_vCAP : Addr) (w_tRATE : Addr) (w_vRATE : Addr) (w_tBUDGET : Addr) (w_vBUDGET : Addr) (p0 : Int32) (p1 : Int32) : Int32 := p0
def Q_ci (Z : State) (w__VALUES : Addr) (w_CAP : Addr) (w_RATE : Addr) (w_BUDGET : Addr) (w_COMPACT_STRINGS : Int32) (w_SIOOBE_FORMATTER : Value) (w_tCAP : Addr) (w_vCAP : Addr) (w_tRATE : Addr) (w_vRATE : Addr) (w_tBUDGET : Addr) (w_vBUDGET : Addr) (p0 : Int32) (p1 : Int32) (h0 : Heap) (n0 : Nat) (v : Option Value) (h : Heap) (L : List Loc) : Prop := v = some (.int (f_ci w__VALUES w_CAP w_RATE w_BUDGET w_COMPACT_STRINGS w_SIOOBE_FORMATTER w_tCAP w_vCAP w_tRATE w_vRATE w_tBUDGET w_vBUDGET p0 p1)) ∧ Fr n0 L ∧ h = h0
set_option maxRecDepth 65536 in
set_option maxHeartbeats 40000000 in
theorem rm_ci (l : Launch) (Z : State) (a0 : Array Value) (hw : ∀ d ∈ tables_1, d.before a0 Z = true) (ws : List Jvm.Cond) (w__VALUES : Addr) (w_CAP : Addr) (w_RATE : Addr) (w_BUDGET : Addr) (w_COMPACT_STRINGS : Int32) (w_SIOOBE_FORMATTER : Value) (w_tCAP : Addr) (w_vCAP : Addr) (w_tRATE : Addr) (w_vRATE : Addr) (w_tBUDGET : Addr) (w_vBUDGET : Addr) (p0 : Int32) (p1 : Int32) (h0 : Heap) (n0 : Nat) (Z0 : n0 ≤ h0.size) (ST : own_St Z w__VALUES w_CAP w_RATE w_BUDGET w_COMPACT_STRINGS w_SIOOBE_FORMATTER w_tCAP w_vCAP w_tRATE w_vRATE w_tBUDGET w_vBUDGET) (O0 : Old Z n0 h0) (h1 : ¬ (p0 < (0 : Int32))) (h2 : p0 < p1) :
    MetFree l y_3 (head1 (Jvm.Cond.code y_3 jdk_41_method_11_code 3 (some .int) :: ws) rr_ci) (fun a U => a = #[(.int p0), (.int p1), w_SIOOBE_FORMATTER] ∧ Z.Warmed39 U.vm ∧ U.heap = h0) (fun _ _ _ _ _ => True) (fun _ U o U' => ∃ v L, o = .returned v ∧ Q_ci Z w__VALUES w_CAP w_RATE w_BUDGET w_COMPACT_STRINGS w_SIOOBE_FORMATTER w_tCAP w_vCAP w_tRATE w_vRATE w_tBUDGET w_vBUDGET p0 p1 h0 n0 v U'.heap L ∧ FrameEnd U o U' L rr_ci.cells rr_ci.slots) := by
  refine MetFree.of_bodySF (plainFor_of_name pn_1) hisR ?_
  intro p e s m args below meth c s₁ Bd hml0 hP hK
  obtain ⟨rfl, hZ, hh⟩ := hP
  have hx := Bd.exec
  have hby := Bd.bytes
  have hml : c.maxLocals = 3 := hml0
  have hown : s.vm.findClass cn_6 = some m.cls := findClass_of_methodNamed Bd.named
  have hnm := (name_of_methodNamed Bd.named Bd.method).1
  have X0 : Stand p l e rr_ci s m #[(.int p0), (.int p1), w_SIOOBE_FORMATTER] below meth c s₁ [] 0 0 := Stand.of_body Bd
  have e0 : s₁.heap = h0 := by rw [← hh, Bd.state]; rfl
  have N0 := Fr.nil n0
  obtain ⟨G, step, ret, fin⟩ := own_open (p := p) (l := l) (e := e) (R := rr_ci) (s := s) (m := m) (args := #[(.int p0), (.int p1), w_SIOOBE_FORMATTER]) (below := below) (meth := meth) (c := c) (rr_ci.cells) (rr_ci.slots) (Q_ci Z w__VALUES w_CAP w_RATE w_BUDGET w_COMPACT_STRINGS w_SIOOBE_FORMATTER w_tCAP w_vCAP w_tRATE w_vRATE w_tBUDGET w_vBUDGET p0 p1 h0 n0) Bd.notSynchronized
  refine fin (g := entryFrame m #[(.int p0), (.int p1), w_SIOOBE_FORMATTER] 3) ?_
  rw [ef_ci m p0 p1 w_SIOOBE_FORMATTER ST.k10]
  show G s₁ (mkF m 0 #[.val (.int p0), .val (.int p1), .val w_SIOOBE_FORMATTER] [])
  refine step (fun t k => XS.iloadN X0.here hx rfl (hb hby d3_0) rfl k) ?_
  show G s₁ (mkF m 1 #[.val (.int p0), .val (.int p1), .val w_SIOOBE_FORMATTER] [(.int p0)])
  refine step (fun t k => XS.ifNo X0.here hx rfl (hb hby d3_1) rfl ((if0 _ _).trans (flt h1).1) k) ?_
  show G s₁ (mkF m 4 #[.val (.int p0), .val (.int p1), .val w_SIOOBE_FORMATTER] [])
  refine step (fun t k => XS.iloadN X0.here hx rfl (hb hby d3_4) rfl k) ?_
  show G s₁ (mkF m 5 #[.val (.int p0), .val (.int p1), .val w_SIOOBE_FORMATTER] [(.int p0)])
  refine step (fun t k => XS.iloadN X0.here hx rfl (hb hby d3_5) rfl k) ?_
  show G s₁ (mkF m 6 #[.val (.int p0), .val (.int p1), .val w_SIOOBE_FORMATTER] [(.int p1), (.int p0)])
  refine step (fun t k => XS.icmpYes X0.here hx rfl (pc0 := 6) (pc' := 16) rfl (hb hby d3_6) rfl (tlt h2).1 (by decide) (by decide) k) ?_
  show G s₁ (mkF m 16 #[.val (.int p0), .val (.int p1), .val w_SIOOBE_FORMATTER] [])
  refine step (fun t k => XS.iloadN X0.here hx rfl (hb hby d3_16) rfl k) ?_
  show G s₁ (mkF m 17 #[.val (.int p0), .val (.int p1), .val w_SIOOBE_FORMATTER] [(.int p0)])
  exact ret (v := some (.int p0)) X0 (fun h => by rw [Bd.returns] at h; cases h) (fun fs hr => retI X0 hx Bd.returns (hb hby d3_17) hr) e0 ⟨rfl, N0, rfl⟩ (by decide) (by decide)
theorem d4_0 : decode jdk_42_method_155_code 0 = .ok (.iload_n 0, 1) := by decide +kernel
theorem d4_1 : decode jdk_42_method_155_code 1 = .ok (.iload_n 1, 1) := by decide +kernel
theorem d4_2 : decode jdk_42_method_155_code 2 = .ok (.getstatic 1053, 3) := by decide +kernel
theorem ww99 {Z : State} {a0 : Array Value} (hw : ∀ d ∈ tables_1, d.before a0 Z = true) : Jvm.Cond.before (Jvm.Cond.fieldLink cn_2 (1053 : Nat) cn_6 "SIOOBE_FORMATTER" "Ljava/util/function/BiFunction;") a0 Z = true := hw _ (List.mem_of_getElem? (i := 99) rfl)
theorem d4_5 : decode jdk_42_method_155_code 5 = .ok (.invokestatic 1059, 3) := by decide +kernel
theorem ww101 {Z : State} {a0 : Array Value} (hw : ∀ d ∈ tables_1, d.before a0 Z = true) : Jvm.Cond.before (Jvm.Cond.methodLink cn_2 (1059 : Nat) ({ cls := cn_6, name := "checkIndex", desc := cn_11 } : Jvm.MethodName)) a0 Z = true := hw _ (List.mem_of_getElem? (i := 101) rfl)
theorem ww103 {Z : State} {a0 : Array Value} (hw : ∀ d ∈ tables_1, d.before a0 Z = true) : Jvm.Cond.before (Jvm.Cond.code ({ cls := cn_6, name := "checkIndex", desc := cn_11 } : Jvm.MethodName) jdk_41_method_11_code (3 : Nat) (Option.some Jvm.ClassFile.FieldType.int)) a0 Z = true := hw _ (List.mem_of_getElem? (i := 103) rfl)
theorem ww100 {Z : State} {a0 : Array Value} (hw : ∀ d ∈ tables_1, d.before a0 Z = true) : Jvm.Cond.before (Jvm.Cond.initialized cn_6) a0 Z = true := hw _ (List.mem_of_getElem? (i := 100) rfl)
theorem pd_1 : parseMethodDescriptor cn_11 = some ⟨[.int, .int, (.object "java/util/function/BiFunction")], some .int⟩ := by decide +kernel
theorem ww102 {Z : State} {a0 : Array Value} (hw : ∀ d ∈ tables_1, d.before a0 Z = true) : Jvm.Cond.before (Jvm.Cond.static ({ cls := cn_6, name := "checkIndex", desc := cn_11 } : Jvm.MethodName)) a0 Z = true := hw _ (List.mem_of_getElem? (i := 102) rfl)
theorem d4_8 : decode jdk_42_method_155_code 8 = .ok (.pop, 1) := by decide +kernel
theorem d4_9 : decode jdk_42_method_155_code 9 = .ok (.return_, 1) := by decide +kernel
abbrev rr_cs : Room := { frames := 1, cells := 0, slots := 0, locals := 14 }
abbrev y_4 : MethodName := ⟨cn_2, "checkIndex", "(II)V"⟩
theorem ef_cs (m : MethodId) (p0 : Int32) (p1 : Int32) : entryFrame m #[(.int p0), (.int p1)] 2 = mkF m 0 #[.val (.int p0), .val (.int p1)] [] := by first | (simp [entryFrame, mkF, argsToLocals, Value.category]; done) | rfl
def Q_cs (Z : State) (w__VALUES : Addr) (w_CAP : Addr) (w_RATE : Addr) (w_BUDGET : Addr) (w_COMPACT_STRINGS : Int32) (w_SIOOBE_FORMATTER : Value) (w_tCAP : Addr) (w_vCAP : Addr) (w_tRATE : Addr) (w_vRATE : Addr) (w_tBUDGET : Addr) (w_vBUDGET : Addr) (p0 : Int32) (p1 : Int32) (h0 : Heap) (n0 : Nat) (v : Option Value) (h : Heap) (L : List Loc) : Prop := v = none ∧ Fr n0 L ∧ h = h0
set_option maxRecDepth 65536 in
set_option maxHeartbeats 40000000 in
theorem rm_cs (l : Launch) (Z : State) (a0 : Array Value) (hw : ∀ d ∈ tables_1, d.before a0 Z = true) (ws : List Jvm.Cond) (w__VALUES : Addr) (w_CAP : Addr) (w_RATE : Addr) (w_BUDGET : Addr) (w_COMPACT_STRINGS : Int32) (w_SIOOBE_FORMATTER : Value) (w_tCAP : Addr) (w_vCAP : Addr) (w_tRATE : Addr) (w_vRATE : Addr) (w_tBUDGET : Addr) (w_vBUDGET : Addr) (p0 : Int32) (p1 : Int32) (h0 : Heap) (n0 : Nat) (Z0 : n0 ≤ h0.size) (ST : own_St Z w__VALUES w_CAP w_RATE w_BUDGET w_COMPACT_STRINGS w_SIOOBE_FORMATTER w_tCAP w_vCAP w_tRATE w_vRATE w_tBUDGET w_vBUDGET) (O0 : Old Z n0 h0) (h1 : ¬ (p0 < (0 : Int32))) (h2 : p0 < p1) :
    MetFree l y_4 (head1 (Jvm.Cond.code y_4 jdk_42_method_155_code 2 none :: ws) rr_cs) (fun a U => a = #[(.int p0), (.int p1)] ∧ Z.Warmed39 U.vm ∧ U.heap = h0) (fun _ _ _ _ _ => True) (fun _ U o U' => ∃ v L, o = .returned v ∧ Q_cs Z w__VALUES w_CAP w_RATE w_BUDGET w_COMPACT_STRINGS w_SIOOBE_FORMATTER w_tCAP w_vCAP w_tRATE w_vRATE w_tBUDGET w_vBUDGET p0 p1 h0 n0 v U'.heap L ∧ FrameEnd U o U' L rr_cs.cells rr_cs.slots) := by
  refine MetFree.of_bodySF (plainFor_of_name pn_0) hisR ?_
  intro p e s m args below meth c s₁ Bd hml0 hP hK
  obtain ⟨rfl, hZ, hh⟩ := hP
  have hx := Bd.exec
  have hby := Bd.bytes
  have hml : c.maxLocals = 2 := hml0
  have hown : s.vm.findClass cn_2 = some m.cls := findClass_of_methodNamed Bd.named
  have hnm := (name_of_methodNamed Bd.named Bd.method).1
  have X0 : Stand p l e rr_cs s m #[(.int p0), (.int p1)] below meth c s₁ [] 0 0 := Stand.of_body Bd
  have e0 : s₁.heap = h0 := by rw [← hh, Bd.state]; rfl
  have N0 := Fr.nil n0
  obtain ⟨G, step, ret, fin⟩ := own_open (p := p) (l := l) (e := e) (R := rr_cs) (s := s) (m := m) (args := #[(.int p0), (.int p1)]) (below := below) (meth := meth) (c := c) (rr_cs.cells) (rr_cs.slots) (Q_cs Z w__VALUES w_CAP w_RATE w_BUDGET w_COMPACT_STRINGS w_SIOOBE_FORMATTER w_tCAP w_vCAP w_tRATE w_vRATE w_tBUDGET w_vBUDGET p0 p1 h0 n0) Bd.notSynchronized
  refine fin (g := entryFrame m #[(.int p0), (.int p1)] 2) ?_
  rw [ef_cs m p0 p1]
  show G s₁ (mkF m 0 #[.val (.int p0), .val (.int p1)] [])
  refine step (fun t k => XS.iloadN X0.here hx rfl (hb hby d4_0) rfl k) ?_
  show G s₁ (mkF m 1 #[.val (.int p0), .val (.int p1)] [(.int p0)])
  refine step (fun t k => XS.iloadN X0.here hx rfl (hb hby d4_1) rfl k) ?_
  show G s₁ (mkF m 2 #[.val (.int p0), .val (.int p1)] [(.int p1), (.int p0)])
  obtain ⟨T1, X1, e1, st1⟩ := getS2 X0 hx hZ hown (host := "") (Or.inl (ww99 hw)) Via.refl e0 (Sta.ext O0.2 ST.k9) (g := (mkF m 2 #[.val (.int p0), .val (.int p1)] [(.int p1), (.int p0)])) rfl (hb hby d4_2)
  refine step st1 ?_
  show G T1 (mkF m 5 #[.val (.int p0), .val (.int p1)] [w_SIOOBE_FORMATTER, (.int p1), (.int p0)])
  have hK2 := (backOf (R := rr_cs) (p := p) (e := e) (below := below) (s := s) (args := #[(.int p0), (.int p1)]) (len := 3) (W := 0) (rm_ci l Z a0 hw [] w__VALUES w_CAP w_RATE w_BUDGET w_COMPACT_STRINGS w_SIOOBE_FORMATTER w_tCAP w_vCAP w_tRATE w_vRATE w_tBUDGET w_vBUDGET p0 p1 h0 n0 (own_old_le O0) ST O0 (h1 : ¬ (p0 < (0 : Int32))) (h2 : p0 < p1)) hZ (ww103 hw) (ww100 hw) (by decide) (by decide))
  obtain ⟨_, _, ⟨T2, L2, k2, n2⟩, -, X2, ⟨Lc2, hQ2, l2, y2, z2⟩, st2⟩ := Jvm.LawKit.callS X1 hx (y := y_3) hown (mvT hZ (ww101 hw)) (mvT hZ (ww102 hw)) (mvT hZ (ww100 hw)) (mvT hZ (ww103 hw)) (by decide) hK2 (g := (mkF m 5 #[.val (.int p0), .val (.int p1)] [w_SIOOBE_FORMATTER, (.int p1), (.int p0)])) rfl (by rw [hml]; rfl) (argsL := [(.int p0), (.int p1), w_SIOOBE_FORMATTER]) (rest := []) (lenOf pd_1 rfl) rfl (by show 2 * 0 + _ ≤ _; exact Nat.le_of_eq rfl) (hb hby d4_5) (fun _ _ => ⟨rfl, e1, (by decide : 0 + 0 ≤ _), (by decide : 0 + 0 ≤ _)⟩)
  dsimp only [Pt.U, Pt.locs, Pt.cells, Pt.slots] at X2 l2 y2 z2 st2 hQ2
  subst l2 y2 z2
  obtain ⟨rfl, N2q, e2⟩ := hQ2
  have N2 := Fr.app N0 N2q
  obtain ⟨lc2, X2, N2⟩ := own_gen X2 N2
  refine step (fun t k => st2 t k) ?_
  show G T2 (mkF m 8 #[.val (.int p0), .val (.int p1)] [(.int (f_ci w__VALUES w_CAP w_RATE w_BUDGET w_COMPACT_STRINGS w_SIOOBE_FORMATTER w_tCAP w_vCAP w_tRATE w_vRATE w_tBUDGET w_vBUDGET p0 p1))])
  have r3 : (f_ci w__VALUES w_CAP w_RATE w_BUDGET w_COMPACT_STRINGS w_SIOOBE_FORMATTER w_tCAP w_vCAP w_tRATE w_vRATE w_tBUDGET w_vBUDGET p0 p1) = p0 := rfl
  rw [r3]
  show G T2 (mkF m 8 #[.val (.int p0), .val (.int p1)] [(.int p0)])
  refine step (fun t k => XS.pop X2.here hx rfl (hb hby d4_8) rfl rfl k) ?_
  show G T2 (mkF m 9 #[.val (.int p0), .val (.int p1)] [])
  exact ret (v := none) X2 (fun _ => rfl) (fun fs hr => X2.returnOut hx Bd.returns (hb hby d4_9) hr) e2 ⟨rfl, N2, rfl⟩ (by decide) (by decide)
theorem d5_0 : decode jdk_43_method_2_code 0 = .ok (.iload_n 1, 1) := by decide +kernel
theorem d5_1 : decode jdk_43_method_2_code 1 = .ok (.aload_n 0, 1) := by decide +kernel
theorem d5_2 : decode jdk_43_method_2_code 2 = .ok (.arraylength, 1) := by decide +kernel
theorem d5_3 : decode jdk_43_method_2_code 3 = .ok (.invokestatic 9, 3) := by decide +kernel
theorem ww96 {Z : State} {a0 : Array Value} (hw : ∀ d ∈ tables_1, d.before a0 Z = true) : Jvm.Cond.before (Jvm.Cond.methodLink cn_12 (9 : Nat) ({ cls := cn_2, name := "checkIndex", desc := "(II)V" } : Jvm.MethodName)) a0 Z = true := hw _ (List.mem_of_getElem? (i := 96) rfl)
theorem ww98 {Z : State} {a0 : Array Value} (hw : ∀ d ∈ tables_1, d.before a0 Z = true) : Jvm.Cond.before (Jvm.Cond.code ({ cls := cn_2, name := "checkIndex", desc := "(II)V" } : Jvm.MethodName) jdk_42_method_155_code (2 : Nat) (Option.none : Option Jvm.ClassFile.FieldType)) a0 Z = true := hw _ (List.mem_of_getElem? (i := 98) rfl)
theorem pd_2 : parseMethodDescriptor "(II)V" = some ⟨[.int, .int], none⟩ := by decide +kernel
theorem ww97 {Z : State} {a0 : Array Value} (hw : ∀ d ∈ tables_1, d.before a0 Z = true) : Jvm.Cond.before (Jvm.Cond.static ({ cls := cn_2, name := "checkIndex", desc := "(II)V" } : Jvm.MethodName)) a0 Z = true := hw _ (List.mem_of_getElem? (i := 97) rfl)
theorem d5_6 : decode jdk_43_method_2_code 6 = .ok (.aload_n 0, 1) := by decide +kernel
theorem d5_7 : decode jdk_43_method_2_code 7 = .ok (.iload_n 1, 1) := by decide +kernel
theorem d5_8 : decode jdk_43_method_2_code 8 = .ok (.baload, 1) := by decide +kernel
theorem d5_9 : decode jdk_43_method_2_code 9 = .ok (.sipush 255, 3) := by decide +kernel
theorem d5_12 : decode jdk_43_method_2_code 12 = .ok (.iand, 1) := by decide +kernel
theorem d5_13 : decode jdk_43_method_2_code 13 = .ok (.i2c, 1) := by decide +kernel
theorem d5_14 : decode jdk_43_method_2_code 14 = .ok (.ireturn, 1) := by decide +kernel
abbrev rr_l1 : Room := { frames := 2, cells := 0, slots := 0, locals := 27 }
abbrev y_5 : MethodName := ⟨cn_12, "charAt", "([BI)C"⟩
theorem pn_2 : plainName cn_12 = true := by first | (simp [plainName, overriddenIn]; done) | decide +kernel
theorem ef_l1 (m : MethodId) (o0 : Addr) (p1 : Int32) : entryFrame m #[(.ref o0), (.int p1)] 2 = mkF m 0 #[.val (.ref o0), .val (.int p1)] [] := by first | (simp [entryFrame, mkF, argsToLocals, Value.category]; done) | rfl
def Q_l1 (Z : State) (w__VALUES : Addr) (w_CAP : Addr) (w_RATE : Addr) (w_BUDGET : Addr) (w_COMPACT_STRINGS : Int32) (w_SIOOBE_FORMATTER : Value) (w_tCAP : Addr) (w_vCAP : Addr) (w_tRATE : Addr) (w_vRATE : Addr) (w_tBUDGET : Addr) (w_vBUDGET : Addr) (o0 : Addr) (p1 : Int32) (kk : ClassId) (n : Int32) (vs : List Value) (h0 : Heap) (n0 : Nat) (v : Option Value) (h : Heap) (L : List Loc) : Prop := ∃ c : Int32, v = some (.int c) ∧ Fr n0 L ∧ Keep h0 h [] ∧ ¬ c < 0 ∧ ¬ (255 : Int32) < c
set_option maxRecDepth 65536 in
set_option maxHeartbeats 40000000 in
theorem rm_l1 (l : Launch) (Z : State) (a0 : Array Value) (hw : ∀ d ∈ tables_1, d.before a0 Z = true) (ws : List Jvm.Cond) (w__VALUES : Addr) (w_CAP : Addr) (w_RATE : Addr) (w_BUDGET : Addr) (w_COMPACT_STRINGS : Int32) (w_SIOOBE_FORMATTER : Value) (w_tCAP : Addr) (w_vCAP : Addr) (w_tRATE : Addr) (w_vRATE : Addr) (w_tBUDGET : Addr) (w_vBUDGET : Addr) (o0 : Addr) (p1 : Int32) (kk : ClassId) (n : Int32) (vs : List Value) (h0 : Heap) (n0 : Nat) (Z0 : n0 ≤ h0.size) (ST : own_St Z w__VALUES w_CAP w_RATE w_BUDGET w_COMPACT_STRINGS w_SIOOBE_FORMATTER w_tCAP w_vCAP w_tRATE w_vRATE w_tBUDGET w_vBUDGET) (O0 : Old Z n0 h0) (Va : Arv Z h0 o0 kk .byte n vs (.int 0)) (h1 : ¬ (p1 < (0 : Int32))) (h2 : p1 < n) :
    MetFree l y_5 (head1 (Jvm.Cond.code y_5 jdk_43_method_2_code 2 (some .char) :: ws) rr_l1) (fun a U => a = #[(.ref o0), (.int p1)] ∧ Z.Warmed39 U.vm ∧ U.heap = h0) (fun _ _ _ _ _ => True) (fun _ U o U' => ∃ v L, o = .returned v ∧ Q_l1 Z w__VALUES w_CAP w_RATE w_BUDGET w_COMPACT_STRINGS w_SIOOBE_FORMATTER w_tCAP w_vCAP w_tRATE w_vRATE w_tBUDGET w_vBUDGET o0 p1 kk n vs h0 n0 v U'.heap L ∧ FrameEnd U o U' L rr_l1.cells rr_l1.slots) := by
  refine MetFree.of_bodySF (plainFor_of_name pn_2) hisR ?_
  intro p e s m args below meth c s₁ Bd hml0 hP hK
  obtain ⟨rfl, hZ, hh⟩ := hP
  have hx := Bd.exec
  have hby := Bd.bytes
  have hml : c.maxLocals = 2 := hml0
  have hown : s.vm.findClass cn_12 = some m.cls := findClass_of_methodNamed Bd.named
  have hnm := (name_of_methodNamed Bd.named Bd.method).1
  have X0 : Stand p l e rr_l1 s m #[(.ref o0), (.int p1)] below meth c s₁ [] 0 0 := Stand.of_body Bd
  have e0 : s₁.heap = h0 := by rw [← hh, Bd.state]; rfl
  have N0 := Fr.nil n0
  have K0 : Keep h0 h0 [] := Keep.refl _ _
  obtain ⟨G, step, ret, fin⟩ := own_open (p := p) (l := l) (e := e) (R := rr_l1) (s := s) (m := m) (args := #[(.ref o0), (.int p1)]) (below := below) (meth := meth) (c := c) (rr_l1.cells) (rr_l1.slots) (Q_l1 Z w__VALUES w_CAP w_RATE w_BUDGET w_COMPACT_STRINGS w_SIOOBE_FORMATTER w_tCAP w_vCAP w_tRATE w_vRATE w_tBUDGET w_vBUDGET o0 p1 kk n vs h0 n0) Bd.notSynchronized
  refine fin (g := entryFrame m #[(.ref o0), (.int p1)] 2) ?_
  rw [ef_l1 m o0 p1]
  show G s₁ (mkF m 0 #[.val (.ref o0), .val (.int p1)] [])
  refine step (fun t k => XS.iloadN X0.here hx rfl (hb hby d5_0) rfl k) ?_
  show G s₁ (mkF m 1 #[.val (.ref o0), .val (.int p1)] [(.int p1)])
  refine step (fun t k => XS.aloadN X0.here hx rfl (hb hby d5_1) rfl rfl k) ?_
  show G s₁ (mkF m 2 #[.val (.ref o0), .val (.int p1)] [(.ref o0), (.int p1)])
  have q1 := own_len X0 hx hZ e0 Va (g := (mkF m 2 #[.val (.ref o0), .val (.int p1)] [(.ref o0), (.int p1)])) rfl rfl (hb hby d5_2)
  refine step q1 ?_
  show G s₁ (mkF m 3 #[.val (.ref o0), .val (.int p1)] [(.int n), (.int p1)])
  have hK2 := (backOf (R := rr_l1) (p := p) (e := e) (below := below) (s := s) (args := #[(.ref o0), (.int p1)]) (len := 3) (W := 0) (rm_cs l Z a0 hw [] w__VALUES w_CAP w_RATE w_BUDGET w_COMPACT_STRINGS w_SIOOBE_FORMATTER w_tCAP w_vCAP w_tRATE w_vRATE w_tBUDGET w_vBUDGET p1 n h0 n0 (own_old_le O0) ST O0 (h1 : ¬ (p1 < (0 : Int32))) (h2 : p1 < n)) hZ (ww98 hw) (ww6 hw) (by decide) (by decide))
  obtain ⟨_, _, ⟨T2, L2, k2, n2⟩, -, X2, ⟨Lc2, hQ2, l2, y2, z2⟩, st2⟩ := Jvm.LawKit.callS X0 hx (y := y_4) hown (mvT hZ (ww96 hw)) (mvT hZ (ww97 hw)) (mvT hZ (ww6 hw)) (mvT hZ (ww98 hw)) (by decide) hK2 (g := (mkF m 3 #[.val (.ref o0), .val (.int p1)] [(.int n), (.int p1)])) rfl (by rw [hml]; rfl) (argsL := [(.int p1), (.int n)]) (rest := []) (lenOf pd_2 rfl) rfl (by show 2 * 0 + _ ≤ _; exact Nat.le_of_eq rfl) (hb hby d5_3) (fun _ _ => ⟨rfl, e0, (by decide : 0 + 0 ≤ _), (by decide : 0 + 0 ≤ _)⟩)
  dsimp only [Pt.U, Pt.locs, Pt.cells, Pt.slots] at X2 l2 y2 z2 st2 hQ2
  subst l2 y2 z2
  obtain ⟨rfl, N2q, e2⟩ := hQ2
  have N2 := Fr.app N0 N2q
  obtain ⟨lc2, X2, N2⟩ := own_gen X2 N2
  refine step (fun t k => st2 t k) ?_
  show G T2 (mkF m 6 #[.val (.ref o0), .val (.int p1)] [])
  refine step (fun t k => XS.aloadN X2.here hx rfl (hb hby d5_6) rfl rfl k) ?_
  show G T2 (mkF m 7 #[.val (.ref o0), .val (.int p1)] [(.ref o0)])
  refine step (fun t k => XS.iloadN X2.here hx rfl (hb hby d5_7) rfl k) ?_
  show G T2 (mkF m 8 #[.val (.ref o0), .val (.int p1)] [(.int p1), (.ref o0)])
  obtain ⟨z3, hz3⟩ := own_getB Va ⟨h1, h2⟩
  have q3 := own_ldB X2 hx hZ e2 Va (j := p1) (v := (.int z3)) ⟨h1, h2⟩ hz3 (g := (mkF m 8 #[.val (.ref o0), .val (.int p1)] [(.int p1), (.ref o0)])) rfl rfl (hb hby d5_8)
  refine step q3 ?_
  show G T2 (mkF m 9 #[.val (.ref o0), .val (.int p1)] [(.int z3)])
  refine step (fun t k => XS.sipush X2.here hx rfl (hb hby d5_9) k) ?_
  show G T2 (mkF m 12 #[.val (.ref o0), .val (.int p1)] [(.int 255), (.int z3)])
  refine step (fun t k => XS.iand X2.here hx rfl (hb hby d5_12) rfl k) ?_
  show G T2 (mkF m 13 #[.val (.ref o0), .val (.int p1)] [(.int (z3 &&& (255 : Int32)))])
  refine step (fun t k => XS.i2c X2.here hx rfl (hb hby d5_13) rfl k) ?_
  show G T2 (mkF m 14 #[.val (.ref o0), .val (.int p1)] [(.int ((z3 &&& (255 : Int32)).toUInt32.toUInt16.toUInt32.toInt32))])
  rw [own_i2c (own_and255 z3)]
  show G T2 (mkF m 14 #[.val (.ref o0), .val (.int p1)] [(.int (z3 &&& (255 : Int32)))])
  exact ret (v := some (.int (z3 &&& (255 : Int32)))) X2 (fun h => by rw [Bd.returns] at h; cases h) (fun fs hr => retN X2 hx (t := .char) Bd.returns (by simp) (hb hby d5_14) (by rw [own_narc (own_and255 z3)]; exact hr)) e2 ⟨(z3 &&& (255 : Int32)), rfl, N2, K0, (own_and255 z3)⟩ (by decide) (by decide)
theorem d6_0 : decode jdk_42_method_56_code 0 = .ok (.aload_n 0, 1) := by decide +kernel
theorem d6_1 : decode jdk_42_method_56_code 1 = .ok (.invokevirtual 492, 3) := by decide +kernel
theorem ww88 {Z : State} {a0 : Array Value} (hw : ∀ d ∈ tables_1, d.before a0 Z = true) : Jvm.Cond.before (Jvm.Cond.methodLink cn_2 (492 : Nat) ({ cls := cn_2, name := "isLatin1", desc := "()Z" } : Jvm.MethodName)) a0 Z = true := hw _ (List.mem_of_getElem? (i := 88) rfl)
theorem ww91 {Z : State} {a0 : Array Value} (hw : ∀ d ∈ tables_1, d.before a0 Z = true) : Jvm.Cond.before (Jvm.Cond.selects cn_2 ({ cls := cn_2, name := "isLatin1", desc := "()Z" } : Jvm.MethodName) ({ cls := cn_2, name := "isLatin1", desc := "()Z" } : Jvm.MethodName)) a0 Z = true := hw _ (List.mem_of_getElem? (i := 91) rfl)
theorem ww92 {Z : State} {a0 : Array Value} (hw : ∀ d ∈ tables_1, d.before a0 Z = true) : Jvm.Cond.before (Jvm.Cond.code ({ cls := cn_2, name := "isLatin1", desc := "()Z" } : Jvm.MethodName) jdk_42_method_154_code (1 : Nat) (Option.some Jvm.ClassFile.FieldType.boolean)) a0 Z = true := hw _ (List.mem_of_getElem? (i := 92) rfl)
theorem pd_3 : parseMethodDescriptor "()Z" = some ⟨[], some .boolean⟩ := by decide +kernel
theorem ww89 {Z : State} {a0 : Array Value} (hw : ∀ d ∈ tables_1, d.before a0 Z = true) : Jvm.Cond.before (Jvm.Cond.declares ({ cls := cn_2, name := "isLatin1", desc := "()Z" } : Jvm.MethodName)) a0 Z = true := hw _ (List.mem_of_getElem? (i := 89) rfl)
theorem ww90 {Z : State} {a0 : Array Value} (hw : ∀ d ∈ tables_1, d.before a0 Z = true) : Jvm.Cond.before (Jvm.Cond.instanceMethod ({ cls := cn_2, name := "isLatin1", desc := "()Z" } : Jvm.MethodName)) a0 Z = true := hw _ (List.mem_of_getElem? (i := 90) rfl)
theorem d6_4 : decode jdk_42_method_56_code 4 = .ok (.ifCond .eq 12, 3) := by decide +kernel
theorem d6_7 : decode jdk_42_method_56_code 7 = .ok (.aload_n 0, 1) := by decide +kernel
theorem d6_8 : decode jdk_42_method_56_code 8 = .ok (.getfield 9, 3) := by decide +kernel
theorem d6_11 : decode jdk_42_method_56_code 11 = .ok (.iload_n 1, 1) := by decide +kernel
theorem d6_12 : decode jdk_42_method_56_code 12 = .ok (.invokestatic 495, 3) := by decide +kernel
theorem ww93 {Z : State} {a0 : Array Value} (hw : ∀ d ∈ tables_1, d.before a0 Z = true) : Jvm.Cond.before (Jvm.Cond.methodLink cn_2 (495 : Nat) ({ cls := cn_12, name := "charAt", desc := "([BI)C" } : Jvm.MethodName)) a0 Z = true := hw _ (List.mem_of_getElem? (i := 93) rfl)
theorem ww95 {Z : State} {a0 : Array Value} (hw : ∀ d ∈ tables_1, d.before a0 Z = true) : Jvm.Cond.before (Jvm.Cond.code ({ cls := cn_12, name := "charAt", desc := "([BI)C" } : Jvm.MethodName) jdk_43_method_2_code (2 : Nat) (Option.some Jvm.ClassFile.FieldType.char)) a0 Z = true := hw _ (List.mem_of_getElem? (i := 95) rfl)
theorem ww74 {Z : State} {a0 : Array Value} (hw : ∀ d ∈ tables_1, d.before a0 Z = true) : Jvm.Cond.before (Jvm.Cond.initialized cn_12) a0 Z = true := hw _ (List.mem_of_getElem? (i := 74) rfl)
theorem pd_4 : parseMethodDescriptor "([BI)C" = some ⟨[(.array .byte), .int], some .char⟩ := by decide +kernel
theorem ww94 {Z : State} {a0 : Array Value} (hw : ∀ d ∈ tables_1, d.before a0 Z = true) : Jvm.Cond.before (Jvm.Cond.static ({ cls := cn_12, name := "charAt", desc := "([BI)C" } : Jvm.MethodName)) a0 Z = true := hw _ (List.mem_of_getElem? (i := 94) rfl)
theorem d6_15 : decode jdk_42_method_56_code 15 = .ok (.ireturn, 1) := by decide +kernel
abbrev rr_ch : Room := { frames := 3, cells := 0, slots := 0, locals := 40 }
abbrev y_6 : MethodName := ⟨cn_2, "charAt", "(I)C"⟩
theorem ef_ch (m : MethodId) (o0 : Addr) (p1 : Int32) : entryFrame m #[(.ref o0), (.int p1)] 2 = mkF m 0 #[.val (.ref o0), .val (.int p1)] [] := by first | (simp [entryFrame, mkF, argsToLocals, Value.category]; done) | rfl
def Q_ch (Z : State) (w__VALUES : Addr) (w_CAP : Addr) (w_RATE : Addr) (w_BUDGET : Addr) (w_COMPACT_STRINGS : Int32) (w_SIOOBE_FORMATTER : Value) (w_tCAP : Addr) (w_vCAP : Addr) (w_tRATE : Addr) (w_vRATE : Addr) (w_tBUDGET : Addr) (w_vBUDGET : Addr) (o0 : Addr) (p1 : Int32) (t : Addr) (kk : ClassId) (n : Int32) (vs : List Value) (h0 : Heap) (n0 : Nat) (v : Option Value) (h : Heap) (L : List Loc) : Prop := ∃ c : Int32, v = some (.int c) ∧ Fr n0 L ∧ Keep h0 h [] ∧ ¬ c < 0 ∧ ¬ (255 : Int32) < c
set_option maxRecDepth 65536 in
set_option maxHeartbeats 40000000 in
theorem rm_ch (l : Launch) (Z : State) (a0 : Array Value) (hw : ∀ d ∈ tables_1, d.before a0 Z = true) (ws : List Jvm.Cond) (w__VALUES : Addr) (w_CAP : Addr) (w_RATE : Addr) (w_BUDGET : Addr) (w_COMPACT_STRINGS : Int32) (w_SIOOBE_FORMATTER : Value) (w_tCAP : Addr) (w_vCAP : Addr) (w_tRATE : Addr) (w_vRATE : Addr) (w_tBUDGET : Addr) (w_vBUDGET : Addr) (o0 : Addr) (p1 : Int32) (t : Addr) (kk : ClassId) (n : Int32) (vs : List Value) (h0 : Heap) (n0 : Nat) (Z0 : n0 ≤ h0.size) (ST : own_St Z w__VALUES w_CAP w_RATE w_BUDGET w_COMPACT_STRINGS w_SIOOBE_FORMATTER w_tCAP w_vCAP w_tRATE w_vRATE w_tBUDGET w_vBUDGET) (O0 : Old Z n0 h0) (Es : Exa Z h0 o0 cn_2) (Fv : Fld Z h0 o0 cn_2 "value" "[B" (.ref t)) (Fc : Fld Z h0 o0 cn_2 "coder" "B" (.int 0)) (Va : Arv Z h0 t kk .byte n vs (.int 0)) (h1 : ¬ (p1 < (0 : Int32))) (h2 : p1 < n) :
    MetFree l y_6 (head1 (Jvm.Cond.code y_6 jdk_42_method_56_code 2 (some .char) :: ws) rr_ch) (fun a U => a = #[(.ref o0), (.int p1)] ∧ Z.Warmed39 U.vm ∧ U.heap = h0) (fun _ _ _ _ _ => True) (fun _ U o U' => ∃ v L, o = .returned v ∧ Q_ch Z w__VALUES w_CAP w_RATE w_BUDGET w_COMPACT_STRINGS w_SIOOBE_FORMATTER w_tCAP w_vCAP w_tRATE w_vRATE w_tBUDGET w_vBUDGET o0 p1 t kk n vs h0 n0 v U'.heap L ∧ FrameEnd U o U' L rr_ch.cells rr_ch.slots) := by
  refine MetFree.of_bodySF (plainFor_of_name pn_0) hisR ?_
  intro p e s m args below meth c s₁ Bd hml0 hP hK
  obtain ⟨rfl, hZ, hh⟩ := hP
  have hx := Bd.exec
  have hby := Bd.bytes
  have hml : c.maxLocals = 2 := hml0
  have hown : s.vm.findClass cn_2 = some m.cls := findClass_of_methodNamed Bd.named
  have hnm := (name_of_methodNamed Bd.named Bd.method).1
  have X0 : Stand p l e rr_ch s m #[(.ref o0), (.int p1)] below meth c s₁ [] 0 0 := Stand.of_body Bd
  have e0 : s₁.heap = h0 := by rw [← hh, Bd.state]; rfl
  have N0 := Fr.nil n0
  have K0 : Keep h0 h0 [] := Keep.refl _ _
  obtain ⟨G, step, ret, fin⟩ := own_open (p := p) (l := l) (e := e) (R := rr_ch) (s := s) (m := m) (args := #[(.ref o0), (.int p1)]) (below := below) (meth := meth) (c := c) (rr_ch.cells) (rr_ch.slots) (Q_ch Z w__VALUES w_CAP w_RATE w_BUDGET w_COMPACT_STRINGS w_SIOOBE_FORMATTER w_tCAP w_vCAP w_tRATE w_vRATE w_tBUDGET w_vBUDGET o0 p1 t kk n vs h0 n0) Bd.notSynchronized
  refine fin (g := entryFrame m #[(.ref o0), (.int p1)] 2) ?_
  rw [ef_ch m o0 p1]
  have ne_o0_t : o0 ≠ t := own_ne_arv Es (ww7 hw) Va
  show G s₁ (mkF m 0 #[.val (.ref o0), .val (.int p1)] [])
  refine step (fun t k => XS.aloadN X0.here hx rfl (hb hby d6_0) rfl rfl k) ?_
  show G s₁ (mkF m 1 #[.val (.ref o0), .val (.int p1)] [(.ref o0)])
  have hK1 := (backOf (R := rr_ch) (p := p) (e := e) (below := below) (s := s) (args := #[(.ref o0), (.int p1)]) (len := 3) (W := 0) (rm_la l Z a0 hw [] w__VALUES w_CAP w_RATE w_BUDGET w_COMPACT_STRINGS w_SIOOBE_FORMATTER w_tCAP w_vCAP w_tRATE w_vRATE w_tBUDGET w_vBUDGET o0 h0 n0 (own_old_le O0) ST O0 Fc) hZ (ww92 hw) (ww6 hw) (by decide) (by decide))
  obtain ⟨cq1, kq1, q1a, q1b, q1c⟩ := isOf hZ e0 Es
  obtain ⟨_, _, ⟨T1, L1, k1, n1⟩, -, X1, ⟨Lc1, hQ1, l1, y1, z1⟩, st1⟩ := X0.virtualBack hx (y := y_1) (z := y_1) hown (mvT hZ (ww88 hw)) (mvT hZ (ww89 hw)) (notFace_of_selects (args := #[]) (mvT hZ (ww91 hw))) (mvT hZ (ww91 hw)) (mvT hZ (ww90 hw)) (by decide) hK1 q1a q1c (g := (mkF m 1 #[.val (.ref o0), .val (.int p1)] [(.ref o0)])) rfl (by rw [hml]; rfl) (Steps.refl _) (argsL := []) (rest := []) (lenOf pd_3 rfl) rfl (by show 2 * 0 + _ ≤ _; exact Nat.le_of_eq rfl) (hb hby d6_1) (fun _ _ => ⟨rfl, e0, (by decide : 0 + 0 ≤ _), (by decide : 0 + 0 ≤ _)⟩)
  dsimp only [Pt.U, Pt.locs, Pt.cells, Pt.slots] at X1 l1 y1 z1 st1 hQ1
  subst l1 y1 z1
  obtain ⟨rfl, N1q, e1⟩ := hQ1
  have N1 := Fr.app N0 N1q
  obtain ⟨lc1, X1, N1⟩ := own_gen X1 N1
  refine step (fun t k => st1.trans k) ?_
  show G T1 (mkF m 4 #[.val (.ref o0), .val (.int p1)] [(.int (f_la w__VALUES w_CAP w_RATE w_BUDGET w_COMPACT_STRINGS w_SIOOBE_FORMATTER w_tCAP w_vCAP w_tRATE w_vRATE w_tBUDGET w_vBUDGET o0))])
  have r2 : (f_la w__VALUES w_CAP w_RATE w_BUDGET w_COMPACT_STRINGS w_SIOOBE_FORMATTER w_tCAP w_vCAP w_tRATE w_vRATE w_tBUDGET w_vBUDGET o0) = (1 : Int32) := rfl
  rw [r2]
  show G T1 (mkF m 4 #[.val (.ref o0), .val (.int p1)] [(.int 1)])
  refine step (fun t k => XS.ifNo X1.here hx rfl (hb hby d6_4) rfl ((if0 _ _).trans (feq (by decide : ¬ ((1 : Int32) = (0 : Int32)))).1) k) ?_
  show G T1 (mkF m 7 #[.val (.ref o0), .val (.int p1)] [])
  refine step (fun t k => XS.aloadN X1.here hx rfl (hb hby d6_7) rfl rfl k) ?_
  show G T1 (mkF m 8 #[.val (.ref o0), .val (.int p1)] [(.ref o0)])
  obtain ⟨T3, X3, e3, st3⟩ := getF X1 hx hZ hown (host := "") (Or.inl (ww18 hw)) Via.refl e1 Fv (g := (mkF m 8 #[.val (.ref o0), .val (.int p1)] [(.ref o0)])) rfl rfl (hb hby d6_8)
  refine step st3 ?_
  show G T3 (mkF m 11 #[.val (.ref o0), .val (.int p1)] [(.ref t)])
  refine step (fun t k => XS.iloadN X3.here hx rfl (hb hby d6_11) rfl k) ?_
  show G T3 (mkF m 12 #[.val (.ref o0), .val (.int p1)] [(.int p1), (.ref t)])
  have hK4 := (backOf (R := rr_ch) (p := p) (e := e) (below := below) (s := s) (args := #[(.ref o0), (.int p1)]) (len := 3) (W := 0) (rm_l1 l Z a0 hw [] w__VALUES w_CAP w_RATE w_BUDGET w_COMPACT_STRINGS w_SIOOBE_FORMATTER w_tCAP w_vCAP w_tRATE w_vRATE w_tBUDGET w_vBUDGET t p1 kk n vs h0 n0 (own_old_le O0) ST O0 Va (h1 : ¬ (p1 < (0 : Int32))) (h2 : p1 < n)) hZ (ww95 hw) (ww74 hw) (by decide) (by decide))
  obtain ⟨_, _, ⟨T4, L4, k4, n4⟩, -, X4, ⟨Lc4, hQ4, l4, y4, z4⟩, st4⟩ := Jvm.LawKit.callS X3 hx (y := y_5) hown (mvT hZ (ww93 hw)) (mvT hZ (ww94 hw)) (mvT hZ (ww74 hw)) (mvT hZ (ww95 hw)) (by decide) hK4 (g := (mkF m 12 #[.val (.ref o0), .val (.int p1)] [(.int p1), (.ref t)])) rfl (by rw [hml]; rfl) (argsL := [(.ref t), (.int p1)]) (rest := []) (lenOf pd_4 rfl) rfl (by show 2 * 0 + _ ≤ _; exact Nat.le_of_eq rfl) (hb hby d6_12) (fun _ _ => ⟨rfl, e3, (by decide : 0 + 0 ≤ _), (by decide : 0 + 0 ≤ _)⟩)
  dsimp only [Pt.U, Pt.locs, Pt.cells, Pt.slots] at X4 l4 y4 z4 st4 hQ4
  subst l4 y4 z4
  obtain ⟨c_4, rfl, N4q, K4q, Y4_0⟩ := hQ4
  have N4 := Fr.app N1 N4q
  obtain ⟨lc4, X4, N4⟩ := own_gen X4 N4
  have O4 := O0.keep K4q all0
  have K4 : Keep h0 T4.heap [] := K0.trans K4q all0
  refine step (fun t k => st4 t k) ?_
  show G T4 (mkF m 15 #[.val (.ref o0), .val (.int p1)] [(.int c_4)])
  exact ret (v := some (.int c_4)) X4 (fun h => by rw [Bd.returns] at h; cases h) (fun fs hr => retN X4 hx (t := .char) Bd.returns (by simp) (hb hby d6_15) (by rw [own_narc Y4_0]; exact hr)) rfl ⟨c_4, rfl, N4, K4, Y4_0⟩ (by decide) (by decide)
theorem d7_0 : decode jdk_29_method_65_code 0 = .ok (.iload_n 0, 1) := by decide +kernel
theorem d7_1 : decode jdk_29_method_65_code 1 = .ok (.iload_n 1, 1) := by decide +kernel
theorem d7_2 : decode jdk_29_method_65_code 2 = .ok (.if_icmp .lt 7, 3) := by decide +kernel
theorem d7_9 : decode jdk_29_method_65_code 9 = .ok (.iload_n 1, 1) := by decide +kernel
theorem d7_10 : decode jdk_29_method_65_code 10 = .ok (.ireturn, 1) := by decide +kernel
theorem d7_5 : decode jdk_29_method_65_code 5 = .ok (.iload_n 0, 1) := by decide +kernel
theorem d7_6 : decode jdk_29_method_65_code 6 = .ok (.goto 4, 3) := by decide +kernel
abbrev rr_max : Room := { frames := 0, cells := 0, slots := 0, locals := 0 }
abbrev y_7 : MethodName := ⟨cn_17, "max", "(II)I"⟩
theorem ef_max (m : MethodId) (p0 : Int32) (p1 : Int32) : entryFrame m #[(.int p0), (.int p1)] 2 = mkF m 0 #[.val (.int p0), .val (.int p1)] [] := by first | (simp [entryFrame, mkF, argsToLocals, Value.category]; done) | rfl
def f_max  (p0 : Int32) (p1 : Int32) : Int32 := (if p0 < p1 then p1 else p0)
def Q_max (Z : State)  (p0 : Int32) (p1 : Int32) (h0 : Heap) (n0 : Nat) (v : Option Value) (h : Heap) (L : List Loc) : Prop := v = some (.int (f_max p0 p1)) ∧ Fr n0 L ∧ h = h0
set_option maxRecDepth 65536 in
set_option maxHeartbeats 40000000 in
theorem rm_max (l : Launch) (Z : State) (a0 : Array Value) (hw : ∀ d ∈ tables_1, d.before a0 Z = true) (ws : List Jvm.Cond)  (p0 : Int32) (p1 : Int32) (h0 : Heap) (n0 : Nat) (Z0 : n0 ≤ h0.size) (O0 : Old Z n0 h0) :
    MetFree l y_7 (head1 (Jvm.Cond.code y_7 jdk_29_method_65_code 2 (some .int) :: ws) rr_max) (fun a U => a = #[(.int p0), (.int p1)] ∧ Z.Warmed39 U.vm ∧ U.heap = h0) (fun _ _ _ _ _ => True) (fun _ U o U' => ∃ v L, o = .returned v ∧ Q_max Z p0 p1 h0 n0 v U'.heap L ∧ FrameEnd U o U' L rr_max.cells rr_max.slots) := by
  refine MetFree.of_bodySF (Jvm.Free.JP.mathPlain rfl (by decide +kernel)) hisR ?_
  intro p e s m args below meth c s₁ Bd hml0 hP hK
  obtain ⟨rfl, hZ, hh⟩ := hP
  have hx := Bd.exec
  have hby := Bd.bytes
  have hml : c.maxLocals = 2 := hml0
  have hown : s.vm.findClass cn_17 = some m.cls := findClass_of_methodNamed Bd.named
  have hnm := (name_of_methodNamed Bd.named Bd.method).1
  have X0 : Stand p l e rr_max s m #[(.int p0), (.int p1)] below meth c s₁ [] 0 0 := Stand.of_body Bd
  have e0 : s₁.heap = h0 := by rw [← hh, Bd.state]; rfl
  have N0 := Fr.nil n0
  obtain ⟨G, step, ret, fin⟩ := own_open (p := p) (l := l) (e := e) (R := rr_max) (s := s) (m := m) (args := #[(.int p0), (.int p1)]) (below := below) (meth := meth) (c := c) (rr_max.cells) (rr_max.slots) (Q_max Z p0 p1 h0 n0) Bd.notSynchronized
  refine fin (g := entryFrame m #[(.int p0), (.int p1)] 2) ?_
  rw [ef_max m p0 p1]
  show G s₁ (mkF m 0 #[.val (.int p0), .val (.int p1)] [])
  refine step (fun t k => XS.iloadN X0.here hx rfl (hb hby d7_0) rfl k) ?_
  show G s₁ (mkF m 1 #[.val (.int p0), .val (.int p1)] [(.int p0)])
  refine step (fun t k => XS.iloadN X0.here hx rfl (hb hby d7_1) rfl k) ?_
  show G s₁ (mkF m 2 #[.val (.int p0), .val (.int p1)] [(.int p1), (.int p0)])
  by_cases hc1 : p0 < p1
  · skip
    refine step (fun t k => XS.icmpYes X0.here hx rfl (pc0 := 2) (pc' := 9) rfl (hb hby d7_2) rfl (tlt hc1).1 (by decide) (by decide) k) ?_
    show G s₁ (mkF m 9 #[.val (.int p0), .val (.int p1)] [])
    refine step (fun t k => XS.iloadN X0.here hx rfl (hb hby d7_9) rfl k) ?_
    show G s₁ (mkF m 10 #[.val (.int p0), .val (.int p1)] [(.int p1)])
    exact ret (v := some (.int p1)) X0 (fun h => by rw [Bd.returns] at h; cases h) (fun fs hr => retI X0 hx Bd.returns (hb hby d7_10) hr) e0 ⟨by unfold f_max; rw [if_pos hc1], N0, rfl⟩ (by decide) (by decide)
  · skip
    refine step (fun t k => XS.icmpNo X0.here hx rfl (hb hby d7_2) rfl (flt hc1).1 k) ?_
    show G s₁ (mkF m 5 #[.val (.int p0), .val (.int p1)] [])
    refine step (fun t k => XS.iloadN X0.here hx rfl (hb hby d7_5) rfl k) ?_
    show G s₁ (mkF m 6 #[.val (.int p0), .val (.int p1)] [(.int p0)])
    refine step (fun t k => XS.goto X0.here hx rfl (pc0 := 6) (pc' := 10) rfl (hb hby d7_6) (by decide) (by decide) k) ?_
    show G s₁ (mkF m 10 #[.val (.int p0), .val (.int p1)] [(.int p0)])
    exact ret (v := some (.int p0)) X0 (fun h => by rw [Bd.returns] at h; cases h) (fun fs hr => retI X0 hx Bd.returns (hb hby d7_10) hr) e0 ⟨by unfold f_max; rw [if_neg hc1], N0, rfl⟩ (by decide) (by decide)
theorem own_n7b {n : Int32} (h : own_bl n) : own_n7 (f_max (0 : Int32) (n - (1 : Int32))) := by
  rw [own_bli] at h
  rw [own_n7i]
  have c1 := c_isub n (1 : Int32)
  have q1 : (1 : Int32).toInt = 1 := by decide
  have q0 : (0 : Int32).toInt = 0 := by decide
  have r1 := rng32 (n - (1 : Int32))
  unfold f_max
  split
  · rename_i g
    rw [own_xlt] at g
    omega
  · rename_i g
    rw [own_xlt] at g
    omega
theorem d8_0 : decode method_3_code 0 = .ok (.iload_n 1, 1) := by decide +kernel
theorem d8_1 : decode method_3_code 1 = .ok (.aload_n 0, 1) := by decide +kernel
theorem d8_2 : decode method_3_code 2 = .ok (.arraylength, 1) := by decide +kernel
theorem d8_3 : decode method_3_code 3 = .ok (.if_icmp .ge 21, 3) := by decide +kernel
theorem d8_6 : decode method_3_code 6 = .ok (.aload_n 0, 1) := by decide +kernel
theorem d8_7 : decode method_3_code 7 = .ok (.iload_n 1, 1) := by decide +kernel
theorem d8_8 : decode method_3_code 8 = .ok (.iload_n 1, 1) := by decide +kernel
theorem d8_9 : decode method_3_code 9 = .ok (.iload_n 3, 1) := by decide +kernel
theorem d8_10 : decode method_3_code 10 = .ok (.if_icmp .ge 11, 3) := by decide +kernel
theorem d8_13 : decode method_3_code 13 = .ok (.aload_n 2, 1) := by decide +kernel
theorem d8_14 : decode method_3_code 14 = .ok (.iload_n 1, 1) := by decide +kernel
theorem d8_15 : decode method_3_code 15 = .ok (.invokevirtual 15, 3) := by decide +kernel
theorem ww83 {Z : State} {a0 : Array Value} (hw : ∀ d ∈ tables_1, d.before a0 Z = true) : Jvm.Cond.before (Jvm.Cond.methodLink cn_1 (15 : Nat) ({ cls := cn_2, name := "charAt", desc := "(I)C" } : Jvm.MethodName)) a0 Z = true := hw _ (List.mem_of_getElem? (i := 83) rfl)
theorem ww86 {Z : State} {a0 : Array Value} (hw : ∀ d ∈ tables_1, d.before a0 Z = true) : Jvm.Cond.before (Jvm.Cond.selects cn_2 ({ cls := cn_2, name := "charAt", desc := "(I)C" } : Jvm.MethodName) ({ cls := cn_2, name := "charAt", desc := "(I)C" } : Jvm.MethodName)) a0 Z = true := hw _ (List.mem_of_getElem? (i := 86) rfl)
theorem ww87 {Z : State} {a0 : Array Value} (hw : ∀ d ∈ tables_1, d.before a0 Z = true) : Jvm.Cond.before (Jvm.Cond.code ({ cls := cn_2, name := "charAt", desc := "(I)C" } : Jvm.MethodName) jdk_42_method_56_code (2 : Nat) (Option.some Jvm.ClassFile.FieldType.char)) a0 Z = true := hw _ (List.mem_of_getElem? (i := 87) rfl)
theorem pd_5 : parseMethodDescriptor "(I)C" = some ⟨[.int], some .char⟩ := by decide +kernel
theorem ww84 {Z : State} {a0 : Array Value} (hw : ∀ d ∈ tables_1, d.before a0 Z = true) : Jvm.Cond.before (Jvm.Cond.declares ({ cls := cn_2, name := "charAt", desc := "(I)C" } : Jvm.MethodName)) a0 Z = true := hw _ (List.mem_of_getElem? (i := 84) rfl)
theorem ww85 {Z : State} {a0 : Array Value} (hw : ∀ d ∈ tables_1, d.before a0 Z = true) : Jvm.Cond.before (Jvm.Cond.instanceMethod ({ cls := cn_2, name := "charAt", desc := "(I)C" } : Jvm.MethodName)) a0 Z = true := hw _ (List.mem_of_getElem? (i := 85) rfl)
theorem d8_18 : decode method_3_code 18 = .ok (.goto 5, 3) := by decide +kernel
theorem d8_23 : decode method_3_code 23 = .ok (.castore, 1) := by decide +kernel
theorem d8_24 : decode method_3_code 24 = .ok (.return_, 1) := by decide +kernel
theorem d8_21 : decode method_3_code 21 = .ok (.iload 4, 2) := by decide +kernel
abbrev rr_put : Room := { frames := 4, cells := 0, slots := 0, locals := 55 }
abbrev y_8 : MethodName := ⟨cn_1, "put", cn_13⟩
theorem pn_3 : plainName cn_1 = true := by first | (simp [plainName, overriddenIn]; done) | decide +kernel
theorem ef_put (m : MethodId) (o0 : Addr) (p1 : Int32) (o2 : Addr) (n : Int32) (p4 : Int32) : entryFrame m #[(.ref o0), (.int p1), (.ref o2), (.int n), (.int p4)] 5 = mkF m 0 #[.val (.ref o0), .val (.int p1), .val (.ref o2), .val (.int n), .val (.int p4)] [] := by first | (simp [entryFrame, mkF, argsToLocals, Value.category]; done) | rfl
def Q_put (Z : State) (w__VALUES : Addr) (w_CAP : Addr) (w_RATE : Addr) (w_BUDGET : Addr) (w_COMPACT_STRINGS : Int32) (w_SIOOBE_FORMATTER : Value) (w_tCAP : Addr) (w_vCAP : Addr) (w_tRATE : Addr) (w_vRATE : Addr) (w_tBUDGET : Addr) (w_vBUDGET : Addr) (o0 : Addr) (p1 : Int32) (o2 : Addr) (n : Int32) (p4 : Int32) (t : Addr) (kk : ClassId) (vs : List Value) (m9 : Int32) (kc : ClassId) (cs : List Int32) (h0 : Heap) (n0 : Nat) (v : Option Value) (h : Heap) (L : List Loc) : Prop := ∃ cr : List Int32, v = none ∧ Fr n0 L ∧ Keep h0 h [o0] ∧ Arv Z h o0 kc .char m9 (cr.map Value.int) (.int 0) ∧ own_ca m9 cr
set_option maxRecDepth 65536 in
set_option maxHeartbeats 40000000 in
theorem rm_put (l : Launch) (Z : State) (a0 : Array Value) (hw : ∀ d ∈ tables_1, d.before a0 Z = true) (ws : List Jvm.Cond) (w__VALUES : Addr) (w_CAP : Addr) (w_RATE : Addr) (w_BUDGET : Addr) (w_COMPACT_STRINGS : Int32) (w_SIOOBE_FORMATTER : Value) (w_tCAP : Addr) (w_vCAP : Addr) (w_tRATE : Addr) (w_vRATE : Addr) (w_tBUDGET : Addr) (w_vBUDGET : Addr) (o0 : Addr) (p1 : Int32) (o2 : Addr) (n : Int32) (p4 : Int32) (t : Addr) (kk : ClassId) (vs : List Value) (m9 : Int32) (kc : ClassId) (cs : List Int32) (h0 : Heap) (n0 : Nat) (Z0 : n0 ≤ h0.size) (ST : own_St Z w__VALUES w_CAP w_RATE w_BUDGET w_COMPACT_STRINGS w_SIOOBE_FORMATTER w_tCAP w_vCAP w_tRATE w_vRATE w_tBUDGET w_vBUDGET) (O0 : Old Z n0 h0) (Es : Exa Z h0 o2 cn_2) (Fv : Fld Z h0 o2 cn_2 "value" "[B" (.ref t)) (Fc : Fld Z h0 o2 cn_2 "coder" "B" (.int 0)) (Va : Arv Z h0 t kk .byte n vs (.int 0)) (Vc : Arv Z h0 o0 kc .char m9 (cs.map Value.int) (.int 0)) (geo : n0 ≤ o0) (hca : own_ca m9 cs) (h1 : ¬ (p1 < (0 : Int32))) (hlat : ¬ p4 < 0 ∧ ¬ (255 : Int32) < p4) :
    MetFree l y_8 (head1 (Jvm.Cond.code y_8 method_3_code 5 none :: ws) rr_put) (fun a U => a = #[(.ref o0), (.int p1), (.ref o2), (.int n), (.int p4)] ∧ Z.Warmed39 U.vm ∧ U.heap = h0) (fun _ _ _ _ _ => True) (fun _ U o U' => ∃ v L, o = .returned v ∧ Q_put Z w__VALUES w_CAP w_RATE w_BUDGET w_COMPACT_STRINGS w_SIOOBE_FORMATTER w_tCAP w_vCAP w_tRATE w_vRATE w_tBUDGET w_vBUDGET o0 p1 o2 n p4 t kk vs m9 kc cs h0 n0 v U'.heap L ∧ FrameEnd U o U' L rr_put.cells rr_put.slots) := by
  refine MetFree.of_bodySF (plainFor_of_name pn_3) hisR ?_
  intro p e s m args below meth c s₁ Bd hml0 hP hK
  obtain ⟨rfl, hZ, hh⟩ := hP
  have hx := Bd.exec
  have hby := Bd.bytes
  have hml : c.maxLocals = 5 := hml0
  have hown : s.vm.findClass cn_1 = some m.cls := findClass_of_methodNamed Bd.named
  have hnm := (name_of_methodNamed Bd.named Bd.method).1
  have X0 : Stand p l e rr_put s m #[(.ref o0), (.int p1), (.ref o2), (.int n), (.int p4)] below meth c s₁ [] 0 0 := Stand.of_body Bd
  have e0 : s₁.heap = h0 := by rw [← hh, Bd.state]; rfl
  have N0 := Fr.nil n0
  have K0 : Keep h0 h0 [o0] := Keep.refl _ _
  obtain ⟨G, step, ret, fin⟩ := own_open (p := p) (l := l) (e := e) (R := rr_put) (s := s) (m := m) (args := #[(.ref o0), (.int p1), (.ref o2), (.int n), (.int p4)]) (below := below) (meth := meth) (c := c) (rr_put.cells) (rr_put.slots) (Q_put Z w__VALUES w_CAP w_RATE w_BUDGET w_COMPACT_STRINGS w_SIOOBE_FORMATTER w_tCAP w_vCAP w_tRATE w_vRATE w_tBUDGET w_vBUDGET o0 p1 o2 n p4 t kk vs m9 kc cs h0 n0) Bd.notSynchronized
  refine fin (g := entryFrame m #[(.ref o0), (.int p1), (.ref o2), (.int n), (.int p4)] 5) ?_
  rw [ef_put m o0 p1 o2 n p4]
  have ne_o2_t : o2 ≠ t := own_ne_arv Es (ww7 hw) Va
  have ne_o2_o0 : o2 ≠ o0 := own_ne_arv Es (ww7 hw) Vc
  show G s₁ (mkF m 0 #[.val (.ref o0), .val (.int p1), .val (.ref o2), .val (.int n), .val (.int p4)] [])
  refine step (fun t k => XS.iloadN X0.here hx rfl (hb hby d8_0) rfl k) ?_
  show G s₁ (mkF m 1 #[.val (.ref o0), .val (.int p1), .val (.ref o2), .val (.int n), .val (.int p4)] [(.int p1)])
  refine step (fun t k => XS.aloadN X0.here hx rfl (hb hby d8_1) rfl rfl k) ?_
  show G s₁ (mkF m 2 #[.val (.ref o0), .val (.int p1), .val (.ref o2), .val (.int n), .val (.int p4)] [(.ref o0), (.int p1)])
  have q1 := own_len X0 hx hZ e0 Vc (g := (mkF m 2 #[.val (.ref o0), .val (.int p1), .val (.ref o2), .val (.int n), .val (.int p4)] [(.ref o0), (.int p1)])) rfl rfl (hb hby d8_2)
  refine step q1 ?_
  show G s₁ (mkF m 3 #[.val (.ref o0), .val (.int p1), .val (.ref o2), .val (.int n), .val (.int p4)] [(.int m9), (.int p1)])
  by_cases hc2 : p1 < m9
  · skip
    refine step (fun t k => XS.icmpNo X0.here hx rfl (hb hby d8_3) rfl (tlt hc2).2.1 k) ?_
    show G s₁ (mkF m 6 #[.val (.ref o0), .val (.int p1), .val (.ref o2), .val (.int n), .val (.int p4)] [])
    refine step (fun t k => XS.aloadN X0.here hx rfl (hb hby d8_6) rfl rfl k) ?_
    show G s₁ (mkF m 7 #[.val (.ref o0), .val (.int p1), .val (.ref o2), .val (.int n), .val (.int p4)] [(.ref o0)])
    refine step (fun t k => XS.iloadN X0.here hx rfl (hb hby d8_7) rfl k) ?_
    show G s₁ (mkF m 8 #[.val (.ref o0), .val (.int p1), .val (.ref o2), .val (.int n), .val (.int p4)] [(.int p1), (.ref o0)])
    refine step (fun t k => XS.iloadN X0.here hx rfl (hb hby d8_8) rfl k) ?_
    show G s₁ (mkF m 9 #[.val (.ref o0), .val (.int p1), .val (.ref o2), .val (.int n), .val (.int p4)] [(.int p1), (.int p1), (.ref o0)])
    refine step (fun t k => XS.iloadN X0.here hx rfl (hb hby d8_9) rfl k) ?_
    show G s₁ (mkF m 10 #[.val (.ref o0), .val (.int p1), .val (.ref o2), .val (.int n), .val (.int p4)] [(.int n), (.int p1), (.int p1), (.ref o0)])
    by_cases hc3 : p1 < n
    · skip
      refine step (fun t k => XS.icmpNo X0.here hx rfl (hb hby d8_10) rfl (tlt hc3).2.1 k) ?_
      show G s₁ (mkF m 13 #[.val (.ref o0), .val (.int p1), .val (.ref o2), .val (.int n), .val (.int p4)] [(.int p1), (.ref o0)])
      refine step (fun t k => XS.aloadN X0.here hx rfl (hb hby d8_13) rfl rfl k) ?_
      show G s₁ (mkF m 14 #[.val (.ref o0), .val (.int p1), .val (.ref o2), .val (.int n), .val (.int p4)] [(.ref o2), (.int p1), (.ref o0)])
      refine step (fun t k => XS.iloadN X0.here hx rfl (hb hby d8_14) rfl k) ?_
      show G s₁ (mkF m 15 #[.val (.ref o0), .val (.int p1), .val (.ref o2), .val (.int n), .val (.int p4)] [(.int p1), (.ref o2), (.int p1), (.ref o0)])
      have hK4 := (backOf (R := rr_put) (p := p) (e := e) (below := below) (s := s) (args := #[(.ref o0), (.int p1), (.ref o2), (.int n), (.int p4)]) (len := 3) (W := 2) (rm_ch l Z a0 hw [] w__VALUES w_CAP w_RATE w_BUDGET w_COMPACT_STRINGS w_SIOOBE_FORMATTER w_tCAP w_vCAP w_tRATE w_vRATE w_tBUDGET w_vBUDGET o2 p1 t kk n vs h0 n0 (own_old_le O0) ST O0 Es Fv Fc Va (h1 : ¬ (p1 < (0 : Int32))) (hc3 : p1 < n)) hZ (ww87 hw) (ww6 hw) (by decide) (by decide))
      obtain ⟨cq4, kq4, q4a, q4b, q4c⟩ := isOf hZ e0 Es
      obtain ⟨_, _, ⟨T4, L4, k4, n4⟩, -, X4, ⟨Lc4, hQ4, l4, y4, z4⟩, st4⟩ := X0.virtualBack hx (y := y_6) (z := y_6) hown (mvT hZ (ww83 hw)) (mvT hZ (ww84 hw)) (notFace_of_selects (args := #[]) (mvT hZ (ww86 hw))) (mvT hZ (ww86 hw)) (mvT hZ (ww85 hw)) (by decide) hK4 q4a q4c (g := (mkF m 15 #[.val (.ref o0), .val (.int p1), .val (.ref o2), .val (.int n), .val (.int p4)] [(.int p1), (.ref o2), (.int p1), (.ref o0)])) rfl (by rw [hml]; rfl) (Steps.refl _) (argsL := [(.int p1)]) (rest := [(.int p1), (.ref o0)]) (lenOf pd_5 rfl) rfl (by show 2 * 0 + _ ≤ _; exact Nat.le_of_eq rfl) (hb hby d8_15) (fun _ _ => ⟨rfl, e0, (by decide : 0 + 0 ≤ _), (by decide : 0 + 0 ≤ _)⟩)
      dsimp only [Pt.U, Pt.locs, Pt.cells, Pt.slots] at X4 l4 y4 z4 st4 hQ4
      subst l4 y4 z4
      obtain ⟨c_4, rfl, N4q, K4q, Y4_0⟩ := hQ4
      have N4 := Fr.app N0 N4q
      obtain ⟨lc4, X4, N4⟩ := own_gen X4 N4
      have O4 := O0.keep K4q all0
      have K4 : Keep h0 T4.heap [o0] := K0.trans K4q all0
      refine step (fun t k => st4.trans k) ?_
      show G T4 (mkF m 18 #[.val (.ref o0), .val (.int p1), .val (.ref o2), .val (.int n), .val (.int p4)] [(.int c_4), (.int p1), (.ref o0)])
      refine step (fun t k => XS.goto X4.here hx rfl (pc0 := 18) (pc' := 23) rfl (hb hby d8_18) (by decide) (by decide) k) ?_
      show G T4 (mkF m 23 #[.val (.ref o0), .val (.int p1), .val (.ref o2), .val (.int n), .val (.int p4)] [(.int c_4), (.int p1), (.ref o0)])
      have f6 := (Arv.keep Vc K4q nin0)
      obtain ⟨T5, h5, X5, e5, W5, V5, st5⟩ := own_stC X4 hx hZ rfl f6 (j := p1) ⟨h1, hc2⟩ rfl (own_cal hca ⟨h1, hc2⟩) (g := (mkF m 23 #[.val (.ref o0), .val (.int p1), .val (.ref o2), .val (.int n), .val (.int p4)] [(.int c_4), (.int p1), (.ref o0)])) rfl rfl (hb hby d8_23)
      rw [own_narc Y4_0] at V5
      obtain ⟨cs5, V5, ca5⟩ := own_cas V5 hca Y4_0
      have N5 := Fr.snoc X5 N4 geo
      obtain ⟨lc5, X5, N5⟩ := own_gen X5 N5
      have O5 := O4.wr W5 geo
      have K5 : Keep h0 h5 [o0] := K4.wr W5 (Or.inl (List.mem_of_getElem? (i := 0) rfl))
      refine step st5 ?_
      show G T5 (mkF m 24 #[.val (.ref o0), .val (.int p1), .val (.ref o2), .val (.int n), .val (.int p4)] [])
      exact ret (v := none) X5 (fun _ => rfl) (fun fs hr => X5.returnOut hx Bd.returns (hb hby d8_24) hr) e5 ⟨cs5, rfl, N5, K5, V5, ca5⟩ (by decide) (by decide)
    · skip
      refine step (fun t k => XS.icmpYes X0.here hx rfl (pc0 := 10) (pc' := 21) rfl (hb hby d8_10) rfl (flt hc3).2.1 (by decide) (by decide) k) ?_
      show G s₁ (mkF m 21 #[.val (.ref o0), .val (.int p1), .val (.ref o2), .val (.int n), .val (.int p4)] [(.int p1), (.ref o0)])
      refine step (fun t k => XS.iload X0.here hx rfl (hb hby d8_21) rfl k) ?_
      show G s₁ (mkF m 23 #[.val (.ref o0), .val (.int p1), .val (.ref o2), .val (.int n), .val (.int p4)] [(.int p4), (.int p1), (.ref o0)])
      obtain ⟨T7, h7, X7, e7, W7, V7, st7⟩ := own_stC X0 hx hZ e0 Vc (j := p1) ⟨h1, hc2⟩ rfl (own_cal hca ⟨h1, hc2⟩) (g := (mkF m 23 #[.val (.ref o0), .val (.int p1), .val (.ref o2), .val (.int n), .val (.int p4)] [(.int p4), (.int p1), (.ref o0)])) rfl rfl (hb hby d8_23)
      rw [own_narc hlat] at V7
      obtain ⟨cs7, V7, ca7⟩ := own_cas V7 hca hlat
      have N7 := Fr.snoc X7 N0 geo
      obtain ⟨lc7, X7, N7⟩ := own_gen X7 N7
      have O7 := O0.wr W7 geo
      have K7 : Keep h0 h7 [o0] := K0.wr W7 (Or.inl (List.mem_of_getElem? (i := 0) rfl))
      refine step st7 ?_
      show G T7 (mkF m 24 #[.val (.ref o0), .val (.int p1), .val (.ref o2), .val (.int n), .val (.int p4)] [])
      exact ret (v := none) X7 (fun _ => rfl) (fun fs hr => X7.returnOut hx Bd.returns (hb hby d8_24) hr) e7 ⟨cs7, rfl, N7, K7, V7, ca7⟩ (by decide) (by decide)
  · skip
    refine step (fun t k => XS.icmpYes X0.here hx rfl (pc0 := 3) (pc' := 24) rfl (hb hby d8_3) rfl (flt hc2).2.1 (by decide) (by decide) k) ?_
    show G s₁ (mkF m 24 #[.val (.ref o0), .val (.int p1), .val (.ref o2), .val (.int n), .val (.int p4)] [])
    exact ret (v := none) X0 (fun _ => rfl) (fun fs hr => X0.returnOut hx Bd.returns (hb hby d8_24) hr) e0 ⟨cs, rfl, N0, K0, Vc, hca⟩ (by decide) (by decide)
theorem d9_0 : decode jdk_42_method_149_code 0 = .ok (.aload_n 0, 1) := by decide +kernel
theorem d9_1 : decode jdk_42_method_149_code 1 = .ok (.invokespecial 1, 3) := by decide +kernel
theorem ww38 {Z : State} {a0 : Array Value} (hw : ∀ d ∈ tables_1, d.before a0 Z = true) : Jvm.Cond.before (Jvm.Cond.methodLink cn_2 (1 : Nat) ({ cls := cn_9, name := "<init>", desc := "()V" } : Jvm.MethodName)) a0 Z = true := hw _ (List.mem_of_getElem? (i := 38) rfl)
theorem ww39 {Z : State} {a0 : Array Value} (hw : ∀ d ∈ tables_1, d.before a0 Z = true) : Jvm.Cond.before (Jvm.Cond.instanceMethod ({ cls := cn_9, name := "<init>", desc := "()V" } : Jvm.MethodName)) a0 Z = true := hw _ (List.mem_of_getElem? (i := 39) rfl)
theorem ww40 {Z : State} {a0 : Array Value} (hw : ∀ d ∈ tables_1, d.before a0 Z = true) : Jvm.Cond.before (Jvm.Cond.code ({ cls := cn_9, name := "<init>", desc := "()V" } : Jvm.MethodName) object_method_1_code (1 : Nat) (Option.none : Option Jvm.ClassFile.FieldType)) a0 Z = true := hw _ (List.mem_of_getElem? (i := 40) rfl)
theorem d9_4 : decode jdk_42_method_149_code 4 = .ok (.iload_n 3, 1) := by decide +kernel
theorem d9_5 : decode jdk_42_method_149_code 5 = .ok (.ifCond .ne 22, 3) := by decide +kernel
theorem d9_8 : decode jdk_42_method_149_code 8 = .ok (.aload_n 0, 1) := by decide +kernel
theorem d9_9 : decode jdk_42_method_149_code 9 = .ok (.ldc 7, 2) := by decide +kernel
theorem d9_11 : decode jdk_42_method_149_code 11 = .ok (.getfield 9, 3) := by decide +kernel
theorem d9_14 : decode jdk_42_method_149_code 14 = .ok (.putfield 9, 3) := by decide +kernel
theorem ww9 {Z : State} {a0 : Array Value} (hw : ∀ d ∈ tables_1, d.before a0 Z = true) : Jvm.Cond.before (Jvm.Cond.laysFinal cn_2 cn_2 "value" "[B") a0 Z = true := hw _ (List.mem_of_getElem? (i := 9) rfl)
theorem d9_17 : decode jdk_42_method_149_code 17 = .ok (.aload_n 0, 1) := by decide +kernel
theorem d9_18 : decode jdk_42_method_149_code 18 = .ok (.ldc 7, 2) := by decide +kernel
theorem d9_20 : decode jdk_42_method_149_code 20 = .ok (.getfield 15, 3) := by decide +kernel
theorem d9_23 : decode jdk_42_method_149_code 23 = .ok (.putfield 15, 3) := by decide +kernel
theorem ww10 {Z : State} {a0 : Array Value} (hw : ∀ d ∈ tables_1, d.before a0 Z = true) : Jvm.Cond.before (Jvm.Cond.laysFinal cn_2 cn_2 "coder" "B") a0 Z = true := hw _ (List.mem_of_getElem? (i := 10) rfl)
theorem d9_26 : decode jdk_42_method_149_code 26 = .ok (.return_, 1) := by decide +kernel
abbrev rr_sv : Room := { frames := 1, cells := 4, slots := 8, locals := 12 }
abbrev y_9 : MethodName := ⟨cn_2, "<init>", cn_15⟩
theorem ef_sv (m : MethodId) (o0 : Addr) (o1 : Addr) : entryFrame m #[(.ref o0), (.ref o1), (.int 0), (.int 0), .null] 6 = mkF m 0 #[.val (.ref o0), .val (.ref o1), .val (.int 0), .val (.int 0), .val .null, .unset] [] := by first | (simp [entryFrame, mkF, argsToLocals, Value.category]; done) | rfl
def Q_sv (Z : State) (w__VALUES : Addr) (w_CAP : Addr) (w_RATE : Addr) (w_BUDGET : Addr) (w_COMPACT_STRINGS : Int32) (w_SIOOBE_FORMATTER : Value) (w_tCAP : Addr) (w_vCAP : Addr) (w_tRATE : Addr) (w_vRATE : Addr) (w_tBUDGET : Addr) (w_vBUDGET : Addr) (o0 : Addr) (o1 : Addr) (h0 : Heap) (n0 : Nat) (v : Option Value) (h : Heap) (L : List Loc) : Prop := ∃ t : Addr, ∃ kk : ClassId, v = none ∧ Fr n0 L ∧ Keep h0 h [o0] ∧ Exa Z h o0 cn_2 ∧ Fld Z h o0 cn_2 "value" "[B" (.ref t) ∧ Fld Z h o0 cn_2 "coder" "B" (.int 0) ∧ Arv Z h t kk .byte (0 : Int32) [] (.int 0)
set_option maxRecDepth 65536 in
set_option maxHeartbeats 40000000 in
theorem rm_sv (l : Launch) (Z : State) (a0 : Array Value) (hw : ∀ d ∈ tables_1, d.before a0 Z = true) (ws : List Jvm.Cond) (w__VALUES : Addr) (w_CAP : Addr) (w_RATE : Addr) (w_BUDGET : Addr) (w_COMPACT_STRINGS : Int32) (w_SIOOBE_FORMATTER : Value) (w_tCAP : Addr) (w_vCAP : Addr) (w_tRATE : Addr) (w_vRATE : Addr) (w_tBUDGET : Addr) (w_vBUDGET : Addr) (o0 : Addr) (o1 : Addr) (h0 : Heap) (n0 : Nat) (Z0 : n0 ≤ h0.size) (ST : own_St Z w__VALUES w_CAP w_RATE w_BUDGET w_COMPACT_STRINGS w_SIOOBE_FORMATTER w_tCAP w_vCAP w_tRATE w_vRATE w_tBUDGET w_vBUDGET) (O0 : Old Z n0 h0) (Ex : Exa Z h0 o0 cn_2) (geo : n0 ≤ o0) (Fa : Fld Z h0 o0 cn_2 "value" "[B" .null) (Fb : Fld Z h0 o0 cn_2 "coder" "B" (.int 0)) :
    MetFree l y_9 (head1 (Jvm.Cond.code y_9 jdk_42_method_149_code 6 none :: ws) rr_sv) (fun a U => a = #[(.ref o0), (.ref o1), (.int 0), (.int 0), .null] ∧ Z.Warmed39 U.vm ∧ U.heap = h0 ∧ CHv Z own_EL U.vm h0) (fun _ _ _ _ _ => True) (fun _ U o U' => ∃ v L, o = .returned v ∧ Q_sv Z w__VALUES w_CAP w_RATE w_BUDGET w_COMPACT_STRINGS w_SIOOBE_FORMATTER w_tCAP w_vCAP w_tRATE w_vRATE w_tBUDGET w_vBUDGET o0 o1 h0 n0 v U'.heap L ∧ CHr Z own_EL U.vm U.heap U'.vm U'.heap ∧ ReturnedEndW U o U' L rr_sv.cells rr_sv.slots) := by
  refine MetFree.of_bodySF (plainFor_of_name pn_0) hisR ?_
  intro p e s m args below meth c s₁ Bd hml0 hP hK
  obtain ⟨rfl, hZ, hh, hC⟩ := hP
  have hx := Bd.exec
  have hby := Bd.bytes
  have hml : c.maxLocals = 6 := hml0
  have hown : s.vm.findClass cn_2 = some m.cls := findClass_of_methodNamed Bd.named
  have hnm := (name_of_methodNamed Bd.named Bd.method).1
  have X0 : Stand p l e rr_sv (s.setVm s.vm) m #[(.ref o0), (.ref o1), (.int 0), (.int 0), .null] below meth c s₁ [] 0 0 := Stand.of_body Bd
  have e0 : s₁.heap = h0 := by rw [← hh, Bd.state]; rfl
  have N0 := Fr.nil n0
  replace hZ : Z.Warmed39 (s.setVm s.vm).vm := hZ
  replace hown : (s.setVm s.vm).vm.findClass cn_2 = some m.cls := hown
  have hS : s.Since s.vm h0.size := (State.WarmedH.refl s).since _
  have hk0 : h0.size ≤ h0.size := Nat.le_refl _
  have C0 : CHr Z own_EL s.vm h0 s.vm h0 := CHr.refl hC
  have K0 : Keep h0 h0 [o0] := Keep.refl _ _
  obtain ⟨G, step, ret, fin⟩ := own_openH (p := p) (l := l) (e := e) (R := rr_sv) (s := s) (m := m) (args := #[(.ref o0), (.ref o1), (.int 0), (.int 0), .null]) (below := below) (meth := meth) (c := c) (rr_sv.cells) (rr_sv.slots) (Q_sv Z w__VALUES w_CAP w_RATE w_BUDGET w_COMPACT_STRINGS w_SIOOBE_FORMATTER w_tCAP w_vCAP w_tRATE w_vRATE w_tBUDGET w_vBUDGET o0 o1 h0 n0) (own_EW hw) hh Bd.notSynchronized
  refine fin (g := entryFrame m #[(.ref o0), (.ref o1), (.int 0), (.int 0), .null] 6) ?_
  rw [ef_sv m o0 o1]
  have S0_o0 : Safe Z own_EL s.vm h0 o0 := own_safeN hZ.alike Ex Fa
  show G s₁ (mkF m 0 #[.val (.ref o0), .val (.ref o1), .val (.int 0), .val (.int 0), .val .null, .unset] [])
  refine step (fun t k => XS.aloadN X0.here hx rfl (hb hby d9_0) rfl rfl k) ?_
  show G s₁ (mkF m 1 #[.val (.ref o0), .val (.ref o1), .val (.int 0), .val (.int 0), .val .null, .unset] [(.ref o0)])
  obtain ⟨T1, X1, e1, st1⟩ := initO X0 hx hZ hown (ww38 hw) (ww39 hw) (ww40 hw) e0 (g := (mkF m 1 #[.val (.ref o0), .val (.ref o1), .val (.int 0), .val (.int 0), .val .null, .unset] [(.ref o0)])) rfl (by rw [hml]; rfl) rfl (hb hby d9_1) (by decide) (W := 0) (by show 2 * 0 + _ ≤ _; exact Nat.le_of_eq rfl) (by decide)
  refine step st1 ?_
  show G T1 (mkF m 4 #[.val (.ref o0), .val (.ref o1), .val (.int 0), .val (.int 0), .val .null, .unset] [])
  refine step (fun t k => XS.iloadN X1.here hx rfl (hb hby d9_4) rfl k) ?_
  show G T1 (mkF m 5 #[.val (.ref o0), .val (.ref o1), .val (.int 0), .val (.int 0), .val .null, .unset] [(.int 0)])
  refine step (fun t k => XS.ifNo X1.here hx rfl (hb hby d9_5) rfl ((if0 _ _).trans (teq (by decide : (0 : Int32) = (0 : Int32))).2) k) ?_
  show G T1 (mkF m 8 #[.val (.ref o0), .val (.ref o1), .val (.int 0), .val (.int 0), .val .null, .unset] [])
  refine step (fun t k => XS.aloadN X1.here hx rfl (hb hby d9_8) rfl rfl k) ?_
  show G T1 (mkF m 9 #[.val (.ref o0), .val (.ref o1), .val (.int 0), .val (.int 0), .val .null, .unset] [(.ref o0)])
  obtain ⟨b2, T2, h2, k2, t2, kk2, X2, e2, E2, hS, hk2, hZ, hown, Ex2, Fc2, Fv2, Va2, -, -, hC2, -, hne2, st2⟩ := ldcCH (s := s) X1 hx hZ hown (ww41 hw) (own_wS hw) e1 hS hk0 (own_EW hw) (List.mem_of_getElem? (i := 4) rfl) C0.1 own_eE (z := (0 : Int32)) (by decide) rfl (g := (mkF m 9 #[.val (.ref o0), .val (.ref o1), .val (.int 0), .val (.int 0), .val .null, .unset] [(.ref o0)])) rfl (hb hby d9_9) (n := 0) (by decide +kernel) (by decide) (by decide) (by decide)
  have cz2 : CHr Z own_EL s.vm h0 T2.vm h2 := hC2
  have C2 : CHr Z own_EL s.vm h0 T2.vm h2 := C0.trans cz2
  have S2_o0 : Safe Z own_EL T2.vm h2 o0 := cz2.safe Ex.lt S0_o0
  have O2 := O0.ext E2
  have K2 : Keep h0 h2 [o0] := K0.ext E2
  refine step st2 ?_
  obtain ⟨ne2_o0, nf2_o0⟩ := hne2 _ S2_o0
  show G T2 (mkF m 11 #[.val (.ref o0), .val (.ref o1), .val (.int 0), .val (.int 0), .val .null, .unset] [(.ref b2), (.ref o0)])
  obtain ⟨T3, X3, e3, st3⟩ := getF X2 hx hZ hown (host := "") (Or.inl (ww18 hw)) Via.refl e2 Fv2 (g := (mkF m 11 #[.val (.ref o0), .val (.ref o1), .val (.int 0), .val (.int 0), .val .null, .unset] [(.ref b2), (.ref o0)])) rfl rfl (hb hby d9_11)
  refine step st3 ?_
  show G T3 (mkF m 14 #[.val (.ref o0), .val (.ref o1), .val (.int 0), .val (.int 0), .val .null, .unset] [(.ref t2), (.ref o0)])
  have f5 := (Fld.ext E2 Fa)
  have f6 := (Exa.ext E2 Ex)
  obtain ⟨T4, h4, X4, e4, W4, st4⟩ := putF X3 hx hZ hown (host := "") (Or.inl (ww18 hw)) Via.refl e3 f5 f6 (Or.inr ⟨(ww9 hw), rfl, hnm⟩) (ww7 hw) (ty := (.array .byte)) (by decide) rfl rfl (g := (mkF m 14 #[.val (.ref o0), .val (.ref o1), .val (.int 0), .val (.int 0), .val .null, .unset] [(.ref t2), (.ref o0)])) rfl rfl (hb hby d9_14)
  have F4 : Fld Z h4 o0 cn_2 "value" "[B" (.ref t2) := Fld.same W4 f5
  have cz4 : CHr Z own_EL T2.vm h2 T2.vm h4 := CHr.wr W4 S2_o0 C2.1
  have C4 : CHr Z own_EL s.vm h0 T2.vm h4 := C2.trans cz4
  have S4_o0 : Safe Z own_EL T2.vm h4 o0 := cz4.safe f6.lt S2_o0
  have N4 := Fr.snoc X4 N0 geo
  obtain ⟨lc4, X4, N4⟩ := own_gen X4 N4
  have O4 := O2.wr W4 geo
  have hk4 := Nat.le_trans hk2 (Nat.le_of_eq W4.size.symm)
  have K4 : Keep h0 h4 [o0] := K2.wr W4 (Or.inl (List.mem_of_getElem? (i := 0) rfl))
  refine step st4 ?_
  show G T4 (mkF m 17 #[.val (.ref o0), .val (.ref o1), .val (.int 0), .val (.int 0), .val .null, .unset] [])
  refine step (fun t k => XS.aloadN X4.here hx rfl (hb hby d9_17) rfl rfl k) ?_
  show G T4 (mkF m 18 #[.val (.ref o0), .val (.ref o1), .val (.int 0), .val (.int 0), .val .null, .unset] [(.ref o0)])
  have f8 := (Exa.wr W4 Ex2)
  have f9 := (Exa.wr W4 f6)
  have f10 := (Arv.other Va2 W4 (Ne.symm nf2_o0))
  obtain ⟨b7, T7, h7, k7, t7, kk7, X7, e7, E7, hS, hk7, hZ, hown, Ex7, Fc7, Fv7, Va7, -, -, hC7, -, hne7, st7⟩ := ldcCH (s := s) X4 hx hZ hown (ww41 hw) (own_wS hw) e4 hS hk4 (own_EW hw) (List.mem_of_getElem? (i := 4) rfl) C4.1 own_eE (z := (0 : Int32)) (by decide) rfl (g := (mkF m 18 #[.val (.ref o0), .val (.ref o1), .val (.int 0), .val (.int 0), .val .null, .unset] [(.ref o0)])) rfl (hb hby d9_18) (n := 0) (by decide +kernel) (by decide) (by decide) (by decide)
  have cz7 : CHr Z own_EL T2.vm h4 T7.vm h7 := hC7
  have C7 : CHr Z own_EL s.vm h0 T7.vm h7 := C4.trans cz7
  have S7_o0 : Safe Z own_EL T7.vm h7 o0 := cz7.safe f9.lt S4_o0
  have O7 := O4.ext E7
  have K7 : Keep h0 h7 [o0] := K4.ext E7
  refine step st7 ?_
  obtain ⟨ne7_o0, nf7_o0⟩ := hne7 _ S7_o0
  show G T7 (mkF m 20 #[.val (.ref o0), .val (.ref o1), .val (.int 0), .val (.int 0), .val .null, .unset] [(.ref b7), (.ref o0)])
  obtain ⟨T11, X11, e11, st11⟩ := getF X7 hx hZ hown (host := "") (Or.inl (ww25 hw)) Via.refl e7 Fc7 (g := (mkF m 20 #[.val (.ref o0), .val (.ref o1), .val (.int 0), .val (.int 0), .val .null, .unset] [(.ref b7), (.ref o0)])) rfl rfl (hb hby d9_20)
  refine step st11 ?_
  show G T11 (mkF m 23 #[.val (.ref o0), .val (.ref o1), .val (.int 0), .val (.int 0), .val .null, .unset] [(.int 0), (.ref o0)])
  have f13 := (Fld.ext E7 (Fld.other W4 (Fld.ext E2 Fb) (Or.inr (slot_ne (Or.inr (ww10 hw)) (Or.inr (ww9 hw)) (by decide) (t := .byte) (t' := (.array .byte)) (by decide) (by decide)))))
  have f14 := (Exa.ext E7 f9)
  obtain ⟨T12, h12, X12, e12, W12, st12⟩ := putFN X11 hx hZ hown (ww25 hw) Via.refl e11 f13 f14 (Or.inr ⟨(ww10 hw), rfl, hnm⟩) (ww7 hw) (ty := .byte) (v' := (.int (nar .byte (0 : Int32)))) (by decide) rfl (fits_nar_byte _) (g := (mkF m 23 #[.val (.ref o0), .val (.ref o1), .val (.int 0), .val (.int 0), .val .null, .unset] [(.int 0), (.ref o0)])) rfl rfl (hb hby d9_23)
  have F12 : Fld Z h12 o0 cn_2 "coder" "B" (.int 0) := Fld.same W12 f13
  have cz12 : CHr Z own_EL T7.vm h7 T7.vm h12 := CHr.wr W12 S7_o0 C7.1
  have C12 : CHr Z own_EL s.vm h0 T7.vm h12 := C7.trans cz12
  have S12_o0 : Safe Z own_EL T7.vm h12 o0 := cz12.safe f14.lt S7_o0
  have N12 := Fr.snoc X12 N4 geo
  obtain ⟨lc12, X12, N12⟩ := own_gen X12 N12
  have O12 := O7.wr W12 geo
  have hk12 := Nat.le_trans hk7 (Nat.le_of_eq W12.size.symm)
  have K12 : Keep h0 h12 [o0] := K7.wr W12 (Or.inl (List.mem_of_getElem? (i := 0) rfl))
  refine step st12 ?_
  show G T12 (mkF m 26 #[.val (.ref o0), .val (.ref o1), .val (.int 0), .val (.int 0), .val .null, .unset] [])
  have f15 := (Exa.wr W12 f14)
  have f16 := (Fld.other W12 (Fld.ext E7 F4) (Or.inr (slot_ne (Or.inr (ww9 hw)) (Or.inr (ww10 hw)) (by decide) (t := (.array .byte)) (t' := .byte) (by decide) (by decide))))
  have f17 := (Arv.other (f10.ext E7) W12 (Ne.symm nf2_o0))
  exact ret (v := none) X12 hS hk12 C12 hZ (fun _ => rfl) (fun fs hr => X12.returnOut hx Bd.returns (hb hby d9_26) hr) e12 ⟨t2, kk2, rfl, N12, K12, f15, f16, F12, f17⟩ (by decide) (by decide)
theorem d10_0 : decode jdk_42_method_3_code 0 = .ok (.aload_n 0, 1) := by decide +kernel
theorem d10_1 : decode jdk_42_method_3_code 1 = .ok (.aload_n 1, 1) := by decide +kernel
theorem d10_2 : decode jdk_42_method_3_code 2 = .ok (.iconst 0, 1) := by decide +kernel
theorem d10_3 : decode jdk_42_method_3_code 3 = .ok (.aload_n 1, 1) := by decide +kernel
theorem d10_4 : decode jdk_42_method_3_code 4 = .ok (.arraylength, 1) := by decide +kernel
theorem d10_5 : decode jdk_42_method_3_code 5 = .ok (.aconst_null, 1) := by decide +kernel
theorem d10_6 : decode jdk_42_method_3_code 6 = .ok (.invokespecial 27, 3) := by decide +kernel
theorem ww34 {Z : State} {a0 : Array Value} (hw : ∀ d ∈ tables_1, d.before a0 Z = true) : Jvm.Cond.before (Jvm.Cond.methodLink cn_2 (27 : Nat) ({ cls := cn_2, name := "<init>", desc := cn_15 } : Jvm.MethodName)) a0 Z = true := hw _ (List.mem_of_getElem? (i := 34) rfl)
theorem ww37 {Z : State} {a0 : Array Value} (hw : ∀ d ∈ tables_1, d.before a0 Z = true) : Jvm.Cond.before (Jvm.Cond.code ({ cls := cn_2, name := "<init>", desc := cn_15 } : Jvm.MethodName) jdk_42_method_149_code (6 : Nat) (Option.none : Option Jvm.ClassFile.FieldType)) a0 Z = true := hw _ (List.mem_of_getElem? (i := 37) rfl)
theorem pd_6 : parseMethodDescriptor cn_15 = some ⟨[(.array .char), .int, .int, (.object "java/lang/Void")], none⟩ := by decide +kernel
theorem ww35 {Z : State} {a0 : Array Value} (hw : ∀ d ∈ tables_1, d.before a0 Z = true) : Jvm.Cond.before (Jvm.Cond.instanceMethod ({ cls := cn_2, name := "<init>", desc := cn_15 } : Jvm.MethodName)) a0 Z = true := hw _ (List.mem_of_getElem? (i := 35) rfl)
theorem d10_9 : decode jdk_42_method_3_code 9 = .ok (.return_, 1) := by decide +kernel
abbrev rr_si : Room := { frames := 2, cells := 4, slots := 8, locals := 29 }
abbrev y_10 : MethodName := ⟨cn_2, "<init>", "([C)V"⟩
theorem ef_si (m : MethodId) (o0 : Addr) (o1 : Addr) : entryFrame m #[(.ref o0), (.ref o1)] 2 = mkF m 0 #[.val (.ref o0), .val (.ref o1)] [] := by first | (simp [entryFrame, mkF, argsToLocals, Value.category]; done) | rfl
def Q_si (Z : State) (w__VALUES : Addr) (w_CAP : Addr) (w_RATE : Addr) (w_BUDGET : Addr) (w_COMPACT_STRINGS : Int32) (w_SIOOBE_FORMATTER : Value) (w_tCAP : Addr) (w_vCAP : Addr) (w_tRATE : Addr) (w_vRATE : Addr) (w_tBUDGET : Addr) (w_vBUDGET : Addr) (o0 : Addr) (o1 : Addr) (kc : ClassId) (h0 : Heap) (n0 : Nat) (v : Option Value) (h : Heap) (L : List Loc) : Prop := ∃ t : Addr, ∃ kk : ClassId, v = none ∧ Fr n0 L ∧ Keep h0 h [o0] ∧ Exa Z h o0 cn_2 ∧ Fld Z h o0 cn_2 "value" "[B" (.ref t) ∧ Fld Z h o0 cn_2 "coder" "B" (.int 0) ∧ Arv Z h t kk .byte (0 : Int32) [] (.int 0)
set_option maxRecDepth 65536 in
set_option maxHeartbeats 40000000 in
theorem rm_si (l : Launch) (Z : State) (a0 : Array Value) (hw : ∀ d ∈ tables_1, d.before a0 Z = true) (ws : List Jvm.Cond) (w__VALUES : Addr) (w_CAP : Addr) (w_RATE : Addr) (w_BUDGET : Addr) (w_COMPACT_STRINGS : Int32) (w_SIOOBE_FORMATTER : Value) (w_tCAP : Addr) (w_vCAP : Addr) (w_tRATE : Addr) (w_vRATE : Addr) (w_tBUDGET : Addr) (w_vBUDGET : Addr) (o0 : Addr) (o1 : Addr) (kc : ClassId) (h0 : Heap) (n0 : Nat) (Z0 : n0 ≤ h0.size) (ST : own_St Z w__VALUES w_CAP w_RATE w_BUDGET w_COMPACT_STRINGS w_SIOOBE_FORMATTER w_tCAP w_vCAP w_tRATE w_vRATE w_tBUDGET w_vBUDGET) (O0 : Old Z n0 h0) (Ex : Exa Z h0 o0 cn_2) (geo : n0 ≤ o0) (Fa : Fld Z h0 o0 cn_2 "value" "[B" .null) (Fb : Fld Z h0 o0 cn_2 "coder" "B" (.int 0)) (Va : Arv Z h0 o1 kc .char (0 : Int32) [] (.int 0)) :
    MetFree l y_10 (head1 (Jvm.Cond.code y_10 jdk_42_method_3_code 2 none :: ws) rr_si) (fun a U => a = #[(.ref o0), (.ref o1)] ∧ Z.Warmed39 U.vm ∧ U.heap = h0 ∧ CHv Z own_EL U.vm h0) (fun _ _ _ _ _ => True) (fun _ U o U' => ∃ v L, o = .returned v ∧ Q_si Z w__VALUES w_CAP w_RATE w_BUDGET w_COMPACT_STRINGS w_SIOOBE_FORMATTER w_tCAP w_vCAP w_tRATE w_vRATE w_tBUDGET w_vBUDGET o0 o1 kc h0 n0 v U'.heap L ∧ CHr Z own_EL U.vm U.heap U'.vm U'.heap ∧ ReturnedEndW U o U' L rr_si.cells rr_si.slots) := by
  refine MetFree.of_bodySF (plainFor_of_name pn_0) hisR ?_
  intro p e s m args below meth c s₁ Bd hml0 hP hK
  obtain ⟨rfl, hZ, hh, hC⟩ := hP
  have hx := Bd.exec
  have hby := Bd.bytes
  have hml : c.maxLocals = 2 := hml0
  have hown : s.vm.findClass cn_2 = some m.cls := findClass_of_methodNamed Bd.named
  have hnm := (name_of_methodNamed Bd.named Bd.method).1
  have X0 : Stand p l e rr_si (s.setVm s.vm) m #[(.ref o0), (.ref o1)] below meth c s₁ [] 0 0 := Stand.of_body Bd
  have e0 : s₁.heap = h0 := by rw [← hh, Bd.state]; rfl
  have N0 := Fr.nil n0
  replace hZ : Z.Warmed39 (s.setVm s.vm).vm := hZ
  replace hown : (s.setVm s.vm).vm.findClass cn_2 = some m.cls := hown
  have hS : s.Since s.vm h0.size := (State.WarmedH.refl s).since _
  have hk0 : h0.size ≤ h0.size := Nat.le_refl _
  have C0 : CHr Z own_EL s.vm h0 s.vm h0 := CHr.refl hC
  have K0 : Keep h0 h0 [o0] := Keep.refl _ _
  obtain ⟨G, step, ret, fin⟩ := own_openH (p := p) (l := l) (e := e) (R := rr_si) (s := s) (m := m) (args := #[(.ref o0), (.ref o1)]) (below := below) (meth := meth) (c := c) (rr_si.cells) (rr_si.slots) (Q_si Z w__VALUES w_CAP w_RATE w_BUDGET w_COMPACT_STRINGS w_SIOOBE_FORMATTER w_tCAP w_vCAP w_tRATE w_vRATE w_tBUDGET w_vBUDGET o0 o1 kc h0 n0) (own_EW hw) hh Bd.notSynchronized
  refine fin (g := entryFrame m #[(.ref o0), (.ref o1)] 2) ?_
  rw [ef_si m o0 o1]
  have ne_o0_o1 : o0 ≠ o1 := own_ne_arv Ex (ww7 hw) Va
  show G s₁ (mkF m 0 #[.val (.ref o0), .val (.ref o1)] [])
  refine step (fun t k => XS.aloadN X0.here hx rfl (hb hby d10_0) rfl rfl k) ?_
  show G s₁ (mkF m 1 #[.val (.ref o0), .val (.ref o1)] [(.ref o0)])
  refine step (fun t k => XS.aloadN X0.here hx rfl (hb hby d10_1) rfl rfl k) ?_
  show G s₁ (mkF m 2 #[.val (.ref o0), .val (.ref o1)] [(.ref o1), (.ref o0)])
  refine step (fun t k => XS.iconst X0.here hx rfl (hb hby d10_2) k) ?_
  show G s₁ (mkF m 3 #[.val (.ref o0), .val (.ref o1)] [(.int 0), (.ref o1), (.ref o0)])
  refine step (fun t k => XS.aloadN X0.here hx rfl (hb hby d10_3) rfl rfl k) ?_
  show G s₁ (mkF m 4 #[.val (.ref o0), .val (.ref o1)] [(.ref o1), (.int 0), (.ref o1), (.ref o0)])
  have q1 := own_len X0 hx hZ e0 Va (g := (mkF m 4 #[.val (.ref o0), .val (.ref o1)] [(.ref o1), (.int 0), (.ref o1), (.ref o0)])) rfl rfl (hb hby d10_4)
  refine step q1 ?_
  show G s₁ (mkF m 5 #[.val (.ref o0), .val (.ref o1)] [(.int 0), (.int 0), (.ref o1), (.ref o0)])
  refine step (fun t k => XS.aconstNull X0.here hx rfl (hb hby d10_5) k) ?_
  show G s₁ (mkF m 6 #[.val (.ref o0), .val (.ref o1)] [.null, (.int 0), (.int 0), (.ref o1), (.ref o0)])
  have hK2 := (backOfSH (s := s) (vm0 := s.vm) (R := rr_si) (p := p) (e := e) (below := below) (args := #[(.ref o0), (.ref o1)]) (len := 3) (W := 0) (rm_sv l Z a0 hw [] w__VALUES w_CAP w_RATE w_BUDGET w_COMPACT_STRINGS w_SIOOBE_FORMATTER w_tCAP w_vCAP w_tRATE w_vRATE w_tBUDGET w_vBUDGET o0 o1 h0 n0 (own_old_le O0) ST O0 Ex geo Fa Fb) hZ (ww37 hw) (ww6 hw) (by decide) (by decide) (own_EW hw) C0.1)
  obtain ⟨_, _, ⟨T2, L2, k2, n2⟩, -, X2, hS2, hg2, ⟨Lc2, hQ2, l2, y2, z2, hC2⟩, st2⟩ := X0.specialBackS hx (y := y_9) rfl hown (mvT hZ (ww34 hw)) (mvT hZ (ww35 hw)) (mvT hZ (ww37 hw)) (by decide) hK2 (g := (mkF m 6 #[.val (.ref o0), .val (.ref o1)] [.null, (.int 0), (.int 0), (.ref o1), (.ref o0)])) rfl (by rw [hml]; rfl) (Steps.refl _) (a := o0) (argsL := [(.ref o1), (.int 0), (.int 0), .null]) (rest := []) (lenOf pd_6 rfl) rfl (by show 2 * 0 + _ ≤ _; exact Nat.le_of_eq rfl) (hb hby d10_6) (fun _ _ => ⟨rfl, e0, (by decide : 0 + 4 ≤ _), (by decide : 0 + 8 ≤ _)⟩)
  dsimp only [Pt.U, Pt.locs, Pt.cells, Pt.slots] at X2 l2 y2 z2 st2 hQ2 hS2 hg2 hC2
  subst l2 y2 z2
  obtain ⟨X2, hS, hZ, hown⟩ := rebS (s := s) hS (by rw [e0]; exact hk0) X2 hS2 hg2 hZ hown
  obtain ⟨t_2, kk_2, rfl, N2q, K2q, Y2_0, Y2_1, Y2_2, Y2_3⟩ := hQ2
  have N2 := Fr.app N0 N2q
  obtain ⟨lc2, X2, N2⟩ := own_gen X2 N2
  have cz2 : CHr Z own_EL s.vm h0 T2.vm T2.heap := hC2
  have C2 : CHr Z own_EL s.vm h0 T2.vm T2.heap := C0.trans cz2
  have O2 := O0.keep K2q (allS geo all0)
  have K2 : Keep h0 T2.heap [o0] := K0.trans K2q (allS (Or.inl (List.mem_of_getElem? (i := 0) rfl)) all0)
  have hk2 : _ ≤ T2.heap.size := Nat.le_refl _
  refine step (fun t k => st2.trans k) ?_
  show G T2 (mkF m 9 #[.val (.ref o0), .val (.ref o1)] [])
  exact ret (v := none) X2 hS hk2 C2 hZ (fun _ => rfl) (fun fs hr => X2.returnOut hx Bd.returns (hb hby d10_9) hr) rfl ⟨t_2, kk_2, rfl, N2, K2, Y2_0, Y2_1, Y2_2, Y2_3⟩ (by decide) (by decide)
theorem d11_0 : decode method_2_code 0 = .ok (.iload_n 0, 1) := by decide +kernel
theorem d11_1 : decode method_2_code 1 = .ok (.ifCond .ne 6, 3) := by decide +kernel
theorem d11_4 : decode method_2_code 4 = .ok (.ldc 7, 2) := by decide +kernel
theorem d11_6 : decode method_2_code 6 = .ok (.areturn, 1) := by decide +kernel
theorem d11_7 : decode method_2_code 7 = .ok (.iload_n 0, 1) := by decide +kernel
theorem d11_8 : decode method_2_code 8 = .ok (.iconst 1, 1) := by decide +kernel
theorem d11_9 : decode method_2_code 9 = .ok (.if_icmp .ne 6, 3) := by decide +kernel
theorem d11_12 : decode method_2_code 12 = .ok (.ldc 9, 2) := by decide +kernel
theorem d11_14 : decode method_2_code 14 = .ok (.areturn, 1) := by decide +kernel
theorem d11_15 : decode method_2_code 15 = .ok (.iload_n 0, 1) := by decide +kernel
theorem d11_16 : decode method_2_code 16 = .ok (.iconst 2, 1) := by decide +kernel
theorem d11_17 : decode method_2_code 17 = .ok (.if_icmp .ne 6, 3) := by decide +kernel
theorem d11_20 : decode method_2_code 20 = .ok (.ldc 11, 2) := by decide +kernel
theorem d11_22 : decode method_2_code 22 = .ok (.areturn, 1) := by decide +kernel
theorem d11_23 : decode method_2_code 23 = .ok (.ldc 13, 2) := by decide +kernel
theorem d11_25 : decode method_2_code 25 = .ok (.areturn, 1) := by decide +kernel
abbrev rr_ba : Room := { frames := 0, cells := 2, slots := 28, locals := 0 }
abbrev y_11 : MethodName := ⟨cn_1, "base", cn_16⟩
theorem ef_ba (m : MethodId) (p0 : Int32) : entryFrame m #[(.int p0)] 1 = mkF m 0 #[.val (.int p0)] [] := by first | (simp [entryFrame, mkF, argsToLocals, Value.category]; done) | rfl
def Q_ba (Z : State) (w__VALUES : Addr) (w_CAP : Addr) (w_RATE : Addr) (w_BUDGET : Addr) (w_COMPACT_STRINGS : Int32) (w_SIOOBE_FORMATTER : Value) (w_tCAP : Addr) (w_vCAP : Addr) (w_tRATE : Addr) (w_vRATE : Addr) (w_tBUDGET : Addr) (w_vBUDGET : Addr) (p0 : Int32) (h0 : Heap) (n0 : Nat) (v : Option Value) (h : Heap) (L : List Loc) : Prop := ∃ b : Addr, ∃ t : Addr, ∃ kk : ClassId, ∃ n : Int32, ∃ vs : List Value, v = some (.ref b) ∧ Fr n0 L ∧ Keep h0 h [] ∧ Exa Z h b cn_2 ∧ Fld Z h b cn_2 "value" "[B" (.ref t) ∧ Fld Z h b cn_2 "coder" "B" (.int 0) ∧ Arv Z h t kk .byte n vs (.int 0) ∧ own_bl n
set_option maxRecDepth 65536 in
set_option maxHeartbeats 40000000 in
theorem rm_ba (l : Launch) (Z : State) (a0 : Array Value) (hw : ∀ d ∈ tables_1, d.before a0 Z = true) (ws : List Jvm.Cond) (w__VALUES : Addr) (w_CAP : Addr) (w_RATE : Addr) (w_BUDGET : Addr) (w_COMPACT_STRINGS : Int32) (w_SIOOBE_FORMATTER : Value) (w_tCAP : Addr) (w_vCAP : Addr) (w_tRATE : Addr) (w_vRATE : Addr) (w_tBUDGET : Addr) (w_vBUDGET : Addr) (p0 : Int32) (h0 : Heap) (n0 : Nat) (Z0 : n0 ≤ h0.size) (ST : own_St Z w__VALUES w_CAP w_RATE w_BUDGET w_COMPACT_STRINGS w_SIOOBE_FORMATTER w_tCAP w_vCAP w_tRATE w_vRATE w_tBUDGET w_vBUDGET) (O0 : Old Z n0 h0) :
    MetFree l y_11 (head1 (Jvm.Cond.code y_11 method_2_code 1 (some (.object cn_2)) :: ws) rr_ba) (fun a U => a = #[(.int p0)] ∧ Z.Warmed39 U.vm ∧ U.heap = h0 ∧ CHv Z own_EL U.vm h0) (fun _ _ _ _ _ => True) (fun _ U o U' => ∃ v L, o = .returned v ∧ Q_ba Z w__VALUES w_CAP w_RATE w_BUDGET w_COMPACT_STRINGS w_SIOOBE_FORMATTER w_tCAP w_vCAP w_tRATE w_vRATE w_tBUDGET w_vBUDGET p0 h0 n0 v U'.heap L ∧ CHr Z own_EL U.vm U.heap U'.vm U'.heap ∧ ReturnedEndW U o U' L rr_ba.cells rr_ba.slots) := by
  refine MetFree.of_bodySF (plainFor_of_name pn_3) hisR ?_
  intro p e s m args below meth c s₁ Bd hml0 hP hK
  obtain ⟨rfl, hZ, hh, hC⟩ := hP
  have hx := Bd.exec
  have hby := Bd.bytes
  have hml : c.maxLocals = 1 := hml0
  have hown : s.vm.findClass cn_1 = some m.cls := findClass_of_methodNamed Bd.named
  have hnm := (name_of_methodNamed Bd.named Bd.method).1
  have X0 : Stand p l e rr_ba (s.setVm s.vm) m #[(.int p0)] below meth c s₁ [] 0 0 := Stand.of_body Bd
  have e0 : s₁.heap = h0 := by rw [← hh, Bd.state]; rfl
  have N0 := Fr.nil n0
  replace hZ : Z.Warmed39 (s.setVm s.vm).vm := hZ
  replace hown : (s.setVm s.vm).vm.findClass cn_1 = some m.cls := hown
  have hS : s.Since s.vm h0.size := (State.WarmedH.refl s).since _
  have hk0 : h0.size ≤ h0.size := Nat.le_refl _
  have C0 : CHr Z own_EL s.vm h0 s.vm h0 := CHr.refl hC
  have K0 : Keep h0 h0 [] := Keep.refl _ _
  obtain ⟨G, step, ret, fin⟩ := own_openH (p := p) (l := l) (e := e) (R := rr_ba) (s := s) (m := m) (args := #[(.int p0)]) (below := below) (meth := meth) (c := c) (rr_ba.cells) (rr_ba.slots) (Q_ba Z w__VALUES w_CAP w_RATE w_BUDGET w_COMPACT_STRINGS w_SIOOBE_FORMATTER w_tCAP w_vCAP w_tRATE w_vRATE w_tBUDGET w_vBUDGET p0 h0 n0) (own_EW hw) hh Bd.notSynchronized
  refine fin (g := entryFrame m #[(.int p0)] 1) ?_
  rw [ef_ba m p0]
  show G s₁ (mkF m 0 #[.val (.int p0)] [])
  refine step (fun t k => XS.iloadN X0.here hx rfl (hb hby d11_0) rfl k) ?_
  show G s₁ (mkF m 1 #[.val (.int p0)] [(.int p0)])
  by_cases hc1 : p0 = (0 : Int32)
  · skip
    refine step (fun t k => XS.ifNo X0.here hx rfl (hb hby d11_1) rfl ((if0 _ _).trans (teq hc1).2) k) ?_
    show G s₁ (mkF m 4 #[.val (.int p0)] [])
    obtain ⟨b2, T2, h2, k2, t2, kk2, X2, e2, E2, hS, hk2, hZ, hown, Ex2, Fc2, Fv2, Va2, -, -, hC2, -, hne2, st2⟩ := ldcCH (s := s) X0 hx hZ hown (ww5 hw) (own_wS hw) e0 hS hk0 (own_EW hw) (List.mem_of_getElem? (i := 0) rfl) C0.1 own_eC (z := (3 : Int32)) (by decide) rfl (g := (mkF m 4 #[.val (.int p0)] [])) rfl (hb hby d11_4) (n := 12) (by decide +kernel) (by decide) (by decide) (by decide)
    have cz2 : CHr Z own_EL s.vm h0 T2.vm h2 := hC2
    have C2 : CHr Z own_EL s.vm h0 T2.vm h2 := C0.trans cz2
    have O2 := O0.ext E2
    have K2 : Keep h0 h2 [] := K0.ext E2
    refine step st2 ?_
    show G T2 (mkF m 6 #[.val (.int p0)] [(.ref b2)])
    exact ret (v := some (.ref b2)) X2 hS hk2 C2 hZ (fun h => by rw [Bd.returns] at h; cases h) (fun fs hr => retA X2 hx Bd.returns rfl rfl (hb hby d11_6) hr) e2 ⟨b2, t2, kk2, (3 : Int32), [(.int 99), (.int 97), (.int 112)], rfl, N0, K2, Ex2, Fv2, Fc2, Va2, ⟨by decide, by decide⟩⟩ (by decide) (by decide)
  · skip
    refine step (fun t k => XS.ifYes X0.here hx rfl (pc0 := 1) (pc' := 7) rfl (hb hby d11_1) rfl ((if0 _ _).trans (feq hc1).2) (by decide) (by decide) k) ?_
    show G s₁ (mkF m 7 #[.val (.int p0)] [])
    refine step (fun t k => XS.iloadN X0.here hx rfl (hb hby d11_7) rfl k) ?_
    show G s₁ (mkF m 8 #[.val (.int p0)] [(.int p0)])
    refine step (fun t k => XS.iconst X0.here hx rfl (hb hby d11_8) k) ?_
    show G s₁ (mkF m 9 #[.val (.int p0)] [(.int 1), (.int p0)])
    by_cases hc3 : p0 = (1 : Int32)
    · skip
      refine step (fun t k => XS.icmpNo X0.here hx rfl (hb hby d11_9) rfl (teq hc3).2 k) ?_
      show G s₁ (mkF m 12 #[.val (.int p0)] [])
      obtain ⟨b4, T4, h4, k4, t4, kk4, X4, e4, E4, hS, hk4, hZ, hown, Ex4, Fc4, Fv4, Va4, -, -, hC4, -, hne4, st4⟩ := ldcCH (s := s) X0 hx hZ hown (ww80 hw) (own_wS hw) e0 hS hk0 (own_EW hw) (List.mem_of_getElem? (i := 1) rfl) C0.1 own_eR (z := (4 : Int32)) (by decide) rfl (g := (mkF m 12 #[.val (.int p0)] [])) rfl (hb hby d11_12) (n := 16) (by decide +kernel) (by decide) (by decide) (by decide)
      have cz4 : CHr Z own_EL s.vm h0 T4.vm h4 := hC4
      have C4 : CHr Z own_EL s.vm h0 T4.vm h4 := C0.trans cz4
      have O4 := O0.ext E4
      have K4 : Keep h0 h4 [] := K0.ext E4
      refine step st4 ?_
      show G T4 (mkF m 14 #[.val (.int p0)] [(.ref b4)])
      exact ret (v := some (.ref b4)) X4 hS hk4 C4 hZ (fun h => by rw [Bd.returns] at h; cases h) (fun fs hr => retA X4 hx Bd.returns rfl rfl (hb hby d11_14) hr) e4 ⟨b4, t4, kk4, (4 : Int32), [(.int 114), (.int 97), (.int 116), (.int 101)], rfl, N0, K4, Ex4, Fv4, Fc4, Va4, ⟨by decide, by decide⟩⟩ (by decide) (by decide)
    · skip
      refine step (fun t k => XS.icmpYes X0.here hx rfl (pc0 := 9) (pc' := 15) rfl (hb hby d11_9) rfl (feq hc3).2 (by decide) (by decide) k) ?_
      show G s₁ (mkF m 15 #[.val (.int p0)] [])
      refine step (fun t k => XS.iloadN X0.here hx rfl (hb hby d11_15) rfl k) ?_
      show G s₁ (mkF m 16 #[.val (.int p0)] [(.int p0)])
      refine step (fun t k => XS.iconst X0.here hx rfl (hb hby d11_16) k) ?_
      show G s₁ (mkF m 17 #[.val (.int p0)] [(.int 2), (.int p0)])
      by_cases hc5 : p0 = (2 : Int32)
      · skip
        refine step (fun t k => XS.icmpNo X0.here hx rfl (hb hby d11_17) rfl (teq hc5).2 k) ?_
        show G s₁ (mkF m 20 #[.val (.int p0)] [])
        obtain ⟨b6, T6, h6, k6, t6, kk6, X6, e6, E6, hS, hk6, hZ, hown, Ex6, Fc6, Fv6, Va6, -, -, hC6, -, hne6, st6⟩ := ldcCH (s := s) X0 hx hZ hown (ww81 hw) (own_wS hw) e0 hS hk0 (own_EW hw) (List.mem_of_getElem? (i := 2) rfl) C0.1 own_eB (z := (6 : Int32)) (by decide) rfl (g := (mkF m 20 #[.val (.int p0)] [])) rfl (hb hby d11_20) (n := 24) (by decide +kernel) (by decide) (by decide) (by decide)
        have cz6 : CHr Z own_EL s.vm h0 T6.vm h6 := hC6
        have C6 : CHr Z own_EL s.vm h0 T6.vm h6 := C0.trans cz6
        have O6 := O0.ext E6
        have K6 : Keep h0 h6 [] := K0.ext E6
        refine step st6 ?_
        show G T6 (mkF m 22 #[.val (.int p0)] [(.ref b6)])
        exact ret (v := some (.ref b6)) X6 hS hk6 C6 hZ (fun h => by rw [Bd.returns] at h; cases h) (fun fs hr => retA X6 hx Bd.returns rfl rfl (hb hby d11_22) hr) e6 ⟨b6, t6, kk6, (6 : Int32), [(.int 98), (.int 117), (.int 100), (.int 103), (.int 101), (.int 116)], rfl, N0, K6, Ex6, Fv6, Fc6, Va6, ⟨by decide, by decide⟩⟩ (by decide) (by decide)
      · skip
        refine step (fun t k => XS.icmpYes X0.here hx rfl (pc0 := 17) (pc' := 23) rfl (hb hby d11_17) rfl (feq hc5).2 (by decide) (by decide) k) ?_
        show G s₁ (mkF m 23 #[.val (.int p0)] [])
        obtain ⟨b7, T7, h7, k7, t7, kk7, X7, e7, E7, hS, hk7, hZ, hown, Ex7, Fc7, Fv7, Va7, -, -, hC7, -, hne7, st7⟩ := ldcCH (s := s) X0 hx hZ hown (ww82 hw) (own_wS hw) e0 hS hk0 (own_EW hw) (List.mem_of_getElem? (i := 3) rfl) C0.1 own_eE (z := (0 : Int32)) (by decide) rfl (g := (mkF m 23 #[.val (.int p0)] [])) rfl (hb hby d11_23) (n := 0) (by decide +kernel) (by decide) (by decide) (by decide)
        have cz7 : CHr Z own_EL s.vm h0 T7.vm h7 := hC7
        have C7 : CHr Z own_EL s.vm h0 T7.vm h7 := C0.trans cz7
        have O7 := O0.ext E7
        have K7 : Keep h0 h7 [] := K0.ext E7
        refine step st7 ?_
        show G T7 (mkF m 25 #[.val (.int p0)] [(.ref b7)])
        exact ret (v := some (.ref b7)) X7 hS hk7 C7 hZ (fun h => by rw [Bd.returns] at h; cases h) (fun fs hr => retA X7 hx Bd.returns rfl rfl (hb hby d11_25) hr) e7 ⟨b7, t7, kk7, (0 : Int32), [], rfl, N0, K7, Ex7, Fv7, Fc7, Va7, ⟨by decide, by decide⟩⟩ (by decide) (by decide)
theorem d12_0 : decode jdk_42_method_66_code 0 = .ok (.aload_n 0, 1) := by decide +kernel
theorem d12_1 : decode jdk_42_method_66_code 1 = .ok (.aload_n 1, 1) := by decide +kernel
theorem d12_2 : decode jdk_42_method_66_code 2 = .ok (.if_acmp .ne 5, 3) := by decide +kernel
theorem d12_7 : decode jdk_42_method_66_code 7 = .ok (.aload_n 1, 1) := by decide +kernel
theorem d12_8 : decode jdk_42_method_66_code 8 = .ok (.instanceof 10, 3) := by decide +kernel
theorem ww71 {Z : State} {a0 : Array Value} (hw : ∀ d ∈ tables_1, d.before a0 Z = true) : Jvm.Cond.before (Jvm.Cond.classLink cn_2 (10 : Nat) cn_2) a0 Z = true := hw _ (List.mem_of_getElem? (i := 71) rfl)
theorem d12_11 : decode jdk_42_method_66_code 11 = .ok (.ifCond .eq 43, 3) := by decide +kernel
theorem d12_54 : decode jdk_42_method_66_code 54 = .ok (.iconst 0, 1) := by decide +kernel
theorem d12_55 : decode jdk_42_method_66_code 55 = .ok (.ireturn, 1) := by decide +kernel
abbrev rr_en : Room := { frames := 0, cells := 0, slots := 0, locals := 0 }
abbrev y_12 : MethodName := ⟨cn_2, "equals", cn_10⟩
theorem ef_en (m : MethodId) (o0 : Addr) : entryFrame m #[(.ref o0), .null] 3 = mkF m 0 #[.val (.ref o0), .val .null, .unset] [] := by first | (simp [entryFrame, mkF, argsToLocals, Value.category]; done) | rfl
def f_en  (o0 : Addr) : Int32 := (0 : Int32)
def Q_en (Z : State)  (o0 : Addr) (h0 : Heap) (n0 : Nat) (v : Option Value) (h : Heap) (L : List Loc) : Prop := v = some (.int (f_en o0)) ∧ Fr n0 L ∧ h = h0
set_option maxRecDepth 65536 in
set_option maxHeartbeats 40000000 in
theorem rm_en (l : Launch) (Z : State) (a0 : Array Value) (hw : ∀ d ∈ tables_1, d.before a0 Z = true) (ws : List Jvm.Cond)  (o0 : Addr) (h0 : Heap) (n0 : Nat) (Z0 : n0 ≤ h0.size) (O0 : Old Z n0 h0) :
    MetFree l y_12 (head1 (Jvm.Cond.code y_12 jdk_42_method_66_code 3 (some .boolean) :: ws) rr_en) (fun a U => a = #[(.ref o0), .null] ∧ Z.Warmed39 U.vm ∧ U.heap = h0) (fun _ _ _ _ _ => True) (fun _ U o U' => ∃ v L, o = .returned v ∧ Q_en Z o0 h0 n0 v U'.heap L ∧ FrameEnd U o U' L rr_en.cells rr_en.slots) := by
  refine MetFree.of_bodySF (plainFor_of_name pn_0) hisR ?_
  intro p e s m args below meth c s₁ Bd hml0 hP hK
  obtain ⟨rfl, hZ, hh⟩ := hP
  have hx := Bd.exec
  have hby := Bd.bytes
  have hml : c.maxLocals = 3 := hml0
  have hown : s.vm.findClass cn_2 = some m.cls := findClass_of_methodNamed Bd.named
  have hnm := (name_of_methodNamed Bd.named Bd.method).1
  have X0 : Stand p l e rr_en s m #[(.ref o0), .null] below meth c s₁ [] 0 0 := Stand.of_body Bd
  have e0 : s₁.heap = h0 := by rw [← hh, Bd.state]; rfl
  have N0 := Fr.nil n0
  obtain ⟨G, step, ret, fin⟩ := own_open (p := p) (l := l) (e := e) (R := rr_en) (s := s) (m := m) (args := #[(.ref o0), .null]) (below := below) (meth := meth) (c := c) (rr_en.cells) (rr_en.slots) (Q_en Z o0 h0 n0) Bd.notSynchronized
  refine fin (g := entryFrame m #[(.ref o0), .null] 3) ?_
  rw [ef_en m o0]
  show G s₁ (mkF m 0 #[.val (.ref o0), .val .null, .unset] [])
  refine step (fun t k => XS.aloadN X0.here hx rfl (hb hby d12_0) rfl rfl k) ?_
  show G s₁ (mkF m 1 #[.val (.ref o0), .val .null, .unset] [(.ref o0)])
  refine step (fun t k => XS.aloadN X0.here hx rfl (hb hby d12_1) rfl rfl k) ?_
  show G s₁ (mkF m 2 #[.val (.ref o0), .val .null, .unset] [.null, (.ref o0)])
  refine step (fun t k => Jvm.RoadKit.acmp X0 hx rfl rfl rfl (pc0 := 2) (pc' := 7) (same := false) rfl (hb hby d12_2) rfl (decide_eq_false nofun) (by decide) (by decide) k) ?_
  show G s₁ (mkF m 7 #[.val (.ref o0), .val .null, .unset] [])
  refine step (fun t k => XS.aloadN X0.here hx rfl (hb hby d12_7) rfl rfl k) ?_
  show G s₁ (mkF m 8 #[.val (.ref o0), .val .null, .unset] [.null])
  refine step (fun t k => X0.instanceofNull hx (g := (mkF m 8 #[.val (.ref o0), .val .null, .unset] [.null])) rfl rfl (hb hby d12_8) t k) ?_
  show G s₁ (mkF m 11 #[.val (.ref o0), .val .null, .unset] [(.int 0)])
  refine step (fun t k => XS.ifYes X0.here hx rfl (pc0 := 11) (pc' := 54) rfl (hb hby d12_11) rfl ((if0 _ _).trans (teq (by decide : (0 : Int32) = (0 : Int32))).1) (by decide) (by decide) k) ?_
  show G s₁ (mkF m 54 #[.val (.ref o0), .val .null, .unset] [])
  refine step (fun t k => XS.iconst X0.here hx rfl (hb hby d12_54) k) ?_
  show G s₁ (mkF m 55 #[.val (.ref o0), .val .null, .unset] [(.int 0)])
  exact ret (v := some (.int 0)) X0 (fun h => by rw [Bd.returns] at h; cases h) (fun fs hr => retN X0 hx (t := .boolean) Bd.returns (by simp) (hb hby d12_55) hr) e0 ⟨rfl, N0, rfl⟩ (by decide) (by decide)
theorem d13_0 : decode prog_19_method_1_code 0 = .ok (.getstatic 13, 3) := by decide +kernel
theorem ww49 {Z : State} {a0 : Array Value} (hw : ∀ d ∈ tables_1, d.before a0 Z = true) : Jvm.Cond.before (Jvm.Cond.fieldLink cn_0 (13 : Nat) cn_0 "$VALUES" cn_3) a0 Z = true := hw _ (List.mem_of_getElem? (i := 49) rfl)
theorem d13_3 : decode prog_19_method_1_code 3 = .ok (.invokevirtual 17, 3) := by decide +kernel
theorem ww51 {Z : State} {a0 : Array Value} (hw : ∀ d ∈ tables_1, d.before a0 Z = true) : Jvm.Cond.before (Jvm.Cond.methodLink cn_0 (17 : Nat) ({ cls := cn_3, name := "clone", desc := cn_8 } : Jvm.MethodName)) a0 Z = true := hw _ (List.mem_of_getElem? (i := 51) rfl)
theorem ww52 {Z : State} {a0 : Array Value} (hw : ∀ d ∈ tables_1, d.before a0 Z = true) : Jvm.Cond.before (Jvm.Cond.sameMethod cn_3 cn_9 "clone" cn_8) a0 Z = true := hw _ (List.mem_of_getElem? (i := 52) rfl)
theorem ww56 {Z : State} {a0 : Array Value} (hw : ∀ d ∈ tables_1, d.before a0 Z = true) : Jvm.Cond.before (Jvm.Cond.native ({ cls := cn_9, name := "clone", desc := cn_8 } : Jvm.MethodName)) a0 Z = true := hw _ (List.mem_of_getElem? (i := 56) rfl)
theorem ww54 {Z : State} {a0 : Array Value} (hw : ∀ d ∈ tables_1, d.before a0 Z = true) : Jvm.Cond.before (Jvm.Cond.instanceMethod ({ cls := cn_9, name := "clone", desc := cn_8 } : Jvm.MethodName)) a0 Z = true := hw _ (List.mem_of_getElem? (i := 54) rfl)
theorem ww55 {Z : State} {a0 : Array Value} (hw : ∀ d ∈ tables_1, d.before a0 Z = true) : Jvm.Cond.before (Jvm.Cond.selects cn_3 ({ cls := cn_3, name := "clone", desc := cn_8 } : Jvm.MethodName) ({ cls := cn_9, name := "clone", desc := cn_8 } : Jvm.MethodName)) a0 Z = true := hw _ (List.mem_of_getElem? (i := 55) rfl)
theorem ww57 {Z : State} {a0 : Array Value} (hw : ∀ d ∈ tables_1, d.before a0 Z = true) : Jvm.Cond.before (Jvm.Cond.castable cn_3 "java/lang/Cloneable") a0 Z = true := hw _ (List.mem_of_getElem? (i := 57) rfl)
theorem d13_6 : decode prog_19_method_1_code 6 = .ok (.checkcast 18, 3) := by decide +kernel
theorem ww62 {Z : State} {a0 : Array Value} (hw : ∀ d ∈ tables_1, d.before a0 Z = true) : Jvm.Cond.before (Jvm.Cond.classLink cn_0 (18 : Nat) cn_3) a0 Z = true := hw _ (List.mem_of_getElem? (i := 62) rfl)
theorem d13_9 : decode prog_19_method_1_code 9 = .ok (.areturn, 1) := by decide +kernel
abbrev rr_va : Room := { frames := 1, cells := 1, slots := 3, locals := 14 }
abbrev y_13 : MethodName := ⟨cn_0, "values", cn_7⟩
theorem pn_4 : plainName cn_0 = true := by first | (simp [plainName, overriddenIn]; done) | decide +kernel
theorem ef_va (m : MethodId)  : entryFrame m #[] 0 = mkF m 0 #[] [] := by first | (simp [entryFrame, mkF, argsToLocals, Value.category]; done) | rfl
def Q_va (Z : State) (w__VALUES : Addr) (w_CAP : Addr) (w_RATE : Addr) (w_BUDGET : Addr) (w_COMPACT_STRINGS : Int32) (w_SIOOBE_FORMATTER : Value) (w_tCAP : Addr) (w_vCAP : Addr) (w_tRATE : Addr) (w_vRATE : Addr) (w_tBUDGET : Addr) (w_vBUDGET : Addr)  (h0 : Heap) (n0 : Nat) (v : Option Value) (h : Heap) (L : List Loc) : Prop := ∃ b : Addr, ∃ kv : ClassId, v = some (.ref b) ∧ Fr n0 L ∧ Keep h0 h [] ∧ h0.size ≤ b ∧ Arv Z h b kv (.object cn_0) (3 : Int32) [(.ref w_CAP), (.ref w_RATE), (.ref w_BUDGET)] .null
set_option maxRecDepth 65536 in
set_option maxHeartbeats 40000000 in
theorem rm_va (l : Launch) (Z : State) (a0 : Array Value) (hw : ∀ d ∈ tables_1, d.before a0 Z = true) (ws : List Jvm.Cond) (w__VALUES : Addr) (w_CAP : Addr) (w_RATE : Addr) (w_BUDGET : Addr) (w_COMPACT_STRINGS : Int32) (w_SIOOBE_FORMATTER : Value) (w_tCAP : Addr) (w_vCAP : Addr) (w_tRATE : Addr) (w_vRATE : Addr) (w_tBUDGET : Addr) (w_vBUDGET : Addr)  (h0 : Heap) (n0 : Nat) (Z0 : n0 ≤ h0.size) (ST : own_St Z w__VALUES w_CAP w_RATE w_BUDGET w_COMPACT_STRINGS w_SIOOBE_FORMATTER w_tCAP w_vCAP w_tRATE w_vRATE w_tBUDGET w_vBUDGET) (O0 : Old Z n0 h0) :
    MetFree l y_13 (head1 (Jvm.Cond.code y_13 prog_19_method_1_code 0 (some (.array (.object cn_0))) :: ws) rr_va) (fun a U => a = #[] ∧ Z.Warmed39 U.vm ∧ U.heap = h0) (fun _ _ _ _ _ => True) (fun _ U o U' => ∃ v L, o = .returned v ∧ Q_va Z w__VALUES w_CAP w_RATE w_BUDGET w_COMPACT_STRINGS w_SIOOBE_FORMATTER w_tCAP w_vCAP w_tRATE w_vRATE w_tBUDGET w_vBUDGET h0 n0 v U'.heap L ∧ FrameEnd U o U' L rr_va.cells rr_va.slots) := by
  refine MetFree.of_bodySF (plainFor_of_name pn_4) hisR ?_
  intro p e s m args below meth c s₁ Bd hml0 hP hK
  obtain ⟨rfl, hZ, hh⟩ := hP
  have hx := Bd.exec
  have hby := Bd.bytes
  have hml : c.maxLocals = 0 := hml0
  have hown : s.vm.findClass cn_0 = some m.cls := findClass_of_methodNamed Bd.named
  have hnm := (name_of_methodNamed Bd.named Bd.method).1
  have X0 : Stand p l e rr_va s m #[] below meth c s₁ [] 0 0 := Stand.of_body Bd
  have e0 : s₁.heap = h0 := by rw [← hh, Bd.state]; rfl
  have N0 := Fr.nil n0
  have K0 : Keep h0 h0 [] := Keep.refl _ _
  obtain ⟨G, step, ret, fin⟩ := own_open (p := p) (l := l) (e := e) (R := rr_va) (s := s) (m := m) (args := #[]) (below := below) (meth := meth) (c := c) (rr_va.cells) (rr_va.slots) (Q_va Z w__VALUES w_CAP w_RATE w_BUDGET w_COMPACT_STRINGS w_SIOOBE_FORMATTER w_tCAP w_vCAP w_tRATE w_vRATE w_tBUDGET w_vBUDGET h0 n0) Bd.notSynchronized
  refine fin (g := entryFrame m #[] 0) ?_
  rw [ef_va m ]
  show G s₁ (mkF m 0 #[] [])
  obtain ⟨T1, X1, e1, st1⟩ := getS2 X0 hx hZ hown (host := "") (Or.inl (ww49 hw)) Via.refl e0 (Sta.ext O0.2 ST.k0) (g := (mkF m 0 #[] [])) rfl (hb hby d13_0)
  refine step st1 ?_
  show G T1 (mkF m 3 #[] [(.ref w__VALUES)])
  obtain ⟨kw3, Vw3⟩ := ST.k27
  obtain ⟨T2, h2, X2, e2, E2, V2, B2, st2⟩ := own_cloneV X1 hx hZ hown (ww51 hw) (ww52 hw) (ww56 hw) (ww54 hw) (ww55 hw) (ww57 hw) e1 (Arv.ext Vw3 O0.2) (Exa.ext O0.2 ST.k1) (g := (mkF m 3 #[] [(.ref w__VALUES)])) rfl (by rw [hml]; rfl) rfl (hb hby d13_3) (by decide) (W := 0) (by show 2 * 0 + _ ≤ _; exact Nat.le_of_eq rfl) (by decide) (cap := 3) (by decide) (by decide) (by decide)
  obtain ⟨b2, g2⟩ : ∃ z, z = h0.size := ⟨_, rfl⟩
  rw [← g2] at V2 B2 st2
  have ge_b2 : n0 ≤ b2 := Nat.le_trans (own_old_le O0) (Nat.le_of_eq g2.symm)
  have sz_b2 : h0.size ≤ b2 := Nat.le_trans K0.1 (Nat.le_of_eq g2.symm)
  have O2 := O0.ext E2
  have K2 : Keep h0 h2 [] := K0.ext E2
  refine step st2 ?_
  show G T2 (mkF m 6 #[] [(.ref b2)])
  obtain ⟨T4, X4, e4, st4⟩ := castY X2 hx hZ hown (ww62 hw) e2 (Ins.self B2) (g := (mkF m 6 #[] [(.ref b2)])) rfl rfl (hb hby d13_6)
  refine step st4 ?_
  show G T4 (mkF m 9 #[] [(.ref b2)])
  exact ret (v := some (.ref b2)) X4 (fun h => by rw [Bd.returns] at h; cases h) (fun fs hr => retA X4 hx Bd.returns rfl rfl (hb hby d13_9) hr) e4 ⟨b2, kw3, rfl, N0, K2, sz_b2, V2⟩ (by decide) (by decide)
theorem d14_0 : decode prog_19_method_5_code 0 = .ok (.invokestatic 36, 3) := by decide +kernel
theorem ww46 {Z : State} {a0 : Array Value} (hw : ∀ d ∈ tables_1, d.before a0 Z = true) : Jvm.Cond.before (Jvm.Cond.methodLink cn_0 (36 : Nat) ({ cls := cn_0, name := "values", desc := cn_7 } : Jvm.MethodName)) a0 Z = true := hw _ (List.mem_of_getElem? (i := 46) rfl)
theorem ww48 {Z : State} {a0 : Array Value} (hw : ∀ d ∈ tables_1, d.before a0 Z = true) : Jvm.Cond.before (Jvm.Cond.code ({ cls := cn_0, name := "values", desc := cn_7 } : Jvm.MethodName) prog_19_method_1_code (0 : Nat) (Option.some (Jvm.ClassFile.FieldType.array (Jvm.ClassFile.FieldType.object cn_0)))) a0 Z = true := hw _ (List.mem_of_getElem? (i := 48) rfl)
theorem pd_7 : parseMethodDescriptor cn_7 = some ⟨[], some (.array (.object cn_0))⟩ := by decide +kernel
theorem ww47 {Z : State} {a0 : Array Value} (hw : ∀ d ∈ tables_1, d.before a0 Z = true) : Jvm.Cond.before (Jvm.Cond.static ({ cls := cn_0, name := "values", desc := cn_7 } : Jvm.MethodName)) a0 Z = true := hw _ (List.mem_of_getElem? (i := 47) rfl)
theorem d14_3 : decode prog_19_method_5_code 3 = .ok (.astore_n 1, 1) := by decide +kernel
theorem d14_4 : decode prog_19_method_5_code 4 = .ok (.aload_n 1, 1) := by decide +kernel
theorem d14_5 : decode prog_19_method_5_code 5 = .ok (.arraylength, 1) := by decide +kernel
theorem d14_6 : decode prog_19_method_5_code 6 = .ok (.istore_n 2, 1) := by decide +kernel
theorem d14_7 : decode prog_19_method_5_code 7 = .ok (.iconst 0, 1) := by decide +kernel
theorem d14_8 : decode prog_19_method_5_code 8 = .ok (.istore_n 3, 1) := by decide +kernel
theorem d14_9 : decode prog_19_method_5_code 9 = .ok (.iload_n 3, 1) := by decide +kernel
theorem d14_10 : decode prog_19_method_5_code 10 = .ok (.iload_n 2, 1) := by decide +kernel
theorem d14_11 : decode prog_19_method_5_code 11 = .ok (.if_icmp .ge 29, 3) := by decide +kernel
theorem d14_14 : decode prog_19_method_5_code 14 = .ok (.aload_n 1, 1) := by decide +kernel
theorem d14_15 : decode prog_19_method_5_code 15 = .ok (.iload_n 3, 1) := by decide +kernel
theorem d14_16 : decode prog_19_method_5_code 16 = .ok (.aaload, 1) := by decide +kernel
theorem d14_17 : decode prog_19_method_5_code 17 = .ok (.astore 4, 2) := by decide +kernel
theorem d14_19 : decode prog_19_method_5_code 19 = .ok (.aload 4, 2) := by decide +kernel
theorem d14_21 : decode prog_19_method_5_code 21 = .ok (.getfield 32, 3) := by decide +kernel
theorem ww64 {Z : State} {a0 : Array Value} (hw : ∀ d ∈ tables_1, d.before a0 Z = true) : Jvm.Cond.before (Jvm.Cond.fieldLink cn_0 (32 : Nat) cn_0 "text" cn_14) a0 Z = true := hw _ (List.mem_of_getElem? (i := 64) rfl)
theorem d14_24 : decode prog_19_method_5_code 24 = .ok (.aload_n 0, 1) := by decide +kernel
theorem d14_25 : decode prog_19_method_5_code 25 = .ok (.invokevirtual 40, 3) := by decide +kernel
theorem ww66 {Z : State} {a0 : Array Value} (hw : ∀ d ∈ tables_1, d.before a0 Z = true) : Jvm.Cond.before (Jvm.Cond.methodLink cn_0 (40 : Nat) ({ cls := cn_2, name := "equals", desc := cn_10 } : Jvm.MethodName)) a0 Z = true := hw _ (List.mem_of_getElem? (i := 66) rfl)
theorem ww69 {Z : State} {a0 : Array Value} (hw : ∀ d ∈ tables_1, d.before a0 Z = true) : Jvm.Cond.before (Jvm.Cond.selects cn_2 ({ cls := cn_2, name := "equals", desc := cn_10 } : Jvm.MethodName) ({ cls := cn_2, name := "equals", desc := cn_10 } : Jvm.MethodName)) a0 Z = true := hw _ (List.mem_of_getElem? (i := 69) rfl)
theorem ww70 {Z : State} {a0 : Array Value} (hw : ∀ d ∈ tables_1, d.before a0 Z = true) : Jvm.Cond.before (Jvm.Cond.code ({ cls := cn_2, name := "equals", desc := cn_10 } : Jvm.MethodName) jdk_42_method_66_code (3 : Nat) (Option.some Jvm.ClassFile.FieldType.boolean)) a0 Z = true := hw _ (List.mem_of_getElem? (i := 70) rfl)
theorem pd_8 : parseMethodDescriptor cn_10 = some ⟨[(.object cn_9)], some .boolean⟩ := by decide +kernel
theorem ww67 {Z : State} {a0 : Array Value} (hw : ∀ d ∈ tables_1, d.before a0 Z = true) : Jvm.Cond.before (Jvm.Cond.declares ({ cls := cn_2, name := "equals", desc := cn_10 } : Jvm.MethodName)) a0 Z = true := hw _ (List.mem_of_getElem? (i := 67) rfl)
theorem ww68 {Z : State} {a0 : Array Value} (hw : ∀ d ∈ tables_1, d.before a0 Z = true) : Jvm.Cond.before (Jvm.Cond.instanceMethod ({ cls := cn_2, name := "equals", desc := cn_10 } : Jvm.MethodName)) a0 Z = true := hw _ (List.mem_of_getElem? (i := 68) rfl)
theorem d14_28 : decode prog_19_method_5_code 28 = .ok (.ifCond .eq 6, 3) := by decide +kernel
theorem d14_31 : decode prog_19_method_5_code 31 = .ok (.aload 4, 2) := by decide +kernel
theorem d14_33 : decode prog_19_method_5_code 33 = .ok (.areturn, 1) := by decide +kernel
theorem d14_34 : decode prog_19_method_5_code 34 = .ok (.iinc 3 1, 3) := by decide +kernel
theorem d14_37 : decode prog_19_method_5_code 37 = .ok (.goto (-28), 3) := by decide +kernel
theorem d14_40 : decode prog_19_method_5_code 40 = .ok (.aconst_null, 1) := by decide +kernel
theorem d14_41 : decode prog_19_method_5_code 41 = .ok (.areturn, 1) := by decide +kernel
abbrev rr_nm : Room := { frames := 2, cells := 1, slots := 3, locals := 28 }
abbrev y_14 : MethodName := ⟨cn_0, "named", cn_4⟩
theorem ef_nm (m : MethodId) (o0 : Addr) : entryFrame m #[(.ref o0)] 5 = mkF m 0 #[.val (.ref o0), .unset, .unset, .unset, .unset] [] := by first | (simp [entryFrame, mkF, argsToLocals, Value.category]; done) | rfl
def Q_nm (Z : State) (w__VALUES : Addr) (w_CAP : Addr) (w_RATE : Addr) (w_BUDGET : Addr) (w_COMPACT_STRINGS : Int32) (w_SIOOBE_FORMATTER : Value) (w_tCAP : Addr) (w_vCAP : Addr) (w_tRATE : Addr) (w_vRATE : Addr) (w_tBUDGET : Addr) (w_vBUDGET : Addr) (o0 : Addr) (t : Addr) (kk : ClassId) (n : Int32) (vs : List Value) (cx : List Int32) (h0 : Heap) (n0 : Nat) (v : Option Value) (h : Heap) (L : List Loc) : Prop := ∃ r : Value, v = some r ∧ Fr n0 L ∧ Keep h0 h [] ∧ own_pk w_CAP w_RATE w_BUDGET cx r
set_option maxRecDepth 65536 in
set_option maxHeartbeats 40000000 in
theorem rm_nm (l : Launch) (Z : State) (a0 : Array Value) (hw : ∀ d ∈ tables_1, d.before a0 Z = true) (ws : List Jvm.Cond) (w__VALUES : Addr) (w_CAP : Addr) (w_RATE : Addr) (w_BUDGET : Addr) (w_COMPACT_STRINGS : Int32) (w_SIOOBE_FORMATTER : Value) (w_tCAP : Addr) (w_vCAP : Addr) (w_tRATE : Addr) (w_vRATE : Addr) (w_tBUDGET : Addr) (w_vBUDGET : Addr) (o0 : Addr) (t : Addr) (kk : ClassId) (n : Int32) (vs : List Value) (cx : List Int32) (h0 : Heap) (n0 : Nat) (Z0 : n0 ≤ h0.size) (ST : own_St Z w__VALUES w_CAP w_RATE w_BUDGET w_COMPACT_STRINGS w_SIOOBE_FORMATTER w_tCAP w_vCAP w_tRATE w_vRATE w_tBUDGET w_vBUDGET) (O0 : Old Z n0 h0) (Es : Exa Z h0 o0 cn_2) (Fv : Fld Z h0 o0 cn_2 "value" "[B" (.ref t)) (Fc : Fld Z h0 o0 cn_2 "coder" "B" (.int 0)) (Va : Arv Z h0 t kk .byte n vs (.int 0)) (hs : own_sp cx n vs) :
    MetFree l y_14 (head1 (Jvm.Cond.code y_14 prog_19_method_5_code 5 (some (.object cn_0)) :: ws) rr_nm) (fun a U => a = #[(.ref o0)] ∧ Z.Warmed39 U.vm ∧ U.heap = h0) (fun _ _ _ _ _ => True) (fun _ U o U' => ∃ v L, o = .returned v ∧ Q_nm Z w__VALUES w_CAP w_RATE w_BUDGET w_COMPACT_STRINGS w_SIOOBE_FORMATTER w_tCAP w_vCAP w_tRATE w_vRATE w_tBUDGET w_vBUDGET o0 t kk n vs cx h0 n0 v U'.heap L ∧ FrameEnd U o U' L rr_nm.cells rr_nm.slots) := by
  refine MetFree.of_bodySF (plainFor_of_name pn_4) hisR ?_
  intro p e s m args below meth c s₁ Bd hml0 hP hK
  obtain ⟨rfl, hZ, hh⟩ := hP
  have hx := Bd.exec
  have hby := Bd.bytes
  have hml : c.maxLocals = 5 := hml0
  have hown : s.vm.findClass cn_0 = some m.cls := findClass_of_methodNamed Bd.named
  have hnm := (name_of_methodNamed Bd.named Bd.method).1
  have X0 : Stand p l e rr_nm s m #[(.ref o0)] below meth c s₁ [] 0 0 := Stand.of_body Bd
  have e0 : s₁.heap = h0 := by rw [← hh, Bd.state]; rfl
  have N0 := Fr.nil n0
  have K0 : Keep h0 h0 [] := Keep.refl _ _
  obtain ⟨G, step, ret, fin⟩ := own_open (p := p) (l := l) (e := e) (R := rr_nm) (s := s) (m := m) (args := #[(.ref o0)]) (below := below) (meth := meth) (c := c) (rr_nm.cells) (rr_nm.slots) (Q_nm Z w__VALUES w_CAP w_RATE w_BUDGET w_COMPACT_STRINGS w_SIOOBE_FORMATTER w_tCAP w_vCAP w_tRATE w_vRATE w_tBUDGET w_vBUDGET o0 t kk n vs cx h0 n0) Bd.notSynchronized
  refine fin (g := entryFrame m #[(.ref o0)] 5) ?_
  rw [ef_nm m o0]
  have ne_o0_t : o0 ≠ t := own_ne_arv Es (ww7 hw) Va
  show G s₁ (mkF m 0 #[.val (.ref o0), .unset, .unset, .unset, .unset] [])
  have hK1 := (backOf (R := rr_nm) (p := p) (e := e) (below := below) (s := s) (args := #[(.ref o0)]) (len := 3) (W := 0) (rm_va l Z a0 hw [] w__VALUES w_CAP w_RATE w_BUDGET w_COMPACT_STRINGS w_SIOOBE_FORMATTER w_tCAP w_vCAP w_tRATE w_vRATE w_tBUDGET w_vBUDGET h0 n0 (own_old_le O0) ST O0) hZ (ww48 hw) (ww44 hw) (by decide) (by decide))
  obtain ⟨_, _, ⟨T1, L1, k1, n1⟩, -, X1, ⟨Lc1, hQ1, l1, y1, z1⟩, st1⟩ := Jvm.LawKit.callS X0 hx (y := y_13) hown (mvT hZ (ww46 hw)) (mvT hZ (ww47 hw)) (mvT hZ (ww44 hw)) (mvT hZ (ww48 hw)) (by decide) hK1 (g := (mkF m 0 #[.val (.ref o0), .unset, .unset, .unset, .unset] [])) rfl (by rw [hml]; rfl) (argsL := []) (rest := []) (lenOf pd_7 rfl) rfl (by show 2 * 0 + _ ≤ _; exact Nat.le_of_eq rfl) (hb hby d14_0) (fun _ _ => ⟨rfl, e0, (by decide : 0 + 1 ≤ _), (by decide : 0 + 3 ≤ _)⟩)
  dsimp only [Pt.U, Pt.locs, Pt.cells, Pt.slots] at X1 l1 y1 z1 st1 hQ1
  subst l1 y1 z1
  obtain ⟨b1, kv_1, rfl, N1q, K1q, Y1_0, Y1_1⟩ := hQ1
  have N1 := Fr.app N0 N1q
  obtain ⟨lc1, X1, N1⟩ := own_gen X1 N1
  have O1 := O0.keep K1q all0
  have K1 : Keep h0 T1.heap [] := K0.trans K1q all0
  have ge_b1 : n0 ≤ b1 := Nat.le_trans (own_old_le O0) Y1_0
  have sz_b1 : h0.size ≤ b1 := Nat.le_trans K0.1 Y1_0
  have lt_o0_b1 : o0 < b1 := Nat.lt_of_lt_of_le Es.lt Y1_0
  have lt_t_b1 : t < b1 := Nat.lt_of_lt_of_le Va.lt Y1_0
  refine step (fun t k => st1 t k) ?_
  show G T1 (mkF m 3 #[.val (.ref o0), .unset, .unset, .unset, .unset] [(.ref b1)])
  refine step (fun t k => XS.astoreN X1.here hx rfl (hb hby d14_3) rfl rfl (l' := #[.val (.ref o0), .val (.ref b1), .unset, .unset, .unset]) rfl k) ?_
  show G T1 (mkF m 4 #[.val (.ref o0), .val (.ref b1), .unset, .unset, .unset] [])
  refine step (fun t k => XS.aloadN X1.here hx rfl (hb hby d14_4) rfl rfl k) ?_
  show G T1 (mkF m 5 #[.val (.ref o0), .val (.ref b1), .unset, .unset, .unset] [(.ref b1)])
  have q2 := own_len X1 hx hZ rfl Y1_1 (g := (mkF m 5 #[.val (.ref o0), .val (.ref b1), .unset, .unset, .unset] [(.ref b1)])) rfl rfl (hb hby d14_5)
  refine step q2 ?_
  show G T1 (mkF m 6 #[.val (.ref o0), .val (.ref b1), .unset, .unset, .unset] [(.int 3)])
  refine step (fun t k => XS.istoreN X1.here hx rfl (hb hby d14_6) rfl (l' := #[.val (.ref o0), .val (.ref b1), .val (.int 3), .unset, .unset]) rfl k) ?_
  show G T1 (mkF m 7 #[.val (.ref o0), .val (.ref b1), .val (.int 3), .unset, .unset] [])
  refine step (fun t k => XS.iconst X1.here hx rfl (hb hby d14_7) k) ?_
  show G T1 (mkF m 8 #[.val (.ref o0), .val (.ref b1), .val (.int 3), .unset, .unset] [(.int 0)])
  refine step (fun t k => XS.istoreN X1.here hx rfl (hb hby d14_8) rfl (l' := #[.val (.ref o0), .val (.ref b1), .val (.int 3), .val (.int 0), .unset]) rfl k) ?_
  show G T1 (mkF m 9 #[.val (.ref o0), .val (.ref b1), .val (.int 3), .val (.int 0), .unset] [])
  refine step (fun t k => XS.iloadN X1.here hx rfl (hb hby d14_9) rfl k) ?_
  show G T1 (mkF m 10 #[.val (.ref o0), .val (.ref b1), .val (.int 3), .val (.int 0), .unset] [(.int 0)])
  refine step (fun t k => XS.iloadN X1.here hx rfl (hb hby d14_10) rfl k) ?_
  show G T1 (mkF m 11 #[.val (.ref o0), .val (.ref b1), .val (.int 3), .val (.int 0), .unset] [(.int 3), (.int 0)])
  refine step (fun t k => XS.icmpNo X1.here hx rfl (hb hby d14_11) rfl (tlt (by decide : (0 : Int32) < (3 : Int32))).2.1 k) ?_
  show G T1 (mkF m 14 #[.val (.ref o0), .val (.ref b1), .val (.int 3), .val (.int 0), .unset] [])
  refine step (fun t k => XS.aloadN X1.here hx rfl (hb hby d14_14) rfl rfl k) ?_
  show G T1 (mkF m 15 #[.val (.ref o0), .val (.ref b1), .val (.int 3), .val (.int 0), .unset] [(.ref b1)])
  refine step (fun t k => XS.iloadN X1.here hx rfl (hb hby d14_15) rfl k) ?_
  show G T1 (mkF m 16 #[.val (.ref o0), .val (.ref b1), .val (.int 3), .val (.int 0), .unset] [(.int 0), (.ref b1)])
  have q3 := own_ldR X1 hx hZ rfl Y1_1 (j := (0 : Int32)) (v := (.ref w_CAP)) (by decide) (own_at (i := 0) rfl rfl) rfl (g := (mkF m 16 #[.val (.ref o0), .val (.ref b1), .val (.int 3), .val (.int 0), .unset] [(.int 0), (.ref b1)])) rfl rfl (hb hby d14_16)
  refine step q3 ?_
  show G T1 (mkF m 17 #[.val (.ref o0), .val (.ref b1), .val (.int 3), .val (.int 0), .unset] [(.ref w_CAP)])
  refine step (fun t k => XS.astore X1.here hx rfl (hb hby d14_17) rfl rfl (l' := #[.val (.ref o0), .val (.ref b1), .val (.int 3), .val (.int 0), .val (.ref w_CAP)]) rfl k) ?_
  show G T1 (mkF m 19 #[.val (.ref o0), .val (.ref b1), .val (.int 3), .val (.int 0), .val (.ref w_CAP)] [])
  refine step (fun t k => XS.aload X1.here hx rfl (hb hby d14_19) rfl rfl k) ?_
  show G T1 (mkF m 21 #[.val (.ref o0), .val (.ref b1), .val (.int 3), .val (.int 0), .val (.ref w_CAP)] [(.ref w_CAP)])
  obtain ⟨T4, X4, e4, st4⟩ := getF X1 hx hZ hown (host := "") (Or.inl (ww64 hw)) Via.refl rfl (Fld.ext O1.2 ST.k13) (g := (mkF m 21 #[.val (.ref o0), .val (.ref b1), .val (.int 3), .val (.int 0), .val (.ref w_CAP)] [(.ref w_CAP)])) rfl rfl (hb hby d14_21)
  refine step st4 ?_
  show G T4 (mkF m 24 #[.val (.ref o0), .val (.ref b1), .val (.int 3), .val (.int 0), .val (.ref w_CAP)] [(.ref w_tCAP)])
  refine step (fun t k => XS.aloadN X4.here hx rfl (hb hby d14_24) rfl rfl k) ?_
  show G T4 (mkF m 25 #[.val (.ref o0), .val (.ref b1), .val (.int 3), .val (.int 0), .val (.ref w_CAP)] [(.ref o0), (.ref w_tCAP)])
  obtain ⟨kw6, Vw6⟩ := ST.k16
  have f7 := (Exa.keep Es K1q)
  have f8 := (Fld.keep Fv K1q nin0)
  have f9 := (Fld.keep Fc K1q nin0)
  have f10 := (Arv.keep Va K1q nin0)
  have hK5 := (StrChars.Road.eqW (l := l) (R := rr_nm) (p := p) (e := e) (below := below) (s := s) (args := #[(.ref o0)]) (len := 3) (W := 0) hZ (own_hwE hw) (kI := 4) (ww7 hw) (cs := [(99 : Int32), (97 : Int32), (112 : Int32)]) (Exa.ext O1.2 ST.k12) (Fld.ext O1.2 ST.k15) (Fld.ext O1.2 ST.k14) (Arv.ext Vw6 O1.2) own_spC.1 own_spC.2.1 own_spC.2.2 (ds := cx) f7 f8 f9 f10 hs.1 hs.2.1 hs.2.2 (Sta.ext O1.2 ST.k8) ST.k11 (by decide) (by decide))
  obtain ⟨cq5, kq5, q5a, q5b, q5c⟩ := isOf hZ e4 (Exa.ext O1.2 ST.k12)
  obtain ⟨_, _, ⟨T5, L5, k5, n5⟩, -, X5, ⟨Lc5, hQ5, l5, y5, z5⟩, st5⟩ := X4.virtualBack hx (y := y_12) (z := y_12) hown (mvT hZ (ww66 hw)) (mvT hZ (ww67 hw)) (notFace_of_selects (args := #[]) (mvT hZ (ww69 hw))) (mvT hZ (ww69 hw)) (mvT hZ (ww68 hw)) (by decide) hK5 q5a q5c (g := (mkF m 25 #[.val (.ref o0), .val (.ref b1), .val (.int 3), .val (.int 0), .val (.ref w_CAP)] [(.ref o0), (.ref w_tCAP)])) rfl (by rw [hml]; rfl) (Steps.refl _) (argsL := [(.ref o0)]) (rest := []) (lenOf pd_8 rfl) rfl (by show 2 * 0 + _ ≤ _; exact Nat.le_of_eq rfl) (hb hby d14_25) (fun _ _ => ⟨rfl, e4, (by decide : 1 + 0 ≤ _), (by decide : 3 + 0 ≤ _)⟩)
  dsimp only [Pt.U, Pt.locs, Pt.cells, Pt.slots] at X5 l5 y5 z5 st5 hQ5
  subst l5 y5 z5
  obtain ⟨hq5, rfl, e5⟩ := hQ5
  try rw [List.append_nil] at X5
  rcases hq5 with ⟨rfl, hq5⟩ | ⟨rfl, hq5⟩
  · skip
    refine step (fun t k => st5.trans k) ?_
    show G T5 (mkF m 28 #[.val (.ref o0), .val (.ref b1), .val (.int 3), .val (.int 0), .val (.ref w_CAP)] [(.int 1)])
    refine step (fun t k => XS.ifNo X5.here hx rfl (hb hby d14_28) rfl ((if0 _ _).trans (feq (by decide : ¬ ((1 : Int32) = (0 : Int32)))).1) k) ?_
    show G T5 (mkF m 31 #[.val (.ref o0), .val (.ref b1), .val (.int 3), .val (.int 0), .val (.ref w_CAP)] [])
    refine step (fun t k => XS.aload X5.here hx rfl (hb hby d14_31) rfl rfl k) ?_
    show G T5 (mkF m 33 #[.val (.ref o0), .val (.ref b1), .val (.int 3), .val (.int 0), .val (.ref w_CAP)] [(.ref w_CAP)])
    exact ret (v := some (.ref w_CAP)) X5 (fun h => by rw [Bd.returns] at h; cases h) (fun fs hr => retA X5 hx Bd.returns rfl rfl (hb hby d14_33) hr) e5 ⟨(.ref w_CAP), rfl, N1, K1, (Or.inl ⟨hq5, rfl⟩)⟩ (by decide) (by decide)
  · skip
    refine step (fun t k => st5.trans k) ?_
    show G T5 (mkF m 28 #[.val (.ref o0), .val (.ref b1), .val (.int 3), .val (.int 0), .val (.ref w_CAP)] [(.int 0)])
    refine step (fun t k => XS.ifYes X5.here hx rfl (pc0 := 28) (pc' := 34) rfl (hb hby d14_28) rfl ((if0 _ _).trans (teq (by decide : (0 : Int32) = (0 : Int32))).1) (by decide) (by decide) k) ?_
    show G T5 (mkF m 34 #[.val (.ref o0), .val (.ref b1), .val (.int 3), .val (.int 0), .val (.ref w_CAP)] [])
    refine step (fun t k => XS.iinc X5.here hx rfl (hb hby d14_34) rfl (l' := #[.val (.ref o0), .val (.ref b1), .val (.int 3), .val (.int ((0 : Int32) + (1 : Int32))), .val (.ref w_CAP)]) rfl k) ?_
    show G T5 (mkF m 37 #[.val (.ref o0), .val (.ref b1), .val (.int 3), .val (.int ((0 : Int32) + (1 : Int32))), .val (.ref w_CAP)] [])
    rw [(by decide : ((0 : Int32) + (1 : Int32)) = (1 : Int32))]
    show G T5 (mkF m 37 #[.val (.ref o0), .val (.ref b1), .val (.int 3), .val (.int 1), .val (.ref w_CAP)] [])
    refine step (fun t k => XS.goto X5.here hx rfl (pc0 := 37) (pc' := 9) rfl (hb hby d14_37) (by decide) (by decide) k) ?_
    show G T5 (mkF m 9 #[.val (.ref o0), .val (.ref b1), .val (.int 3), .val (.int 1), .val (.ref w_CAP)] [])
    refine step (fun t k => XS.iloadN X5.here hx rfl (hb hby d14_9) rfl k) ?_
    show G T5 (mkF m 10 #[.val (.ref o0), .val (.ref b1), .val (.int 3), .val (.int 1), .val (.ref w_CAP)] [(.int 1)])
    refine step (fun t k => XS.iloadN X5.here hx rfl (hb hby d14_10) rfl k) ?_
    show G T5 (mkF m 11 #[.val (.ref o0), .val (.ref b1), .val (.int 3), .val (.int 1), .val (.ref w_CAP)] [(.int 3), (.int 1)])
    refine step (fun t k => XS.icmpNo X5.here hx rfl (hb hby d14_11) rfl (tlt (by decide : (1 : Int32) < (3 : Int32))).2.1 k) ?_
    show G T5 (mkF m 14 #[.val (.ref o0), .val (.ref b1), .val (.int 3), .val (.int 1), .val (.ref w_CAP)] [])
    refine step (fun t k => XS.aloadN X5.here hx rfl (hb hby d14_14) rfl rfl k) ?_
    show G T5 (mkF m 15 #[.val (.ref o0), .val (.ref b1), .val (.int 3), .val (.int 1), .val (.ref w_CAP)] [(.ref b1)])
    refine step (fun t k => XS.iloadN X5.here hx rfl (hb hby d14_15) rfl k) ?_
    show G T5 (mkF m 16 #[.val (.ref o0), .val (.ref b1), .val (.int 3), .val (.int 1), .val (.ref w_CAP)] [(.int 1), (.ref b1)])
    have q11 := own_ldR X5 hx hZ e5 Y1_1 (j := (1 : Int32)) (v := (.ref w_RATE)) (by decide) (own_at (i := 1) rfl rfl) rfl (g := (mkF m 16 #[.val (.ref o0), .val (.ref b1), .val (.int 3), .val (.int 1), .val (.ref w_CAP)] [(.int 1), (.ref b1)])) rfl rfl (hb hby d14_16)
    refine step q11 ?_
    show G T5 (mkF m 17 #[.val (.ref o0), .val (.ref b1), .val (.int 3), .val (.int 1), .val (.ref w_CAP)] [(.ref w_RATE)])
    refine step (fun t k => XS.astore X5.here hx rfl (hb hby d14_17) rfl rfl (l' := #[.val (.ref o0), .val (.ref b1), .val (.int 3), .val (.int 1), .val (.ref w_RATE)]) rfl k) ?_
    show G T5 (mkF m 19 #[.val (.ref o0), .val (.ref b1), .val (.int 3), .val (.int 1), .val (.ref w_RATE)] [])
    refine step (fun t k => XS.aload X5.here hx rfl (hb hby d14_19) rfl rfl k) ?_
    show G T5 (mkF m 21 #[.val (.ref o0), .val (.ref b1), .val (.int 3), .val (.int 1), .val (.ref w_RATE)] [(.ref w_RATE)])
    obtain ⟨T12, X12, e12, st12⟩ := getF X5 hx hZ hown (host := "") (Or.inl (ww64 hw)) Via.refl e5 (Fld.ext O1.2 ST.k18) (g := (mkF m 21 #[.val (.ref o0), .val (.ref b1), .val (.int 3), .val (.int 1), .val (.ref w_RATE)] [(.ref w_RATE)])) rfl rfl (hb hby d14_21)
    refine step st12 ?_
    show G T12 (mkF m 24 #[.val (.ref o0), .val (.ref b1), .val (.int 3), .val (.int 1), .val (.ref w_RATE)] [(.ref w_tRATE)])
    refine step (fun t k => XS.aloadN X12.here hx rfl (hb hby d14_24) rfl rfl k) ?_
    show G T12 (mkF m 25 #[.val (.ref o0), .val (.ref b1), .val (.int 3), .val (.int 1), .val (.ref w_RATE)] [(.ref o0), (.ref w_tRATE)])
    obtain ⟨kw14, Vw14⟩ := ST.k21
    have hK13 := (StrChars.Road.eqW (l := l) (R := rr_nm) (p := p) (e := e) (below := below) (s := s) (args := #[(.ref o0)]) (len := 3) (W := 0) hZ (own_hwE hw) (kI := 4) (ww7 hw) (cs := [(114 : Int32), (97 : Int32), (116 : Int32), (101 : Int32)]) (Exa.ext O1.2 ST.k17) (Fld.ext O1.2 ST.k20) (Fld.ext O1.2 ST.k19) (Arv.ext Vw14 O1.2) own_spR.1 own_spR.2.1 own_spR.2.2 (ds := cx) f7 f8 f9 f10 hs.1 hs.2.1 hs.2.2 (Sta.ext O1.2 ST.k8) ST.k11 (by decide) (by decide))
    obtain ⟨cq13, kq13, q13a, q13b, q13c⟩ := isOf hZ e12 (Exa.ext O1.2 ST.k17)
    obtain ⟨_, _, ⟨T13, L13, k13, n13⟩, -, X13, ⟨Lc13, hQ13, l13, y13, z13⟩, st13⟩ := X12.virtualBack hx (y := y_12) (z := y_12) hown (mvT hZ (ww66 hw)) (mvT hZ (ww67 hw)) (notFace_of_selects (args := #[]) (mvT hZ (ww69 hw))) (mvT hZ (ww69 hw)) (mvT hZ (ww68 hw)) (by decide) hK13 q13a q13c (g := (mkF m 25 #[.val (.ref o0), .val (.ref b1), .val (.int 3), .val (.int 1), .val (.ref w_RATE)] [(.ref o0), (.ref w_tRATE)])) rfl (by rw [hml]; rfl) (Steps.refl _) (argsL := [(.ref o0)]) (rest := []) (lenOf pd_8 rfl) rfl (by show 2 * 0 + _ ≤ _; exact Nat.le_of_eq rfl) (hb hby d14_25) (fun _ _ => ⟨rfl, e12, (by decide : 1 + 0 ≤ _), (by decide : 3 + 0 ≤ _)⟩)
    dsimp only [Pt.U, Pt.locs, Pt.cells, Pt.slots] at X13 l13 y13 z13 st13 hQ13
    subst l13 y13 z13
    obtain ⟨hq13, rfl, e13⟩ := hQ13
    try rw [List.append_nil] at X13
    rcases hq13 with ⟨rfl, hq13⟩ | ⟨rfl, hq13⟩
    · skip
      refine step (fun t k => st13.trans k) ?_
      show G T13 (mkF m 28 #[.val (.ref o0), .val (.ref b1), .val (.int 3), .val (.int 1), .val (.ref w_RATE)] [(.int 1)])
      refine step (fun t k => XS.ifNo X13.here hx rfl (hb hby d14_28) rfl ((if0 _ _).trans (feq (by decide : ¬ ((1 : Int32) = (0 : Int32)))).1) k) ?_
      show G T13 (mkF m 31 #[.val (.ref o0), .val (.ref b1), .val (.int 3), .val (.int 1), .val (.ref w_RATE)] [])
      refine step (fun t k => XS.aload X13.here hx rfl (hb hby d14_31) rfl rfl k) ?_
      show G T13 (mkF m 33 #[.val (.ref o0), .val (.ref b1), .val (.int 3), .val (.int 1), .val (.ref w_RATE)] [(.ref w_RATE)])
      exact ret (v := some (.ref w_RATE)) X13 (fun h => by rw [Bd.returns] at h; cases h) (fun fs hr => retA X13 hx Bd.returns rfl rfl (hb hby d14_33) hr) e13 ⟨(.ref w_RATE), rfl, N1, K1, (Or.inr (Or.inl ⟨hq13, rfl⟩))⟩ (by decide) (by decide)
    · skip
      refine step (fun t k => st13.trans k) ?_
      show G T13 (mkF m 28 #[.val (.ref o0), .val (.ref b1), .val (.int 3), .val (.int 1), .val (.ref w_RATE)] [(.int 0)])
      refine step (fun t k => XS.ifYes X13.here hx rfl (pc0 := 28) (pc' := 34) rfl (hb hby d14_28) rfl ((if0 _ _).trans (teq (by decide : (0 : Int32) = (0 : Int32))).1) (by decide) (by decide) k) ?_
      show G T13 (mkF m 34 #[.val (.ref o0), .val (.ref b1), .val (.int 3), .val (.int 1), .val (.ref w_RATE)] [])
      refine step (fun t k => XS.iinc X13.here hx rfl (hb hby d14_34) rfl (l' := #[.val (.ref o0), .val (.ref b1), .val (.int 3), .val (.int ((1 : Int32) + (1 : Int32))), .val (.ref w_RATE)]) rfl k) ?_
      show G T13 (mkF m 37 #[.val (.ref o0), .val (.ref b1), .val (.int 3), .val (.int ((1 : Int32) + (1 : Int32))), .val (.ref w_RATE)] [])
      rw [(by decide : ((1 : Int32) + (1 : Int32)) = (2 : Int32))]
      show G T13 (mkF m 37 #[.val (.ref o0), .val (.ref b1), .val (.int 3), .val (.int 2), .val (.ref w_RATE)] [])
      refine step (fun t k => XS.goto X13.here hx rfl (pc0 := 37) (pc' := 9) rfl (hb hby d14_37) (by decide) (by decide) k) ?_
      show G T13 (mkF m 9 #[.val (.ref o0), .val (.ref b1), .val (.int 3), .val (.int 2), .val (.ref w_RATE)] [])
      refine step (fun t k => XS.iloadN X13.here hx rfl (hb hby d14_9) rfl k) ?_
      show G T13 (mkF m 10 #[.val (.ref o0), .val (.ref b1), .val (.int 3), .val (.int 2), .val (.ref w_RATE)] [(.int 2)])
      refine step (fun t k => XS.iloadN X13.here hx rfl (hb hby d14_10) rfl k) ?_
      show G T13 (mkF m 11 #[.val (.ref o0), .val (.ref b1), .val (.int 3), .val (.int 2), .val (.ref w_RATE)] [(.int 3), (.int 2)])
      refine step (fun t k => XS.icmpNo X13.here hx rfl (hb hby d14_11) rfl (tlt (by decide : (2 : Int32) < (3 : Int32))).2.1 k) ?_
      show G T13 (mkF m 14 #[.val (.ref o0), .val (.ref b1), .val (.int 3), .val (.int 2), .val (.ref w_RATE)] [])
      refine step (fun t k => XS.aloadN X13.here hx rfl (hb hby d14_14) rfl rfl k) ?_
      show G T13 (mkF m 15 #[.val (.ref o0), .val (.ref b1), .val (.int 3), .val (.int 2), .val (.ref w_RATE)] [(.ref b1)])
      refine step (fun t k => XS.iloadN X13.here hx rfl (hb hby d14_15) rfl k) ?_
      show G T13 (mkF m 16 #[.val (.ref o0), .val (.ref b1), .val (.int 3), .val (.int 2), .val (.ref w_RATE)] [(.int 2), (.ref b1)])
      have q15 := own_ldR X13 hx hZ e13 Y1_1 (j := (2 : Int32)) (v := (.ref w_BUDGET)) (by decide) (own_at (i := 2) rfl rfl) rfl (g := (mkF m 16 #[.val (.ref o0), .val (.ref b1), .val (.int 3), .val (.int 2), .val (.ref w_RATE)] [(.int 2), (.ref b1)])) rfl rfl (hb hby d14_16)
      refine step q15 ?_
      show G T13 (mkF m 17 #[.val (.ref o0), .val (.ref b1), .val (.int 3), .val (.int 2), .val (.ref w_RATE)] [(.ref w_BUDGET)])
      refine step (fun t k => XS.astore X13.here hx rfl (hb hby d14_17) rfl rfl (l' := #[.val (.ref o0), .val (.ref b1), .val (.int 3), .val (.int 2), .val (.ref w_BUDGET)]) rfl k) ?_
      show G T13 (mkF m 19 #[.val (.ref o0), .val (.ref b1), .val (.int 3), .val (.int 2), .val (.ref w_BUDGET)] [])
      refine step (fun t k => XS.aload X13.here hx rfl (hb hby d14_19) rfl rfl k) ?_
      show G T13 (mkF m 21 #[.val (.ref o0), .val (.ref b1), .val (.int 3), .val (.int 2), .val (.ref w_BUDGET)] [(.ref w_BUDGET)])
      obtain ⟨T16, X16, e16, st16⟩ := getF X13 hx hZ hown (host := "") (Or.inl (ww64 hw)) Via.refl e13 (Fld.ext O1.2 ST.k23) (g := (mkF m 21 #[.val (.ref o0), .val (.ref b1), .val (.int 3), .val (.int 2), .val (.ref w_BUDGET)] [(.ref w_BUDGET)])) rfl rfl (hb hby d14_21)
      refine step st16 ?_
      show G T16 (mkF m 24 #[.val (.ref o0), .val (.ref b1), .val (.int 3), .val (.int 2), .val (.ref w_BUDGET)] [(.ref w_tBUDGET)])
      refine step (fun t k => XS.aloadN X16.here hx rfl (hb hby d14_24) rfl rfl k) ?_
      show G T16 (mkF m 25 #[.val (.ref o0), .val (.ref b1), .val (.int 3), .val (.int 2), .val (.ref w_BUDGET)] [(.ref o0), (.ref w_tBUDGET)])
      obtain ⟨kw18, Vw18⟩ := ST.k26
      have hK17 := (StrChars.Road.eqW (l := l) (R := rr_nm) (p := p) (e := e) (below := below) (s := s) (args := #[(.ref o0)]) (len := 3) (W := 0) hZ (own_hwE hw) (kI := 4) (ww7 hw) (cs := [(98 : Int32), (117 : Int32), (100 : Int32), (103 : Int32), (101 : Int32), (116 : Int32)]) (Exa.ext O1.2 ST.k22) (Fld.ext O1.2 ST.k25) (Fld.ext O1.2 ST.k24) (Arv.ext Vw18 O1.2) own_spB.1 own_spB.2.1 own_spB.2.2 (ds := cx) f7 f8 f9 f10 hs.1 hs.2.1 hs.2.2 (Sta.ext O1.2 ST.k8) ST.k11 (by decide) (by decide))
      obtain ⟨cq17, kq17, q17a, q17b, q17c⟩ := isOf hZ e16 (Exa.ext O1.2 ST.k22)
      obtain ⟨_, _, ⟨T17, L17, k17, n17⟩, -, X17, ⟨Lc17, hQ17, l17, y17, z17⟩, st17⟩ := X16.virtualBack hx (y := y_12) (z := y_12) hown (mvT hZ (ww66 hw)) (mvT hZ (ww67 hw)) (notFace_of_selects (args := #[]) (mvT hZ (ww69 hw))) (mvT hZ (ww69 hw)) (mvT hZ (ww68 hw)) (by decide) hK17 q17a q17c (g := (mkF m 25 #[.val (.ref o0), .val (.ref b1), .val (.int 3), .val (.int 2), .val (.ref w_BUDGET)] [(.ref o0), (.ref w_tBUDGET)])) rfl (by rw [hml]; rfl) (Steps.refl _) (argsL := [(.ref o0)]) (rest := []) (lenOf pd_8 rfl) rfl (by show 2 * 0 + _ ≤ _; exact Nat.le_of_eq rfl) (hb hby d14_25) (fun _ _ => ⟨rfl, e16, (by decide : 1 + 0 ≤ _), (by decide : 3 + 0 ≤ _)⟩)
      dsimp only [Pt.U, Pt.locs, Pt.cells, Pt.slots] at X17 l17 y17 z17 st17 hQ17
      subst l17 y17 z17
      obtain ⟨hq17, rfl, e17⟩ := hQ17
      try rw [List.append_nil] at X17
      rcases hq17 with ⟨rfl, hq17⟩ | ⟨rfl, hq17⟩
      · skip
        refine step (fun t k => st17.trans k) ?_
        show G T17 (mkF m 28 #[.val (.ref o0), .val (.ref b1), .val (.int 3), .val (.int 2), .val (.ref w_BUDGET)] [(.int 1)])
        refine step (fun t k => XS.ifNo X17.here hx rfl (hb hby d14_28) rfl ((if0 _ _).trans (feq (by decide : ¬ ((1 : Int32) = (0 : Int32)))).1) k) ?_
        show G T17 (mkF m 31 #[.val (.ref o0), .val (.ref b1), .val (.int 3), .val (.int 2), .val (.ref w_BUDGET)] [])
        refine step (fun t k => XS.aload X17.here hx rfl (hb hby d14_31) rfl rfl k) ?_
        show G T17 (mkF m 33 #[.val (.ref o0), .val (.ref b1), .val (.int 3), .val (.int 2), .val (.ref w_BUDGET)] [(.ref w_BUDGET)])
        exact ret (v := some (.ref w_BUDGET)) X17 (fun h => by rw [Bd.returns] at h; cases h) (fun fs hr => retA X17 hx Bd.returns rfl rfl (hb hby d14_33) hr) e17 ⟨(.ref w_BUDGET), rfl, N1, K1, (Or.inr (Or.inr (Or.inl ⟨hq17, rfl⟩)))⟩ (by decide) (by decide)
      · skip
        refine step (fun t k => st17.trans k) ?_
        show G T17 (mkF m 28 #[.val (.ref o0), .val (.ref b1), .val (.int 3), .val (.int 2), .val (.ref w_BUDGET)] [(.int 0)])
        refine step (fun t k => XS.ifYes X17.here hx rfl (pc0 := 28) (pc' := 34) rfl (hb hby d14_28) rfl ((if0 _ _).trans (teq (by decide : (0 : Int32) = (0 : Int32))).1) (by decide) (by decide) k) ?_
        show G T17 (mkF m 34 #[.val (.ref o0), .val (.ref b1), .val (.int 3), .val (.int 2), .val (.ref w_BUDGET)] [])
        refine step (fun t k => XS.iinc X17.here hx rfl (hb hby d14_34) rfl (l' := #[.val (.ref o0), .val (.ref b1), .val (.int 3), .val (.int ((2 : Int32) + (1 : Int32))), .val (.ref w_BUDGET)]) rfl k) ?_
        show G T17 (mkF m 37 #[.val (.ref o0), .val (.ref b1), .val (.int 3), .val (.int ((2 : Int32) + (1 : Int32))), .val (.ref w_BUDGET)] [])
        rw [(by decide : ((2 : Int32) + (1 : Int32)) = (3 : Int32))]
        show G T17 (mkF m 37 #[.val (.ref o0), .val (.ref b1), .val (.int 3), .val (.int 3), .val (.ref w_BUDGET)] [])
        refine step (fun t k => XS.goto X17.here hx rfl (pc0 := 37) (pc' := 9) rfl (hb hby d14_37) (by decide) (by decide) k) ?_
        show G T17 (mkF m 9 #[.val (.ref o0), .val (.ref b1), .val (.int 3), .val (.int 3), .val (.ref w_BUDGET)] [])
        refine step (fun t k => XS.iloadN X17.here hx rfl (hb hby d14_9) rfl k) ?_
        show G T17 (mkF m 10 #[.val (.ref o0), .val (.ref b1), .val (.int 3), .val (.int 3), .val (.ref w_BUDGET)] [(.int 3)])
        refine step (fun t k => XS.iloadN X17.here hx rfl (hb hby d14_10) rfl k) ?_
        show G T17 (mkF m 11 #[.val (.ref o0), .val (.ref b1), .val (.int 3), .val (.int 3), .val (.ref w_BUDGET)] [(.int 3), (.int 3)])
        refine step (fun t k => XS.icmpYes X17.here hx rfl (pc0 := 11) (pc' := 40) rfl (hb hby d14_11) rfl (flt (by decide : ¬ ((3 : Int32) < (3 : Int32)))).2.1 (by decide) (by decide) k) ?_
        show G T17 (mkF m 40 #[.val (.ref o0), .val (.ref b1), .val (.int 3), .val (.int 3), .val (.ref w_BUDGET)] [])
        refine step (fun t k => XS.aconstNull X17.here hx rfl (hb hby d14_40) k) ?_
        show G T17 (mkF m 41 #[.val (.ref o0), .val (.ref b1), .val (.int 3), .val (.int 3), .val (.ref w_BUDGET)] [.null])
        exact ret (v := some .null) X17 (fun h => by rw [Bd.returns] at h; cases h) (fun fs hr => retA X17 hx Bd.returns rfl rfl (hb hby d14_41) hr) e17 ⟨.null, rfl, N1, K1, (Or.inr (Or.inr (Or.inr ⟨⟨hq5, hq13, hq17⟩, rfl⟩)))⟩ (by decide) (by decide)
abbrev rr_nz : Room := { frames := 2, cells := 1, slots := 3, locals := 25 }
theorem ef_nz (m : MethodId)  : entryFrame m #[.null] 5 = mkF m 0 #[.val .null, .unset, .unset, .unset, .unset] [] := by first | (simp [entryFrame, mkF, argsToLocals, Value.category]; done) | rfl
def Q_nz (Z : State) (w__VALUES : Addr) (w_CAP : Addr) (w_RATE : Addr) (w_BUDGET : Addr) (w_COMPACT_STRINGS : Int32) (w_SIOOBE_FORMATTER : Value) (w_tCAP : Addr) (w_vCAP : Addr) (w_tRATE : Addr) (w_vRATE : Addr) (w_tBUDGET : Addr) (w_vBUDGET : Addr)  (h0 : Heap) (n0 : Nat) (v : Option Value) (h : Heap) (L : List Loc) : Prop := v = some .null ∧ Fr n0 L ∧ Keep h0 h []
set_option maxRecDepth 65536 in
set_option maxHeartbeats 40000000 in
theorem rm_nz (l : Launch) (Z : State) (a0 : Array Value) (hw : ∀ d ∈ tables_1, d.before a0 Z = true) (ws : List Jvm.Cond) (w__VALUES : Addr) (w_CAP : Addr) (w_RATE : Addr) (w_BUDGET : Addr) (w_COMPACT_STRINGS : Int32) (w_SIOOBE_FORMATTER : Value) (w_tCAP : Addr) (w_vCAP : Addr) (w_tRATE : Addr) (w_vRATE : Addr) (w_tBUDGET : Addr) (w_vBUDGET : Addr)  (h0 : Heap) (n0 : Nat) (Z0 : n0 ≤ h0.size) (ST : own_St Z w__VALUES w_CAP w_RATE w_BUDGET w_COMPACT_STRINGS w_SIOOBE_FORMATTER w_tCAP w_vCAP w_tRATE w_vRATE w_tBUDGET w_vBUDGET) (O0 : Old Z n0 h0) :
    MetFree l y_14 (head1 (Jvm.Cond.code y_14 prog_19_method_5_code 5 (some (.object cn_0)) :: ws) rr_nz) (fun a U => a = #[.null] ∧ Z.Warmed39 U.vm ∧ U.heap = h0) (fun _ _ _ _ _ => True) (fun _ U o U' => ∃ v L, o = .returned v ∧ Q_nz Z w__VALUES w_CAP w_RATE w_BUDGET w_COMPACT_STRINGS w_SIOOBE_FORMATTER w_tCAP w_vCAP w_tRATE w_vRATE w_tBUDGET w_vBUDGET h0 n0 v U'.heap L ∧ FrameEnd U o U' L rr_nz.cells rr_nz.slots) := by
  refine MetFree.of_bodySF (plainFor_of_name pn_4) hisR ?_
  intro p e s m args below meth c s₁ Bd hml0 hP hK
  obtain ⟨rfl, hZ, hh⟩ := hP
  have hx := Bd.exec
  have hby := Bd.bytes
  have hml : c.maxLocals = 5 := hml0
  have hown : s.vm.findClass cn_0 = some m.cls := findClass_of_methodNamed Bd.named
  have hnm := (name_of_methodNamed Bd.named Bd.method).1
  have X0 : Stand p l e rr_nz s m #[.null] below meth c s₁ [] 0 0 := Stand.of_body Bd
  have e0 : s₁.heap = h0 := by rw [← hh, Bd.state]; rfl
  have N0 := Fr.nil n0
  have K0 : Keep h0 h0 [] := Keep.refl _ _
  obtain ⟨G, step, ret, fin⟩ := own_open (p := p) (l := l) (e := e) (R := rr_nz) (s := s) (m := m) (args := #[.null]) (below := below) (meth := meth) (c := c) (rr_nz.cells) (rr_nz.slots) (Q_nz Z w__VALUES w_CAP w_RATE w_BUDGET w_COMPACT_STRINGS w_SIOOBE_FORMATTER w_tCAP w_vCAP w_tRATE w_vRATE w_tBUDGET w_vBUDGET h0 n0) Bd.notSynchronized
  refine fin (g := entryFrame m #[.null] 5) ?_
  rw [ef_nz m ]
  show G s₁ (mkF m 0 #[.val .null, .unset, .unset, .unset, .unset] [])
  have hK1 := (backOf (R := rr_nz) (p := p) (e := e) (below := below) (s := s) (args := #[.null]) (len := 3) (W := 0) (rm_va l Z a0 hw [] w__VALUES w_CAP w_RATE w_BUDGET w_COMPACT_STRINGS w_SIOOBE_FORMATTER w_tCAP w_vCAP w_tRATE w_vRATE w_tBUDGET w_vBUDGET h0 n0 (own_old_le O0) ST O0) hZ (ww48 hw) (ww44 hw) (by decide) (by decide))
  obtain ⟨_, _, ⟨T1, L1, k1, n1⟩, -, X1, ⟨Lc1, hQ1, l1, y1, z1⟩, st1⟩ := Jvm.LawKit.callS X0 hx (y := y_13) hown (mvT hZ (ww46 hw)) (mvT hZ (ww47 hw)) (mvT hZ (ww44 hw)) (mvT hZ (ww48 hw)) (by decide) hK1 (g := (mkF m 0 #[.val .null, .unset, .unset, .unset, .unset] [])) rfl (by rw [hml]; rfl) (argsL := []) (rest := []) (lenOf pd_7 rfl) rfl (by show 2 * 0 + _ ≤ _; exact Nat.le_of_eq rfl) (hb hby d14_0) (fun _ _ => ⟨rfl, e0, (by decide : 0 + 1 ≤ _), (by decide : 0 + 3 ≤ _)⟩)
  dsimp only [Pt.U, Pt.locs, Pt.cells, Pt.slots] at X1 l1 y1 z1 st1 hQ1
  subst l1 y1 z1
  obtain ⟨b1, kv_1, rfl, N1q, K1q, Y1_0, Y1_1⟩ := hQ1
  have N1 := Fr.app N0 N1q
  obtain ⟨lc1, X1, N1⟩ := own_gen X1 N1
  have O1 := O0.keep K1q all0
  have K1 : Keep h0 T1.heap [] := K0.trans K1q all0
  have ge_b1 : n0 ≤ b1 := Nat.le_trans (own_old_le O0) Y1_0
  have sz_b1 : h0.size ≤ b1 := Nat.le_trans K0.1 Y1_0
  refine step (fun t k => st1 t k) ?_
  show G T1 (mkF m 3 #[.val .null, .unset, .unset, .unset, .unset] [(.ref b1)])
  refine step (fun t k => XS.astoreN X1.here hx rfl (hb hby d14_3) rfl rfl (l' := #[.val .null, .val (.ref b1), .unset, .unset, .unset]) rfl k) ?_
  show G T1 (mkF m 4 #[.val .null, .val (.ref b1), .unset, .unset, .unset] [])
  refine step (fun t k => XS.aloadN X1.here hx rfl (hb hby d14_4) rfl rfl k) ?_
  show G T1 (mkF m 5 #[.val .null, .val (.ref b1), .unset, .unset, .unset] [(.ref b1)])
  have q2 := own_len X1 hx hZ rfl Y1_1 (g := (mkF m 5 #[.val .null, .val (.ref b1), .unset, .unset, .unset] [(.ref b1)])) rfl rfl (hb hby d14_5)
  refine step q2 ?_
  show G T1 (mkF m 6 #[.val .null, .val (.ref b1), .unset, .unset, .unset] [(.int 3)])
  refine step (fun t k => XS.istoreN X1.here hx rfl (hb hby d14_6) rfl (l' := #[.val .null, .val (.ref b1), .val (.int 3), .unset, .unset]) rfl k) ?_
  show G T1 (mkF m 7 #[.val .null, .val (.ref b1), .val (.int 3), .unset, .unset] [])
  refine step (fun t k => XS.iconst X1.here hx rfl (hb hby d14_7) k) ?_
  show G T1 (mkF m 8 #[.val .null, .val (.ref b1), .val (.int 3), .unset, .unset] [(.int 0)])
  refine step (fun t k => XS.istoreN X1.here hx rfl (hb hby d14_8) rfl (l' := #[.val .null, .val (.ref b1), .val (.int 3), .val (.int 0), .unset]) rfl k) ?_
  show G T1 (mkF m 9 #[.val .null, .val (.ref b1), .val (.int 3), .val (.int 0), .unset] [])
  refine step (fun t k => XS.iloadN X1.here hx rfl (hb hby d14_9) rfl k) ?_
  show G T1 (mkF m 10 #[.val .null, .val (.ref b1), .val (.int 3), .val (.int 0), .unset] [(.int 0)])
  refine step (fun t k => XS.iloadN X1.here hx rfl (hb hby d14_10) rfl k) ?_
  show G T1 (mkF m 11 #[.val .null, .val (.ref b1), .val (.int 3), .val (.int 0), .unset] [(.int 3), (.int 0)])
  refine step (fun t k => XS.icmpNo X1.here hx rfl (hb hby d14_11) rfl (tlt (by decide : (0 : Int32) < (3 : Int32))).2.1 k) ?_
  show G T1 (mkF m 14 #[.val .null, .val (.ref b1), .val (.int 3), .val (.int 0), .unset] [])
  refine step (fun t k => XS.aloadN X1.here hx rfl (hb hby d14_14) rfl rfl k) ?_
  show G T1 (mkF m 15 #[.val .null, .val (.ref b1), .val (.int 3), .val (.int 0), .unset] [(.ref b1)])
  refine step (fun t k => XS.iloadN X1.here hx rfl (hb hby d14_15) rfl k) ?_
  show G T1 (mkF m 16 #[.val .null, .val (.ref b1), .val (.int 3), .val (.int 0), .unset] [(.int 0), (.ref b1)])
  have q3 := own_ldR X1 hx hZ rfl Y1_1 (j := (0 : Int32)) (v := (.ref w_CAP)) (by decide) (own_at (i := 0) rfl rfl) rfl (g := (mkF m 16 #[.val .null, .val (.ref b1), .val (.int 3), .val (.int 0), .unset] [(.int 0), (.ref b1)])) rfl rfl (hb hby d14_16)
  refine step q3 ?_
  show G T1 (mkF m 17 #[.val .null, .val (.ref b1), .val (.int 3), .val (.int 0), .unset] [(.ref w_CAP)])
  refine step (fun t k => XS.astore X1.here hx rfl (hb hby d14_17) rfl rfl (l' := #[.val .null, .val (.ref b1), .val (.int 3), .val (.int 0), .val (.ref w_CAP)]) rfl k) ?_
  show G T1 (mkF m 19 #[.val .null, .val (.ref b1), .val (.int 3), .val (.int 0), .val (.ref w_CAP)] [])
  refine step (fun t k => XS.aload X1.here hx rfl (hb hby d14_19) rfl rfl k) ?_
  show G T1 (mkF m 21 #[.val .null, .val (.ref b1), .val (.int 3), .val (.int 0), .val (.ref w_CAP)] [(.ref w_CAP)])
  obtain ⟨T4, X4, e4, st4⟩ := getF X1 hx hZ hown (host := "") (Or.inl (ww64 hw)) Via.refl rfl (Fld.ext O1.2 ST.k13) (g := (mkF m 21 #[.val .null, .val (.ref b1), .val (.int 3), .val (.int 0), .val (.ref w_CAP)] [(.ref w_CAP)])) rfl rfl (hb hby d14_21)
  refine step st4 ?_
  show G T4 (mkF m 24 #[.val .null, .val (.ref b1), .val (.int 3), .val (.int 0), .val (.ref w_CAP)] [(.ref w_tCAP)])
  refine step (fun t k => XS.aloadN X4.here hx rfl (hb hby d14_24) rfl rfl k) ?_
  show G T4 (mkF m 25 #[.val .null, .val (.ref b1), .val (.int 3), .val (.int 0), .val (.ref w_CAP)] [.null, (.ref w_tCAP)])
  have hK5 := (backOf (R := rr_nz) (p := p) (e := e) (below := below) (s := s) (args := #[.null]) (len := 3) (W := 0) (rm_en l Z a0 hw [] w_tCAP T1.heap n0 (own_old_le O1) O1) hZ (ww70 hw) (ww6 hw) (by decide) (by decide))
  obtain ⟨cq5, kq5, q5a, q5b, q5c⟩ := isOf hZ e4 (Exa.ext O1.2 ST.k12)
  obtain ⟨_, _, ⟨T5, L5, k5, n5⟩, -, X5, ⟨Lc5, hQ5, l5, y5, z5⟩, st5⟩ := X4.virtualBack hx (y := y_12) (z := y_12) hown (mvT hZ (ww66 hw)) (mvT hZ (ww67 hw)) (notFace_of_selects (args := #[]) (mvT hZ (ww69 hw))) (mvT hZ (ww69 hw)) (mvT hZ (ww68 hw)) (by decide) hK5 q5a q5c (g := (mkF m 25 #[.val .null, .val (.ref b1), .val (.int 3), .val (.int 0), .val (.ref w_CAP)] [.null, (.ref w_tCAP)])) rfl (by rw [hml]; rfl) (Steps.refl _) (argsL := [.null]) (rest := []) (lenOf pd_8 rfl) rfl (by show 2 * 0 + _ ≤ _; exact Nat.le_of_eq rfl) (hb hby d14_25) (fun _ _ => ⟨rfl, e4, (by decide : 1 + 0 ≤ _), (by decide : 3 + 0 ≤ _)⟩)
  dsimp only [Pt.U, Pt.locs, Pt.cells, Pt.slots] at X5 l5 y5 z5 st5 hQ5
  subst l5 y5 z5
  obtain ⟨rfl, N5q, e5⟩ := hQ5
  have N5 := Fr.app N1 N5q
  obtain ⟨lc5, X5, N5⟩ := own_gen X5 N5
  refine step (fun t k => st5.trans k) ?_
  show G T5 (mkF m 28 #[.val .null, .val (.ref b1), .val (.int 3), .val (.int 0), .val (.ref w_CAP)] [(.int (f_en w_tCAP))])
  have r6 : (f_en w_tCAP) = (0 : Int32) := rfl
  rw [r6]
  show G T5 (mkF m 28 #[.val .null, .val (.ref b1), .val (.int 3), .val (.int 0), .val (.ref w_CAP)] [(.int 0)])
  refine step (fun t k => XS.ifYes X5.here hx rfl (pc0 := 28) (pc' := 34) rfl (hb hby d14_28) rfl ((if0 _ _).trans (teq (by decide : (0 : Int32) = (0 : Int32))).1) (by decide) (by decide) k) ?_
  show G T5 (mkF m 34 #[.val .null, .val (.ref b1), .val (.int 3), .val (.int 0), .val (.ref w_CAP)] [])
  refine step (fun t k => XS.iinc X5.here hx rfl (hb hby d14_34) rfl (l' := #[.val .null, .val (.ref b1), .val (.int 3), .val (.int ((0 : Int32) + (1 : Int32))), .val (.ref w_CAP)]) rfl k) ?_
  show G T5 (mkF m 37 #[.val .null, .val (.ref b1), .val (.int 3), .val (.int ((0 : Int32) + (1 : Int32))), .val (.ref w_CAP)] [])
  rw [(by decide : ((0 : Int32) + (1 : Int32)) = (1 : Int32))]
  show G T5 (mkF m 37 #[.val .null, .val (.ref b1), .val (.int 3), .val (.int 1), .val (.ref w_CAP)] [])
  refine step (fun t k => XS.goto X5.here hx rfl (pc0 := 37) (pc' := 9) rfl (hb hby d14_37) (by decide) (by decide) k) ?_
  show G T5 (mkF m 9 #[.val .null, .val (.ref b1), .val (.int 3), .val (.int 1), .val (.ref w_CAP)] [])
  refine step (fun t k => XS.iloadN X5.here hx rfl (hb hby d14_9) rfl k) ?_
  show G T5 (mkF m 10 #[.val .null, .val (.ref b1), .val (.int 3), .val (.int 1), .val (.ref w_CAP)] [(.int 1)])
  refine step (fun t k => XS.iloadN X5.here hx rfl (hb hby d14_10) rfl k) ?_
  show G T5 (mkF m 11 #[.val .null, .val (.ref b1), .val (.int 3), .val (.int 1), .val (.ref w_CAP)] [(.int 3), (.int 1)])
  refine step (fun t k => XS.icmpNo X5.here hx rfl (hb hby d14_11) rfl (tlt (by decide : (1 : Int32) < (3 : Int32))).2.1 k) ?_
  show G T5 (mkF m 14 #[.val .null, .val (.ref b1), .val (.int 3), .val (.int 1), .val (.ref w_CAP)] [])
  refine step (fun t k => XS.aloadN X5.here hx rfl (hb hby d14_14) rfl rfl k) ?_
  show G T5 (mkF m 15 #[.val .null, .val (.ref b1), .val (.int 3), .val (.int 1), .val (.ref w_CAP)] [(.ref b1)])
  refine step (fun t k => XS.iloadN X5.here hx rfl (hb hby d14_15) rfl k) ?_
  show G T5 (mkF m 16 #[.val .null, .val (.ref b1), .val (.int 3), .val (.int 1), .val (.ref w_CAP)] [(.int 1), (.ref b1)])
  have q7 := own_ldR X5 hx hZ e5 Y1_1 (j := (1 : Int32)) (v := (.ref w_RATE)) (by decide) (own_at (i := 1) rfl rfl) rfl (g := (mkF m 16 #[.val .null, .val (.ref b1), .val (.int 3), .val (.int 1), .val (.ref w_CAP)] [(.int 1), (.ref b1)])) rfl rfl (hb hby d14_16)
  refine step q7 ?_
  show G T5 (mkF m 17 #[.val .null, .val (.ref b1), .val (.int 3), .val (.int 1), .val (.ref w_CAP)] [(.ref w_RATE)])
  refine step (fun t k => XS.astore X5.here hx rfl (hb hby d14_17) rfl rfl (l' := #[.val .null, .val (.ref b1), .val (.int 3), .val (.int 1), .val (.ref w_RATE)]) rfl k) ?_
  show G T5 (mkF m 19 #[.val .null, .val (.ref b1), .val (.int 3), .val (.int 1), .val (.ref w_RATE)] [])
  refine step (fun t k => XS.aload X5.here hx rfl (hb hby d14_19) rfl rfl k) ?_
  show G T5 (mkF m 21 #[.val .null, .val (.ref b1), .val (.int 3), .val (.int 1), .val (.ref w_RATE)] [(.ref w_RATE)])
  obtain ⟨T8, X8, e8, st8⟩ := getF X5 hx hZ hown (host := "") (Or.inl (ww64 hw)) Via.refl e5 (Fld.ext O1.2 ST.k18) (g := (mkF m 21 #[.val .null, .val (.ref b1), .val (.int 3), .val (.int 1), .val (.ref w_RATE)] [(.ref w_RATE)])) rfl rfl (hb hby d14_21)
  refine step st8 ?_
  show G T8 (mkF m 24 #[.val .null, .val (.ref b1), .val (.int 3), .val (.int 1), .val (.ref w_RATE)] [(.ref w_tRATE)])
  refine step (fun t k => XS.aloadN X8.here hx rfl (hb hby d14_24) rfl rfl k) ?_
  show G T8 (mkF m 25 #[.val .null, .val (.ref b1), .val (.int 3), .val (.int 1), .val (.ref w_RATE)] [.null, (.ref w_tRATE)])
  have hK9 := (backOf (R := rr_nz) (p := p) (e := e) (below := below) (s := s) (args := #[.null]) (len := 3) (W := 0) (rm_en l Z a0 hw [] w_tRATE T1.heap n0 (own_old_le O1) O1) hZ (ww70 hw) (ww6 hw) (by decide) (by decide))
  obtain ⟨cq9, kq9, q9a, q9b, q9c⟩ := isOf hZ e8 (Exa.ext O1.2 ST.k17)
  obtain ⟨_, _, ⟨T9, L9, k9, n9⟩, -, X9, ⟨Lc9, hQ9, l9, y9, z9⟩, st9⟩ := X8.virtualBack hx (y := y_12) (z := y_12) hown (mvT hZ (ww66 hw)) (mvT hZ (ww67 hw)) (notFace_of_selects (args := #[]) (mvT hZ (ww69 hw))) (mvT hZ (ww69 hw)) (mvT hZ (ww68 hw)) (by decide) hK9 q9a q9c (g := (mkF m 25 #[.val .null, .val (.ref b1), .val (.int 3), .val (.int 1), .val (.ref w_RATE)] [.null, (.ref w_tRATE)])) rfl (by rw [hml]; rfl) (Steps.refl _) (argsL := [.null]) (rest := []) (lenOf pd_8 rfl) rfl (by show 2 * 0 + _ ≤ _; exact Nat.le_of_eq rfl) (hb hby d14_25) (fun _ _ => ⟨rfl, e8, (by decide : 1 + 0 ≤ _), (by decide : 3 + 0 ≤ _)⟩)
  dsimp only [Pt.U, Pt.locs, Pt.cells, Pt.slots] at X9 l9 y9 z9 st9 hQ9
  subst l9 y9 z9
  obtain ⟨rfl, N9q, e9⟩ := hQ9
  have N9 := Fr.app N5 N9q
  obtain ⟨lc9, X9, N9⟩ := own_gen X9 N9
  refine step (fun t k => st9.trans k) ?_
  show G T9 (mkF m 28 #[.val .null, .val (.ref b1), .val (.int 3), .val (.int 1), .val (.ref w_RATE)] [(.int (f_en w_tRATE))])
  have r10 : (f_en w_tRATE) = (0 : Int32) := rfl
  rw [r10]
  show G T9 (mkF m 28 #[.val .null, .val (.ref b1), .val (.int 3), .val (.int 1), .val (.ref w_RATE)] [(.int 0)])
  refine step (fun t k => XS.ifYes X9.here hx rfl (pc0 := 28) (pc' := 34) rfl (hb hby d14_28) rfl ((if0 _ _).trans (teq (by decide : (0 : Int32) = (0 : Int32))).1) (by decide) (by decide) k) ?_
  show G T9 (mkF m 34 #[.val .null, .val (.ref b1), .val (.int 3), .val (.int 1), .val (.ref w_RATE)] [])
  refine step (fun t k => XS.iinc X9.here hx rfl (hb hby d14_34) rfl (l' := #[.val .null, .val (.ref b1), .val (.int 3), .val (.int ((1 : Int32) + (1 : Int32))), .val (.ref w_RATE)]) rfl k) ?_
  show G T9 (mkF m 37 #[.val .null, .val (.ref b1), .val (.int 3), .val (.int ((1 : Int32) + (1 : Int32))), .val (.ref w_RATE)] [])
  rw [(by decide : ((1 : Int32) + (1 : Int32)) = (2 : Int32))]
  show G T9 (mkF m 37 #[.val .null, .val (.ref b1), .val (.int 3), .val (.int 2), .val (.ref w_RATE)] [])
  refine step (fun t k => XS.goto X9.here hx rfl (pc0 := 37) (pc' := 9) rfl (hb hby d14_37) (by decide) (by decide) k) ?_
  show G T9 (mkF m 9 #[.val .null, .val (.ref b1), .val (.int 3), .val (.int 2), .val (.ref w_RATE)] [])
  refine step (fun t k => XS.iloadN X9.here hx rfl (hb hby d14_9) rfl k) ?_
  show G T9 (mkF m 10 #[.val .null, .val (.ref b1), .val (.int 3), .val (.int 2), .val (.ref w_RATE)] [(.int 2)])
  refine step (fun t k => XS.iloadN X9.here hx rfl (hb hby d14_10) rfl k) ?_
  show G T9 (mkF m 11 #[.val .null, .val (.ref b1), .val (.int 3), .val (.int 2), .val (.ref w_RATE)] [(.int 3), (.int 2)])
  refine step (fun t k => XS.icmpNo X9.here hx rfl (hb hby d14_11) rfl (tlt (by decide : (2 : Int32) < (3 : Int32))).2.1 k) ?_
  show G T9 (mkF m 14 #[.val .null, .val (.ref b1), .val (.int 3), .val (.int 2), .val (.ref w_RATE)] [])
  refine step (fun t k => XS.aloadN X9.here hx rfl (hb hby d14_14) rfl rfl k) ?_
  show G T9 (mkF m 15 #[.val .null, .val (.ref b1), .val (.int 3), .val (.int 2), .val (.ref w_RATE)] [(.ref b1)])
  refine step (fun t k => XS.iloadN X9.here hx rfl (hb hby d14_15) rfl k) ?_
  show G T9 (mkF m 16 #[.val .null, .val (.ref b1), .val (.int 3), .val (.int 2), .val (.ref w_RATE)] [(.int 2), (.ref b1)])
  have q11 := own_ldR X9 hx hZ e9 Y1_1 (j := (2 : Int32)) (v := (.ref w_BUDGET)) (by decide) (own_at (i := 2) rfl rfl) rfl (g := (mkF m 16 #[.val .null, .val (.ref b1), .val (.int 3), .val (.int 2), .val (.ref w_RATE)] [(.int 2), (.ref b1)])) rfl rfl (hb hby d14_16)
  refine step q11 ?_
  show G T9 (mkF m 17 #[.val .null, .val (.ref b1), .val (.int 3), .val (.int 2), .val (.ref w_RATE)] [(.ref w_BUDGET)])
  refine step (fun t k => XS.astore X9.here hx rfl (hb hby d14_17) rfl rfl (l' := #[.val .null, .val (.ref b1), .val (.int 3), .val (.int 2), .val (.ref w_BUDGET)]) rfl k) ?_
  show G T9 (mkF m 19 #[.val .null, .val (.ref b1), .val (.int 3), .val (.int 2), .val (.ref w_BUDGET)] [])
  refine step (fun t k => XS.aload X9.here hx rfl (hb hby d14_19) rfl rfl k) ?_
  show G T9 (mkF m 21 #[.val .null, .val (.ref b1), .val (.int 3), .val (.int 2), .val (.ref w_BUDGET)] [(.ref w_BUDGET)])
  obtain ⟨T12, X12, e12, st12⟩ := getF X9 hx hZ hown (host := "") (Or.inl (ww64 hw)) Via.refl e9 (Fld.ext O1.2 ST.k23) (g := (mkF m 21 #[.val .null, .val (.ref b1), .val (.int 3), .val (.int 2), .val (.ref w_BUDGET)] [(.ref w_BUDGET)])) rfl rfl (hb hby d14_21)
  refine step st12 ?_
  show G T12 (mkF m 24 #[.val .null, .val (.ref b1), .val (.int 3), .val (.int 2), .val (.ref w_BUDGET)] [(.ref w_tBUDGET)])
  refine step (fun t k => XS.aloadN X12.here hx rfl (hb hby d14_24) rfl rfl k) ?_
  show G T12 (mkF m 25 #[.val .null, .val (.ref b1), .val (.int 3), .val (.int 2), .val (.ref w_BUDGET)] [.null, (.ref w_tBUDGET)])
  have hK13 := (backOf (R := rr_nz) (p := p) (e := e) (below := below) (s := s) (args := #[.null]) (len := 3) (W := 0) (rm_en l Z a0 hw [] w_tBUDGET T1.heap n0 (own_old_le O1) O1) hZ (ww70 hw) (ww6 hw) (by decide) (by decide))
  obtain ⟨cq13, kq13, q13a, q13b, q13c⟩ := isOf hZ e12 (Exa.ext O1.2 ST.k22)
  obtain ⟨_, _, ⟨T13, L13, k13, n13⟩, -, X13, ⟨Lc13, hQ13, l13, y13, z13⟩, st13⟩ := X12.virtualBack hx (y := y_12) (z := y_12) hown (mvT hZ (ww66 hw)) (mvT hZ (ww67 hw)) (notFace_of_selects (args := #[]) (mvT hZ (ww69 hw))) (mvT hZ (ww69 hw)) (mvT hZ (ww68 hw)) (by decide) hK13 q13a q13c (g := (mkF m 25 #[.val .null, .val (.ref b1), .val (.int 3), .val (.int 2), .val (.ref w_BUDGET)] [.null, (.ref w_tBUDGET)])) rfl (by rw [hml]; rfl) (Steps.refl _) (argsL := [.null]) (rest := []) (lenOf pd_8 rfl) rfl (by show 2 * 0 + _ ≤ _; exact Nat.le_of_eq rfl) (hb hby d14_25) (fun _ _ => ⟨rfl, e12, (by decide : 1 + 0 ≤ _), (by decide : 3 + 0 ≤ _)⟩)
  dsimp only [Pt.U, Pt.locs, Pt.cells, Pt.slots] at X13 l13 y13 z13 st13 hQ13
  subst l13 y13 z13
  obtain ⟨rfl, N13q, e13⟩ := hQ13
  have N13 := Fr.app N9 N13q
  obtain ⟨lc13, X13, N13⟩ := own_gen X13 N13
  refine step (fun t k => st13.trans k) ?_
  show G T13 (mkF m 28 #[.val .null, .val (.ref b1), .val (.int 3), .val (.int 2), .val (.ref w_BUDGET)] [(.int (f_en w_tBUDGET))])
  have r14 : (f_en w_tBUDGET) = (0 : Int32) := rfl
  rw [r14]
  show G T13 (mkF m 28 #[.val .null, .val (.ref b1), .val (.int 3), .val (.int 2), .val (.ref w_BUDGET)] [(.int 0)])
  refine step (fun t k => XS.ifYes X13.here hx rfl (pc0 := 28) (pc' := 34) rfl (hb hby d14_28) rfl ((if0 _ _).trans (teq (by decide : (0 : Int32) = (0 : Int32))).1) (by decide) (by decide) k) ?_
  show G T13 (mkF m 34 #[.val .null, .val (.ref b1), .val (.int 3), .val (.int 2), .val (.ref w_BUDGET)] [])
  refine step (fun t k => XS.iinc X13.here hx rfl (hb hby d14_34) rfl (l' := #[.val .null, .val (.ref b1), .val (.int 3), .val (.int ((2 : Int32) + (1 : Int32))), .val (.ref w_BUDGET)]) rfl k) ?_
  show G T13 (mkF m 37 #[.val .null, .val (.ref b1), .val (.int 3), .val (.int ((2 : Int32) + (1 : Int32))), .val (.ref w_BUDGET)] [])
  rw [(by decide : ((2 : Int32) + (1 : Int32)) = (3 : Int32))]
  show G T13 (mkF m 37 #[.val .null, .val (.ref b1), .val (.int 3), .val (.int 3), .val (.ref w_BUDGET)] [])
  refine step (fun t k => XS.goto X13.here hx rfl (pc0 := 37) (pc' := 9) rfl (hb hby d14_37) (by decide) (by decide) k) ?_
  show G T13 (mkF m 9 #[.val .null, .val (.ref b1), .val (.int 3), .val (.int 3), .val (.ref w_BUDGET)] [])
  refine step (fun t k => XS.iloadN X13.here hx rfl (hb hby d14_9) rfl k) ?_
  show G T13 (mkF m 10 #[.val .null, .val (.ref b1), .val (.int 3), .val (.int 3), .val (.ref w_BUDGET)] [(.int 3)])
  refine step (fun t k => XS.iloadN X13.here hx rfl (hb hby d14_10) rfl k) ?_
  show G T13 (mkF m 11 #[.val .null, .val (.ref b1), .val (.int 3), .val (.int 3), .val (.ref w_BUDGET)] [(.int 3), (.int 3)])
  refine step (fun t k => XS.icmpYes X13.here hx rfl (pc0 := 11) (pc' := 40) rfl (hb hby d14_11) rfl (flt (by decide : ¬ ((3 : Int32) < (3 : Int32)))).2.1 (by decide) (by decide) k) ?_
  show G T13 (mkF m 40 #[.val .null, .val (.ref b1), .val (.int 3), .val (.int 3), .val (.ref w_BUDGET)] [])
  refine step (fun t k => XS.aconstNull X13.here hx rfl (hb hby d14_40) k) ?_
  show G T13 (mkF m 41 #[.val .null, .val (.ref b1), .val (.int 3), .val (.int 3), .val (.ref w_BUDGET)] [.null])
  exact ret (v := some .null) X13 (fun h => by rw [Bd.returns] at h; cases h) (fun fs hr => retA X13 hx Bd.returns rfl rfl (hb hby d14_41) hr) e13 ⟨rfl, N13, K1⟩ (by decide) (by decide)
theorem d15_0 : decode method_4_code 0 = .ok (.ldc 7, 2) := by decide +kernel
theorem d15_2 : decode method_4_code 2 = .ok (.aload_n 0, 1) := by decide +kernel
theorem d15_3 : decode method_4_code 3 = .ok (.invokevirtual 21, 3) := by decide +kernel
theorem ww79 {Z : State} {a0 : Array Value} (hw : ∀ d ∈ tables_1, d.before a0 Z = true) : Jvm.Cond.before (Jvm.Cond.methodLink cn_1 (21 : Nat) ({ cls := cn_2, name := "equals", desc := cn_10 } : Jvm.MethodName)) a0 Z = true := hw _ (List.mem_of_getElem? (i := 79) rfl)
theorem d15_6 : decode method_4_code 6 = .ok (.ifCond .eq 7, 3) := by decide +kernel
theorem d15_9 : decode method_4_code 9 = .ok (.getstatic 25, 3) := by decide +kernel
theorem ww119 {Z : State} {a0 : Array Value} (hw : ∀ d ∈ tables_1, d.before a0 Z = true) : Jvm.Cond.before (Jvm.Cond.fieldLink cn_1 (25 : Nat) cn_0 "CAP" cn_5) a0 Z = true := hw _ (List.mem_of_getElem? (i := 119) rfl)
theorem d15_12 : decode method_4_code 12 = .ok (.areturn, 1) := by decide +kernel
theorem d15_13 : decode method_4_code 13 = .ok (.ldc 9, 2) := by decide +kernel
theorem d15_15 : decode method_4_code 15 = .ok (.aload_n 0, 1) := by decide +kernel
theorem d15_16 : decode method_4_code 16 = .ok (.invokevirtual 21, 3) := by decide +kernel
theorem d15_19 : decode method_4_code 19 = .ok (.ifCond .eq 7, 3) := by decide +kernel
theorem d15_22 : decode method_4_code 22 = .ok (.getstatic 31, 3) := by decide +kernel
theorem ww120 {Z : State} {a0 : Array Value} (hw : ∀ d ∈ tables_1, d.before a0 Z = true) : Jvm.Cond.before (Jvm.Cond.fieldLink cn_1 (31 : Nat) cn_0 "RATE" cn_5) a0 Z = true := hw _ (List.mem_of_getElem? (i := 120) rfl)
theorem d15_25 : decode method_4_code 25 = .ok (.areturn, 1) := by decide +kernel
theorem d15_26 : decode method_4_code 26 = .ok (.ldc 11, 2) := by decide +kernel
theorem d15_28 : decode method_4_code 28 = .ok (.aload_n 0, 1) := by decide +kernel
theorem d15_29 : decode method_4_code 29 = .ok (.invokevirtual 21, 3) := by decide +kernel
theorem d15_32 : decode method_4_code 32 = .ok (.ifCond .eq 7, 3) := by decide +kernel
theorem d15_35 : decode method_4_code 35 = .ok (.getstatic 34, 3) := by decide +kernel
theorem ww118 {Z : State} {a0 : Array Value} (hw : ∀ d ∈ tables_1, d.before a0 Z = true) : Jvm.Cond.before (Jvm.Cond.fieldLink cn_1 (34 : Nat) cn_0 "BUDGET" cn_5) a0 Z = true := hw _ (List.mem_of_getElem? (i := 118) rfl)
theorem d15_38 : decode method_4_code 38 = .ok (.areturn, 1) := by decide +kernel
theorem d15_39 : decode method_4_code 39 = .ok (.aconst_null, 1) := by decide +kernel
theorem d15_40 : decode method_4_code 40 = .ok (.areturn, 1) := by decide +kernel
abbrev rr_ex : Room := { frames := 2, cells := 6, slots := 64, locals := 28 }
abbrev y_15 : MethodName := ⟨cn_1, "expected", cn_4⟩
theorem ef_ex (m : MethodId) (o0 : Addr) : entryFrame m #[(.ref o0)] 1 = mkF m 0 #[.val (.ref o0)] [] := by first | (simp [entryFrame, mkF, argsToLocals, Value.category]; done) | rfl
def Q_ex (Z : State) (w__VALUES : Addr) (w_CAP : Addr) (w_RATE : Addr) (w_BUDGET : Addr) (w_COMPACT_STRINGS : Int32) (w_SIOOBE_FORMATTER : Value) (w_tCAP : Addr) (w_vCAP : Addr) (w_tRATE : Addr) (w_vRATE : Addr) (w_tBUDGET : Addr) (w_vBUDGET : Addr) (o0 : Addr) (t : Addr) (kk : ClassId) (n : Int32) (vs : List Value) (cx : List Int32) (h0 : Heap) (n0 : Nat) (v : Option Value) (h : Heap) (L : List Loc) : Prop := ∃ r : Value, v = some r ∧ Fr n0 L ∧ Keep h0 h [] ∧ own_pk w_CAP w_RATE w_BUDGET cx r
set_option maxRecDepth 65536 in
set_option maxHeartbeats 40000000 in
theorem rm_ex (l : Launch) (Z : State) (a0 : Array Value) (hw : ∀ d ∈ tables_1, d.before a0 Z = true) (ws : List Jvm.Cond) (w__VALUES : Addr) (w_CAP : Addr) (w_RATE : Addr) (w_BUDGET : Addr) (w_COMPACT_STRINGS : Int32) (w_SIOOBE_FORMATTER : Value) (w_tCAP : Addr) (w_vCAP : Addr) (w_tRATE : Addr) (w_vRATE : Addr) (w_tBUDGET : Addr) (w_vBUDGET : Addr) (o0 : Addr) (t : Addr) (kk : ClassId) (n : Int32) (vs : List Value) (cx : List Int32) (h0 : Heap) (n0 : Nat) (Z0 : n0 ≤ h0.size) (ST : own_St Z w__VALUES w_CAP w_RATE w_BUDGET w_COMPACT_STRINGS w_SIOOBE_FORMATTER w_tCAP w_vCAP w_tRATE w_vRATE w_tBUDGET w_vBUDGET) (O0 : Old Z n0 h0) (Es : Exa Z h0 o0 cn_2) (Fv : Fld Z h0 o0 cn_2 "value" "[B" (.ref t)) (Fc : Fld Z h0 o0 cn_2 "coder" "B" (.int 0)) (Va : Arv Z h0 t kk .byte n vs (.int 0)) (hs : own_sp cx n vs) :
    MetFree l y_15 (head1 (Jvm.Cond.code y_15 method_4_code 1 (some (.object cn_0)) :: ws) rr_ex) (fun a U => a = #[(.ref o0)] ∧ Z.Warmed39 U.vm ∧ U.heap = h0 ∧ CHv Z own_EL U.vm h0) (fun _ _ _ _ _ => True) (fun _ U o U' => ∃ v L, o = .returned v ∧ Q_ex Z w__VALUES w_CAP w_RATE w_BUDGET w_COMPACT_STRINGS w_SIOOBE_FORMATTER w_tCAP w_vCAP w_tRATE w_vRATE w_tBUDGET w_vBUDGET o0 t kk n vs cx h0 n0 v U'.heap L ∧ CHr Z own_EL U.vm U.heap U'.vm U'.heap ∧ ReturnedEndW U o U' L rr_ex.cells rr_ex.slots) := by
  refine MetFree.of_bodySF (plainFor_of_name pn_3) hisR ?_
  intro p e s m args below meth c s₁ Bd hml0 hP hK
  obtain ⟨rfl, hZ, hh, hC⟩ := hP
  have hx := Bd.exec
  have hby := Bd.bytes
  have hml : c.maxLocals = 1 := hml0
  have hown : s.vm.findClass cn_1 = some m.cls := findClass_of_methodNamed Bd.named
  have hnm := (name_of_methodNamed Bd.named Bd.method).1
  have X0 : Stand p l e rr_ex (s.setVm s.vm) m #[(.ref o0)] below meth c s₁ [] 0 0 := Stand.of_body Bd
  have e0 : s₁.heap = h0 := by rw [← hh, Bd.state]; rfl
  have N0 := Fr.nil n0
  replace hZ : Z.Warmed39 (s.setVm s.vm).vm := hZ
  replace hown : (s.setVm s.vm).vm.findClass cn_1 = some m.cls := hown
  have hS : s.Since s.vm h0.size := (State.WarmedH.refl s).since _
  have hk0 : h0.size ≤ h0.size := Nat.le_refl _
  have C0 : CHr Z own_EL s.vm h0 s.vm h0 := CHr.refl hC
  have K0 : Keep h0 h0 [] := Keep.refl _ _
  obtain ⟨G, step, ret, fin⟩ := own_openH (p := p) (l := l) (e := e) (R := rr_ex) (s := s) (m := m) (args := #[(.ref o0)]) (below := below) (meth := meth) (c := c) (rr_ex.cells) (rr_ex.slots) (Q_ex Z w__VALUES w_CAP w_RATE w_BUDGET w_COMPACT_STRINGS w_SIOOBE_FORMATTER w_tCAP w_vCAP w_tRATE w_vRATE w_tBUDGET w_vBUDGET o0 t kk n vs cx h0 n0) (own_EW hw) hh Bd.notSynchronized
  refine fin (g := entryFrame m #[(.ref o0)] 1) ?_
  rw [ef_ex m o0]
  have ne_o0_t : o0 ≠ t := own_ne_arv Es (ww7 hw) Va
  show G s₁ (mkF m 0 #[.val (.ref o0)] [])
  obtain ⟨b1, T1, h1, k1, t1, kk1, X1, e1, E1, hS, hk1, hZ, hown, Ex1, Fc1, Fv1, Va1, -, -, hC1, -, hne1, st1⟩ := ldcCH (s := s) X0 hx hZ hown (ww5 hw) (own_wS hw) e0 hS hk0 (own_EW hw) (List.mem_of_getElem? (i := 0) rfl) C0.1 own_eC (z := (3 : Int32)) (by decide) rfl (g := (mkF m 0 #[.val (.ref o0)] [])) rfl (hb hby d15_0) (n := 12) (by decide +kernel) (by decide) (by decide) (by decide)
  have cz1 : CHr Z own_EL s.vm h0 T1.vm h1 := hC1
  have C1 : CHr Z own_EL s.vm h0 T1.vm h1 := C0.trans cz1
  have O1 := O0.ext E1
  have K1 : Keep h0 h1 [] := K0.ext E1
  refine step st1 ?_
  show G T1 (mkF m 2 #[.val (.ref o0)] [(.ref b1)])
  refine step (fun t k => XS.aloadN X1.here hx rfl (hb hby d15_2) rfl rfl k) ?_
  show G T1 (mkF m 3 #[.val (.ref o0)] [(.ref o0), (.ref b1)])
  have f3 := (Exa.ext E1 Es)
  have f4 := (Fld.ext E1 Fv)
  have f5 := (Fld.ext E1 Fc)
  have f6 := (Va.ext E1)
  have hK2 := (StrChars.Road.eqW (l := l) (R := rr_ex) (p := p) (e := e) (below := below) (args := #[(.ref o0)]) (len := 3) (W := 0) hZ (own_hwE hw) (kI := 4) (ww7 hw) (cs := [(99 : Int32), (97 : Int32), (112 : Int32)]) Ex1 Fv1 Fc1 Va1 own_spC.1 own_spC.2.1 own_spC.2.2 (ds := cx) f3 f4 f5 f6 hs.1 hs.2.1 hs.2.2 (Sta.ext O1.2 ST.k8) ST.k11 (by decide) (by decide))
  obtain ⟨cq2, kq2, q2a, q2b, q2c⟩ := isOf hZ e1 Ex1
  obtain ⟨_, _, ⟨T2, L2, k2, n2⟩, -, X2, ⟨Lc2, hQ2, l2, y2, z2⟩, st2⟩ := X1.virtualBack hx (y := y_12) (z := y_12) hown (mvT hZ (ww79 hw)) (mvT hZ (ww67 hw)) (notFace_of_selects (args := #[]) (mvT hZ (ww69 hw))) (mvT hZ (ww69 hw)) (mvT hZ (ww68 hw)) (by decide) hK2 q2a q2c (g := (mkF m 3 #[.val (.ref o0)] [(.ref o0), (.ref b1)])) rfl (by rw [hml]; rfl) (Steps.refl _) (argsL := [(.ref o0)]) (rest := []) (lenOf pd_8 rfl) rfl (by show 2 * 0 + _ ≤ _; exact Nat.le_of_eq rfl) (hb hby d15_3) (fun _ _ => ⟨rfl, e1, (by decide : 2 + 0 ≤ _), (by decide : 16 + 0 ≤ _)⟩)
  dsimp only [Pt.U, Pt.locs, Pt.cells, Pt.slots] at X2 l2 y2 z2 st2 hQ2
  subst l2 y2 z2
  obtain ⟨hq2, rfl, e2⟩ := hQ2
  try rw [List.append_nil] at X2
  rcases hq2 with ⟨rfl, hq2⟩ | ⟨rfl, hq2⟩
  · skip
    refine step (fun t k => st2.trans k) ?_
    show G T2 (mkF m 6 #[.val (.ref o0)] [(.int 1)])
    refine step (fun t k => XS.ifNo X2.here hx rfl (hb hby d15_6) rfl ((if0 _ _).trans (feq (by decide : ¬ ((1 : Int32) = (0 : Int32)))).1) k) ?_
    show G T2 (mkF m 9 #[.val (.ref o0)] [])
    obtain ⟨T7, X7, e7, st7⟩ := getS2 X2 hx hZ hown (host := "") (Or.inl (ww119 hw)) Via.refl e2 (Sta.ext O1.2 ST.k2) (g := (mkF m 9 #[.val (.ref o0)] [])) rfl (hb hby d15_9)
    refine step st7 ?_
    show G T7 (mkF m 12 #[.val (.ref o0)] [(.ref w_CAP)])
    exact ret (v := some (.ref w_CAP)) X7 hS hk1 C1 hZ (fun h => by rw [Bd.returns] at h; cases h) (fun fs hr => retA X7 hx Bd.returns rfl rfl (hb hby d15_12) hr) e7 ⟨(.ref w_CAP), rfl, N0, K1, (Or.inl ⟨hq2, rfl⟩)⟩ (by decide) (by decide)
  · skip
    refine step (fun t k => st2.trans k) ?_
    show G T2 (mkF m 6 #[.val (.ref o0)] [(.int 0)])
    refine step (fun t k => XS.ifYes X2.here hx rfl (pc0 := 6) (pc' := 13) rfl (hb hby d15_6) rfl ((if0 _ _).trans (teq (by decide : (0 : Int32) = (0 : Int32))).1) (by decide) (by decide) k) ?_
    show G T2 (mkF m 13 #[.val (.ref o0)] [])
    obtain ⟨b8, T8, h8, k8, t8, kk8, X8, e8, E8, hS, hk8, hZ, hown, Ex8, Fc8, Fv8, Va8, -, -, hC8, -, hne8, st8⟩ := ldcCH (s := s) X2 hx hZ hown (ww80 hw) (own_wS hw) e2 hS hk1 (own_EW hw) (List.mem_of_getElem? (i := 1) rfl) C1.1 own_eR (z := (4 : Int32)) (by decide) rfl (g := (mkF m 13 #[.val (.ref o0)] [])) rfl (hb hby d15_13) (n := 16) (by decide +kernel) (by decide) (by decide) (by decide)
    have cz8 : CHr Z own_EL T1.vm h1 T8.vm h8 := hC8
    have C8 : CHr Z own_EL s.vm h0 T8.vm h8 := C1.trans cz8
    have O8 := O1.ext E8
    have K8 : Keep h0 h8 [] := K1.ext E8
    refine step st8 ?_
    show G T8 (mkF m 15 #[.val (.ref o0)] [(.ref b8)])
    refine step (fun t k => XS.aloadN X8.here hx rfl (hb hby d15_15) rfl rfl k) ?_
    show G T8 (mkF m 16 #[.val (.ref o0)] [(.ref o0), (.ref b8)])
    have f10 := (Exa.ext E8 f3)
    have f11 := (Fld.ext E8 f4)
    have f12 := (Fld.ext E8 f5)
    have f13 := (f6.ext E8)
    have hK9 := (StrChars.Road.eqW (l := l) (R := rr_ex) (p := p) (e := e) (below := below) (args := #[(.ref o0)]) (len := 3) (W := 0) hZ (own_hwE hw) (kI := 4) (ww7 hw) (cs := [(114 : Int32), (97 : Int32), (116 : Int32), (101 : Int32)]) Ex8 Fv8 Fc8 Va8 own_spR.1 own_spR.2.1 own_spR.2.2 (ds := cx) f10 f11 f12 f13 hs.1 hs.2.1 hs.2.2 (Sta.ext O8.2 ST.k8) ST.k11 (by decide) (by decide))
    obtain ⟨cq9, kq9, q9a, q9b, q9c⟩ := isOf hZ e8 Ex8
    obtain ⟨_, _, ⟨T9, L9, k9, n9⟩, -, X9, ⟨Lc9, hQ9, l9, y9, z9⟩, st9⟩ := X8.virtualBack hx (y := y_12) (z := y_12) hown (mvT hZ (ww79 hw)) (mvT hZ (ww67 hw)) (notFace_of_selects (args := #[]) (mvT hZ (ww69 hw))) (mvT hZ (ww69 hw)) (mvT hZ (ww68 hw)) (by decide) hK9 q9a q9c (g := (mkF m 16 #[.val (.ref o0)] [(.ref o0), (.ref b8)])) rfl (by rw [hml]; rfl) (Steps.refl _) (argsL := [(.ref o0)]) (rest := []) (lenOf pd_8 rfl) rfl (by show 2 * 0 + _ ≤ _; exact Nat.le_of_eq rfl) (hb hby d15_16) (fun _ _ => ⟨rfl, e8, (by decide : 4 + 0 ≤ _), (by decide : 36 + 0 ≤ _)⟩)
    dsimp only [Pt.U, Pt.locs, Pt.cells, Pt.slots] at X9 l9 y9 z9 st9 hQ9
    subst l9 y9 z9
    obtain ⟨hq9, rfl, e9⟩ := hQ9
    try rw [List.append_nil] at X9
    rcases hq9 with ⟨rfl, hq9⟩ | ⟨rfl, hq9⟩
    · skip
      refine step (fun t k => st9.trans k) ?_
      show G T9 (mkF m 19 #[.val (.ref o0)] [(.int 1)])
      refine step (fun t k => XS.ifNo X9.here hx rfl (hb hby d15_19) rfl ((if0 _ _).trans (feq (by decide : ¬ ((1 : Int32) = (0 : Int32)))).1) k) ?_
      show G T9 (mkF m 22 #[.val (.ref o0)] [])
      obtain ⟨T14, X14, e14, st14⟩ := getS2 X9 hx hZ hown (host := "") (Or.inl (ww120 hw)) Via.refl e9 (Sta.ext O8.2 ST.k4) (g := (mkF m 22 #[.val (.ref o0)] [])) rfl (hb hby d15_22)
      refine step st14 ?_
      show G T14 (mkF m 25 #[.val (.ref o0)] [(.ref w_RATE)])
      exact ret (v := some (.ref w_RATE)) X14 hS hk8 C8 hZ (fun h => by rw [Bd.returns] at h; cases h) (fun fs hr => retA X14 hx Bd.returns rfl rfl (hb hby d15_25) hr) e14 ⟨(.ref w_RATE), rfl, N0, K8, (Or.inr (Or.inl ⟨hq9, rfl⟩))⟩ (by decide) (by decide)
    · skip
      refine step (fun t k => st9.trans k) ?_
      show G T9 (mkF m 19 #[.val (.ref o0)] [(.int 0)])
      refine step (fun t k => XS.ifYes X9.here hx rfl (pc0 := 19) (pc' := 26) rfl (hb hby d15_19) rfl ((if0 _ _).trans (teq (by decide : (0 : Int32) = (0 : Int32))).1) (by decide) (by decide) k) ?_
      show G T9 (mkF m 26 #[.val (.ref o0)] [])
      have f16 := (Exa.ext E8 Ex1)
      have f17 := (Va1.ext E8)
      obtain ⟨b15, T15, h15, k15, t15, kk15, X15, e15, E15, hS, hk15, hZ, hown, Ex15, Fc15, Fv15, Va15, -, -, hC15, -, hne15, st15⟩ := ldcCH (s := s) X9 hx hZ hown (ww81 hw) (own_wS hw) e9 hS hk8 (own_EW hw) (List.mem_of_getElem? (i := 2) rfl) C8.1 own_eB (z := (6 : Int32)) (by decide) rfl (g := (mkF m 26 #[.val (.ref o0)] [])) rfl (hb hby d15_26) (n := 24) (by decide +kernel) (by decide) (by decide) (by decide)
      have cz15 : CHr Z own_EL T8.vm h8 T15.vm h15 := hC15
      have C15 : CHr Z own_EL s.vm h0 T15.vm h15 := C8.trans cz15
      have O15 := O8.ext E15
      have K15 : Keep h0 h15 [] := K8.ext E15
      refine step st15 ?_
      show G T15 (mkF m 28 #[.val (.ref o0)] [(.ref b15)])
      refine step (fun t k => XS.aloadN X15.here hx rfl (hb hby d15_28) rfl rfl k) ?_
      show G T15 (mkF m 29 #[.val (.ref o0)] [(.ref o0), (.ref b15)])
      have f19 := (Exa.ext E15 f10)
      have f20 := (Fld.ext E15 f11)
      have f21 := (Fld.ext E15 f12)
      have f22 := (f13.ext E15)
      have hK18 := (StrChars.Road.eqW (l := l) (R := rr_ex) (p := p) (e := e) (below := below) (args := #[(.ref o0)]) (len := 3) (W := 0) hZ (own_hwE hw) (kI := 4) (ww7 hw) (cs := [(98 : Int32), (117 : Int32), (100 : Int32), (103 : Int32), (101 : Int32), (116 : Int32)]) Ex15 Fv15 Fc15 Va15 own_spB.1 own_spB.2.1 own_spB.2.2 (ds := cx) f19 f20 f21 f22 hs.1 hs.2.1 hs.2.2 (Sta.ext O15.2 ST.k8) ST.k11 (by decide) (by decide))
      obtain ⟨cq18, kq18, q18a, q18b, q18c⟩ := isOf hZ e15 Ex15
      obtain ⟨_, _, ⟨T18, L18, k18, n18⟩, -, X18, ⟨Lc18, hQ18, l18, y18, z18⟩, st18⟩ := X15.virtualBack hx (y := y_12) (z := y_12) hown (mvT hZ (ww79 hw)) (mvT hZ (ww67 hw)) (notFace_of_selects (args := #[]) (mvT hZ (ww69 hw))) (mvT hZ (ww69 hw)) (mvT hZ (ww68 hw)) (by decide) hK18 q18a q18c (g := (mkF m 29 #[.val (.ref o0)] [(.ref o0), (.ref b15)])) rfl (by rw [hml]; rfl) (Steps.refl _) (argsL := [(.ref o0)]) (rest := []) (lenOf pd_8 rfl) rfl (by show 2 * 0 + _ ≤ _; exact Nat.le_of_eq rfl) (hb hby d15_29) (fun _ _ => ⟨rfl, e15, (by decide : 6 + 0 ≤ _), (by decide : 64 + 0 ≤ _)⟩)
      dsimp only [Pt.U, Pt.locs, Pt.cells, Pt.slots] at X18 l18 y18 z18 st18 hQ18
      subst l18 y18 z18
      obtain ⟨hq18, rfl, e18⟩ := hQ18
      try rw [List.append_nil] at X18
      rcases hq18 with ⟨rfl, hq18⟩ | ⟨rfl, hq18⟩
      · skip
        refine step (fun t k => st18.trans k) ?_
        show G T18 (mkF m 32 #[.val (.ref o0)] [(.int 1)])
        refine step (fun t k => XS.ifNo X18.here hx rfl (hb hby d15_32) rfl ((if0 _ _).trans (feq (by decide : ¬ ((1 : Int32) = (0 : Int32)))).1) k) ?_
        show G T18 (mkF m 35 #[.val (.ref o0)] [])
        obtain ⟨T23, X23, e23, st23⟩ := getS2 X18 hx hZ hown (host := "") (Or.inl (ww118 hw)) Via.refl e18 (Sta.ext O15.2 ST.k6) (g := (mkF m 35 #[.val (.ref o0)] [])) rfl (hb hby d15_35)
        refine step st23 ?_
        show G T23 (mkF m 38 #[.val (.ref o0)] [(.ref w_BUDGET)])
        exact ret (v := some (.ref w_BUDGET)) X23 hS hk15 C15 hZ (fun h => by rw [Bd.returns] at h; cases h) (fun fs hr => retA X23 hx Bd.returns rfl rfl (hb hby d15_38) hr) e23 ⟨(.ref w_BUDGET), rfl, N0, K15, (Or.inr (Or.inr (Or.inl ⟨hq18, rfl⟩)))⟩ (by decide) (by decide)
      · skip
        refine step (fun t k => st18.trans k) ?_
        show G T18 (mkF m 32 #[.val (.ref o0)] [(.int 0)])
        refine step (fun t k => XS.ifYes X18.here hx rfl (pc0 := 32) (pc' := 39) rfl (hb hby d15_32) rfl ((if0 _ _).trans (teq (by decide : (0 : Int32) = (0 : Int32))).1) (by decide) (by decide) k) ?_
        show G T18 (mkF m 39 #[.val (.ref o0)] [])
        refine step (fun t k => XS.aconstNull X18.here hx rfl (hb hby d15_39) k) ?_
        show G T18 (mkF m 40 #[.val (.ref o0)] [.null])
        exact ret (v := some .null) X18 hS hk15 C15 hZ (fun h => by rw [Bd.returns] at h; cases h) (fun fs hr => retA X18 hx Bd.returns rfl rfl (hb hby d15_40) hr) e18 ⟨.null, rfl, N0, K15, (Or.inr (Or.inr (Or.inr ⟨⟨hq2, hq9, hq18⟩, rfl⟩)))⟩ (by decide) (by decide)
abbrev rr_ez : Room := { frames := 1, cells := 6, slots := 64, locals := 14 }
theorem ef_ez (m : MethodId)  : entryFrame m #[.null] 1 = mkF m 0 #[.val .null] [] := by first | (simp [entryFrame, mkF, argsToLocals, Value.category]; done) | rfl
def Q_ez (Z : State) (w__VALUES : Addr) (w_CAP : Addr) (w_RATE : Addr) (w_BUDGET : Addr) (w_COMPACT_STRINGS : Int32) (w_SIOOBE_FORMATTER : Value) (w_tCAP : Addr) (w_vCAP : Addr) (w_tRATE : Addr) (w_vRATE : Addr) (w_tBUDGET : Addr) (w_vBUDGET : Addr)  (h0 : Heap) (n0 : Nat) (v : Option Value) (h : Heap) (L : List Loc) : Prop := v = some .null ∧ Fr n0 L ∧ Keep h0 h []
set_option maxRecDepth 65536 in
set_option maxHeartbeats 40000000 in
theorem rm_ez (l : Launch) (Z : State) (a0 : Array Value) (hw : ∀ d ∈ tables_1, d.before a0 Z = true) (ws : List Jvm.Cond) (w__VALUES : Addr) (w_CAP : Addr) (w_RATE : Addr) (w_BUDGET : Addr) (w_COMPACT_STRINGS : Int32) (w_SIOOBE_FORMATTER : Value) (w_tCAP : Addr) (w_vCAP : Addr) (w_tRATE : Addr) (w_vRATE : Addr) (w_tBUDGET : Addr) (w_vBUDGET : Addr)  (h0 : Heap) (n0 : Nat) (Z0 : n0 ≤ h0.size) (ST : own_St Z w__VALUES w_CAP w_RATE w_BUDGET w_COMPACT_STRINGS w_SIOOBE_FORMATTER w_tCAP w_vCAP w_tRATE w_vRATE w_tBUDGET w_vBUDGET) (O0 : Old Z n0 h0) :
    MetFree l y_15 (head1 (Jvm.Cond.code y_15 method_4_code 1 (some (.object cn_0)) :: ws) rr_ez) (fun a U => a = #[.null] ∧ Z.Warmed39 U.vm ∧ U.heap = h0 ∧ CHv Z own_EL U.vm h0) (fun _ _ _ _ _ => True) (fun _ U o U' => ∃ v L, o = .returned v ∧ Q_ez Z w__VALUES w_CAP w_RATE w_BUDGET w_COMPACT_STRINGS w_SIOOBE_FORMATTER w_tCAP w_vCAP w_tRATE w_vRATE w_tBUDGET w_vBUDGET h0 n0 v U'.heap L ∧ CHr Z own_EL U.vm U.heap U'.vm U'.heap ∧ ReturnedEndW U o U' L rr_ez.cells rr_ez.slots) := by
  refine MetFree.of_bodySF (plainFor_of_name pn_3) hisR ?_
  intro p e s m args below meth c s₁ Bd hml0 hP hK
  obtain ⟨rfl, hZ, hh, hC⟩ := hP
  have hx := Bd.exec
  have hby := Bd.bytes
  have hml : c.maxLocals = 1 := hml0
  have hown : s.vm.findClass cn_1 = some m.cls := findClass_of_methodNamed Bd.named
  have hnm := (name_of_methodNamed Bd.named Bd.method).1
  have X0 : Stand p l e rr_ez (s.setVm s.vm) m #[.null] below meth c s₁ [] 0 0 := Stand.of_body Bd
  have e0 : s₁.heap = h0 := by rw [← hh, Bd.state]; rfl
  have N0 := Fr.nil n0
  replace hZ : Z.Warmed39 (s.setVm s.vm).vm := hZ
  replace hown : (s.setVm s.vm).vm.findClass cn_1 = some m.cls := hown
  have hS : s.Since s.vm h0.size := (State.WarmedH.refl s).since _
  have hk0 : h0.size ≤ h0.size := Nat.le_refl _
  have C0 : CHr Z own_EL s.vm h0 s.vm h0 := CHr.refl hC
  have K0 : Keep h0 h0 [] := Keep.refl _ _
  obtain ⟨G, step, ret, fin⟩ := own_openH (p := p) (l := l) (e := e) (R := rr_ez) (s := s) (m := m) (args := #[.null]) (below := below) (meth := meth) (c := c) (rr_ez.cells) (rr_ez.slots) (Q_ez Z w__VALUES w_CAP w_RATE w_BUDGET w_COMPACT_STRINGS w_SIOOBE_FORMATTER w_tCAP w_vCAP w_tRATE w_vRATE w_tBUDGET w_vBUDGET h0 n0) (own_EW hw) hh Bd.notSynchronized
  refine fin (g := entryFrame m #[.null] 1) ?_
  rw [ef_ez m ]
  show G s₁ (mkF m 0 #[.val .null] [])
  obtain ⟨b1, T1, h1, k1, t1, kk1, X1, e1, E1, hS, hk1, hZ, hown, Ex1, Fc1, Fv1, Va1, -, -, hC1, -, hne1, st1⟩ := ldcCH (s := s) X0 hx hZ hown (ww5 hw) (own_wS hw) e0 hS hk0 (own_EW hw) (List.mem_of_getElem? (i := 0) rfl) C0.1 own_eC (z := (3 : Int32)) (by decide) rfl (g := (mkF m 0 #[.val .null] [])) rfl (hb hby d15_0) (n := 12) (by decide +kernel) (by decide) (by decide) (by decide)
  have cz1 : CHr Z own_EL s.vm h0 T1.vm h1 := hC1
  have C1 : CHr Z own_EL s.vm h0 T1.vm h1 := C0.trans cz1
  have O1 := O0.ext E1
  have K1 : Keep h0 h1 [] := K0.ext E1
  refine step st1 ?_
  show G T1 (mkF m 2 #[.val .null] [(.ref b1)])
  refine step (fun t k => XS.aloadN X1.here hx rfl (hb hby d15_2) rfl rfl k) ?_
  show G T1 (mkF m 3 #[.val .null] [.null, (.ref b1)])
  have hK2 := (backOf (R := rr_ez) (p := p) (e := e) (below := below) (args := #[.null]) (len := 3) (W := 0) (rm_en l Z a0 hw [] b1 h1 n0 (own_old_le O1) O1) hZ (ww70 hw) (ww6 hw) (by decide) (by decide))
  obtain ⟨cq2, kq2, q2a, q2b, q2c⟩ := isOf hZ e1 Ex1
  obtain ⟨_, _, ⟨T2, L2, k2, n2⟩, -, X2, ⟨Lc2, hQ2, l2, y2, z2⟩, st2⟩ := X1.virtualBack hx (y := y_12) (z := y_12) hown (mvT hZ (ww79 hw)) (mvT hZ (ww67 hw)) (notFace_of_selects (args := #[]) (mvT hZ (ww69 hw))) (mvT hZ (ww69 hw)) (mvT hZ (ww68 hw)) (by decide) hK2 q2a q2c (g := (mkF m 3 #[.val .null] [.null, (.ref b1)])) rfl (by rw [hml]; rfl) (Steps.refl _) (argsL := [.null]) (rest := []) (lenOf pd_8 rfl) rfl (by show 2 * 0 + _ ≤ _; exact Nat.le_of_eq rfl) (hb hby d15_3) (fun _ _ => ⟨rfl, e1, (by decide : 2 + 0 ≤ _), (by decide : 16 + 0 ≤ _)⟩)
  dsimp only [Pt.U, Pt.locs, Pt.cells, Pt.slots] at X2 l2 y2 z2 st2 hQ2
  subst l2 y2 z2
  obtain ⟨rfl, N2q, e2⟩ := hQ2
  have N2 := Fr.app N0 N2q
  obtain ⟨lc2, X2, N2⟩ := own_gen X2 N2
  refine step (fun t k => st2.trans k) ?_
  show G T2 (mkF m 6 #[.val .null] [(.int (f_en b1))])
  have r3 : (f_en b1) = (0 : Int32) := rfl
  rw [r3]
  show G T2 (mkF m 6 #[.val .null] [(.int 0)])
  refine step (fun t k => XS.ifYes X2.here hx rfl (pc0 := 6) (pc' := 13) rfl (hb hby d15_6) rfl ((if0 _ _).trans (teq (by decide : (0 : Int32) = (0 : Int32))).1) (by decide) (by decide) k) ?_
  show G T2 (mkF m 13 #[.val .null] [])
  obtain ⟨b4, T4, h4, k4, t4, kk4, X4, e4, E4, hS, hk4, hZ, hown, Ex4, Fc4, Fv4, Va4, -, -, hC4, -, hne4, st4⟩ := ldcCH (s := s) X2 hx hZ hown (ww80 hw) (own_wS hw) e2 hS hk1 (own_EW hw) (List.mem_of_getElem? (i := 1) rfl) C1.1 own_eR (z := (4 : Int32)) (by decide) rfl (g := (mkF m 13 #[.val .null] [])) rfl (hb hby d15_13) (n := 16) (by decide +kernel) (by decide) (by decide) (by decide)
  have cz4 : CHr Z own_EL T1.vm h1 T4.vm h4 := hC4
  have C4 : CHr Z own_EL s.vm h0 T4.vm h4 := C1.trans cz4
  have O4 := O1.ext E4
  have K4 : Keep h0 h4 [] := K1.ext E4
  refine step st4 ?_
  show G T4 (mkF m 15 #[.val .null] [(.ref b4)])
  refine step (fun t k => XS.aloadN X4.here hx rfl (hb hby d15_15) rfl rfl k) ?_
  show G T4 (mkF m 16 #[.val .null] [.null, (.ref b4)])
  have hK5 := (backOf (R := rr_ez) (p := p) (e := e) (below := below) (args := #[.null]) (len := 3) (W := 0) (rm_en l Z a0 hw [] b4 h4 n0 (own_old_le O4) O4) hZ (ww70 hw) (ww6 hw) (by decide) (by decide))
  obtain ⟨cq5, kq5, q5a, q5b, q5c⟩ := isOf hZ e4 Ex4
  obtain ⟨_, _, ⟨T5, L5, k5, n5⟩, -, X5, ⟨Lc5, hQ5, l5, y5, z5⟩, st5⟩ := X4.virtualBack hx (y := y_12) (z := y_12) hown (mvT hZ (ww79 hw)) (mvT hZ (ww67 hw)) (notFace_of_selects (args := #[]) (mvT hZ (ww69 hw))) (mvT hZ (ww69 hw)) (mvT hZ (ww68 hw)) (by decide) hK5 q5a q5c (g := (mkF m 16 #[.val .null] [.null, (.ref b4)])) rfl (by rw [hml]; rfl) (Steps.refl _) (argsL := [.null]) (rest := []) (lenOf pd_8 rfl) rfl (by show 2 * 0 + _ ≤ _; exact Nat.le_of_eq rfl) (hb hby d15_16) (fun _ _ => ⟨rfl, e4, (by decide : 4 + 0 ≤ _), (by decide : 36 + 0 ≤ _)⟩)
  dsimp only [Pt.U, Pt.locs, Pt.cells, Pt.slots] at X5 l5 y5 z5 st5 hQ5
  subst l5 y5 z5
  obtain ⟨rfl, N5q, e5⟩ := hQ5
  have N5 := Fr.app N2 N5q
  obtain ⟨lc5, X5, N5⟩ := own_gen X5 N5
  refine step (fun t k => st5.trans k) ?_
  show G T5 (mkF m 19 #[.val .null] [(.int (f_en b4))])
  have r6 : (f_en b4) = (0 : Int32) := rfl
  rw [r6]
  show G T5 (mkF m 19 #[.val .null] [(.int 0)])
  refine step (fun t k => XS.ifYes X5.here hx rfl (pc0 := 19) (pc' := 26) rfl (hb hby d15_19) rfl ((if0 _ _).trans (teq (by decide : (0 : Int32) = (0 : Int32))).1) (by decide) (by decide) k) ?_
  show G T5 (mkF m 26 #[.val .null] [])
  have f8 := (Exa.ext E4 Ex1)
  have f9 := (Va1.ext E4)
  obtain ⟨b7, T7, h7, k7, t7, kk7, X7, e7, E7, hS, hk7, hZ, hown, Ex7, Fc7, Fv7, Va7, -, -, hC7, -, hne7, st7⟩ := ldcCH (s := s) X5 hx hZ hown (ww81 hw) (own_wS hw) e5 hS hk4 (own_EW hw) (List.mem_of_getElem? (i := 2) rfl) C4.1 own_eB (z := (6 : Int32)) (by decide) rfl (g := (mkF m 26 #[.val .null] [])) rfl (hb hby d15_26) (n := 24) (by decide +kernel) (by decide) (by decide) (by decide)
  have cz7 : CHr Z own_EL T4.vm h4 T7.vm h7 := hC7
  have C7 : CHr Z own_EL s.vm h0 T7.vm h7 := C4.trans cz7
  have O7 := O4.ext E7
  have K7 : Keep h0 h7 [] := K4.ext E7
  refine step st7 ?_
  show G T7 (mkF m 28 #[.val .null] [(.ref b7)])
  refine step (fun t k => XS.aloadN X7.here hx rfl (hb hby d15_28) rfl rfl k) ?_
  show G T7 (mkF m 29 #[.val .null] [.null, (.ref b7)])
  have hK10 := (backOf (R := rr_ez) (p := p) (e := e) (below := below) (args := #[.null]) (len := 3) (W := 0) (rm_en l Z a0 hw [] b7 h7 n0 (own_old_le O7) O7) hZ (ww70 hw) (ww6 hw) (by decide) (by decide))
  obtain ⟨cq10, kq10, q10a, q10b, q10c⟩ := isOf hZ e7 Ex7
  obtain ⟨_, _, ⟨T10, L10, k10, n10⟩, -, X10, ⟨Lc10, hQ10, l10, y10, z10⟩, st10⟩ := X7.virtualBack hx (y := y_12) (z := y_12) hown (mvT hZ (ww79 hw)) (mvT hZ (ww67 hw)) (notFace_of_selects (args := #[]) (mvT hZ (ww69 hw))) (mvT hZ (ww69 hw)) (mvT hZ (ww68 hw)) (by decide) hK10 q10a q10c (g := (mkF m 29 #[.val .null] [.null, (.ref b7)])) rfl (by rw [hml]; rfl) (Steps.refl _) (argsL := [.null]) (rest := []) (lenOf pd_8 rfl) rfl (by show 2 * 0 + _ ≤ _; exact Nat.le_of_eq rfl) (hb hby d15_29) (fun _ _ => ⟨rfl, e7, (by decide : 6 + 0 ≤ _), (by decide : 64 + 0 ≤ _)⟩)
  dsimp only [Pt.U, Pt.locs, Pt.cells, Pt.slots] at X10 l10 y10 z10 st10 hQ10
  subst l10 y10 z10
  obtain ⟨rfl, N10q, e10⟩ := hQ10
  have N10 := Fr.app N5 N10q
  obtain ⟨lc10, X10, N10⟩ := own_gen X10 N10
  refine step (fun t k => st10.trans k) ?_
  show G T10 (mkF m 32 #[.val .null] [(.int (f_en b7))])
  have r11 : (f_en b7) = (0 : Int32) := rfl
  rw [r11]
  show G T10 (mkF m 32 #[.val .null] [(.int 0)])
  refine step (fun t k => XS.ifYes X10.here hx rfl (pc0 := 32) (pc' := 39) rfl (hb hby d15_32) rfl ((if0 _ _).trans (teq (by decide : (0 : Int32) = (0 : Int32))).1) (by decide) (by decide) k) ?_
  show G T10 (mkF m 39 #[.val .null] [])
  refine step (fun t k => XS.aconstNull X10.here hx rfl (hb hby d15_39) k) ?_
  show G T10 (mkF m 40 #[.val .null] [.null])
  exact ret (v := some .null) X10 hS hk7 C7 hZ (fun h => by rw [Bd.returns] at h; cases h) (fun fs hr => retA X10 hx Bd.returns rfl rfl (hb hby d15_40) hr) e10 ⟨rfl, N10, K7⟩ (by decide) (by decide)
theorem ww0 {Z : State} {a0 : Array Value} (hw : ∀ d ∈ tables_1, d.before a0 Z = true) : Jvm.Cond.before (Jvm.Cond.constant cn_1 (37 : Nat) (2147483647 : Int32)) a0 Z = true := hw _ (List.mem_of_getElem? (i := 0) rfl)
theorem ww1 {Z : State} {a0 : Array Value} (hw : ∀ d ∈ tables_1, d.before a0 Z = true) : Jvm.Cond.before (Jvm.Cond.methodLink cn_1 (38 : Nat) ({ cls := cn_1, name := "base", desc := cn_16 } : Jvm.MethodName)) a0 Z = true := hw _ (List.mem_of_getElem? (i := 1) rfl)
theorem ww4 {Z : State} {a0 : Array Value} (hw : ∀ d ∈ tables_1, d.before a0 Z = true) : Jvm.Cond.before (Jvm.Cond.code ({ cls := cn_1, name := "base", desc := cn_16 } : Jvm.MethodName) method_2_code (1 : Nat) (Option.some (Jvm.ClassFile.FieldType.object cn_2))) a0 Z = true := hw _ (List.mem_of_getElem? (i := 4) rfl)
theorem ww3 {Z : State} {a0 : Array Value} (hw : ∀ d ∈ tables_1, d.before a0 Z = true) : Jvm.Cond.before (Jvm.Cond.initialized cn_1) a0 Z = true := hw _ (List.mem_of_getElem? (i := 3) rfl)
theorem pd_9 : parseMethodDescriptor cn_16 = some ⟨[.int], some (.object cn_2)⟩ := by decide +kernel
theorem ww2 {Z : State} {a0 : Array Value} (hw : ∀ d ∈ tables_1, d.before a0 Z = true) : Jvm.Cond.before (Jvm.Cond.static ({ cls := cn_1, name := "base", desc := cn_16 } : Jvm.MethodName)) a0 Z = true := hw _ (List.mem_of_getElem? (i := 2) rfl)
theorem ww13 {Z : State} {a0 : Array Value} (hw : ∀ d ∈ tables_1, d.before a0 Z = true) : Jvm.Cond.before (Jvm.Cond.methodLink cn_1 (44 : Nat) ({ cls := cn_2, name := "length", desc := "()I" } : Jvm.MethodName)) a0 Z = true := hw _ (List.mem_of_getElem? (i := 13) rfl)
theorem ww16 {Z : State} {a0 : Array Value} (hw : ∀ d ∈ tables_1, d.before a0 Z = true) : Jvm.Cond.before (Jvm.Cond.selects cn_2 ({ cls := cn_2, name := "length", desc := "()I" } : Jvm.MethodName) ({ cls := cn_2, name := "length", desc := "()I" } : Jvm.MethodName)) a0 Z = true := hw _ (List.mem_of_getElem? (i := 16) rfl)
theorem ww17 {Z : State} {a0 : Array Value} (hw : ∀ d ∈ tables_1, d.before a0 Z = true) : Jvm.Cond.before (Jvm.Cond.code ({ cls := cn_2, name := "length", desc := "()I" } : Jvm.MethodName) jdk_42_method_54_code (1 : Nat) (Option.some Jvm.ClassFile.FieldType.int)) a0 Z = true := hw _ (List.mem_of_getElem? (i := 17) rfl)
theorem pd_10 : parseMethodDescriptor "()I" = some ⟨[], some .int⟩ := by decide +kernel
theorem ww14 {Z : State} {a0 : Array Value} (hw : ∀ d ∈ tables_1, d.before a0 Z = true) : Jvm.Cond.before (Jvm.Cond.declares ({ cls := cn_2, name := "length", desc := "()I" } : Jvm.MethodName)) a0 Z = true := hw _ (List.mem_of_getElem? (i := 14) rfl)
theorem ww15 {Z : State} {a0 : Array Value} (hw : ∀ d ∈ tables_1, d.before a0 Z = true) : Jvm.Cond.before (Jvm.Cond.instanceMethod ({ cls := cn_2, name := "length", desc := "()I" } : Jvm.MethodName)) a0 Z = true := hw _ (List.mem_of_getElem? (i := 15) rfl)
theorem ww26 {Z : State} {a0 : Array Value} (hw : ∀ d ∈ tables_1, d.before a0 Z = true) : Jvm.Cond.before (Jvm.Cond.arrayClass Jvm.ClassFile.FieldType.char) a0 Z = true := hw _ (List.mem_of_getElem? (i := 26) rfl)
theorem ww27 {Z : State} {a0 : Array Value} (hw : ∀ d ∈ tables_1, d.before a0 Z = true) : Jvm.Cond.before (Jvm.Cond.methodLink cn_1 (54 : Nat) ({ cls := cn_1, name := "put", desc := cn_13 } : Jvm.MethodName)) a0 Z = true := hw _ (List.mem_of_getElem? (i := 27) rfl)
theorem ww29 {Z : State} {a0 : Array Value} (hw : ∀ d ∈ tables_1, d.before a0 Z = true) : Jvm.Cond.before (Jvm.Cond.code ({ cls := cn_1, name := "put", desc := cn_13 } : Jvm.MethodName) method_3_code (5 : Nat) (Option.none : Option Jvm.ClassFile.FieldType)) a0 Z = true := hw _ (List.mem_of_getElem? (i := 29) rfl)
theorem pd_11 : parseMethodDescriptor cn_13 = some ⟨[(.array .char), .int, (.object cn_2), .int, .char], none⟩ := by decide +kernel
theorem ww28 {Z : State} {a0 : Array Value} (hw : ∀ d ∈ tables_1, d.before a0 Z = true) : Jvm.Cond.before (Jvm.Cond.static ({ cls := cn_1, name := "put", desc := cn_13 } : Jvm.MethodName)) a0 Z = true := hw _ (List.mem_of_getElem? (i := 28) rfl)
theorem ww30 {Z : State} {a0 : Array Value} (hw : ∀ d ∈ tables_1, d.before a0 Z = true) : Jvm.Cond.before (Jvm.Cond.classLink cn_1 (16 : Nat) cn_2) a0 Z = true := hw _ (List.mem_of_getElem? (i := 30) rfl)
theorem ww31 {Z : State} {a0 : Array Value} (hw : ∀ d ∈ tables_1, d.before a0 Z = true) : Jvm.Cond.before (Jvm.Cond.methodLink cn_1 (58 : Nat) ({ cls := cn_2, name := "<init>", desc := "([C)V" } : Jvm.MethodName)) a0 Z = true := hw _ (List.mem_of_getElem? (i := 31) rfl)
theorem ww33 {Z : State} {a0 : Array Value} (hw : ∀ d ∈ tables_1, d.before a0 Z = true) : Jvm.Cond.before (Jvm.Cond.code ({ cls := cn_2, name := "<init>", desc := "([C)V" } : Jvm.MethodName) jdk_42_method_3_code (2 : Nat) (Option.none : Option Jvm.ClassFile.FieldType)) a0 Z = true := hw _ (List.mem_of_getElem? (i := 33) rfl)
theorem pd_12 : parseMethodDescriptor "([C)V" = some ⟨[(.array .char)], none⟩ := by decide +kernel
theorem ww32 {Z : State} {a0 : Array Value} (hw : ∀ d ∈ tables_1, d.before a0 Z = true) : Jvm.Cond.before (Jvm.Cond.instanceMethod ({ cls := cn_2, name := "<init>", desc := "([C)V" } : Jvm.MethodName)) a0 Z = true := hw _ (List.mem_of_getElem? (i := 32) rfl)
theorem ww42 {Z : State} {a0 : Array Value} (hw : ∀ d ∈ tables_1, d.before a0 Z = true) : Jvm.Cond.before (Jvm.Cond.methodLink cn_1 (61 : Nat) ({ cls := cn_0, name := "named", desc := cn_4 } : Jvm.MethodName)) a0 Z = true := hw _ (List.mem_of_getElem? (i := 42) rfl)
theorem ww45 {Z : State} {a0 : Array Value} (hw : ∀ d ∈ tables_1, d.before a0 Z = true) : Jvm.Cond.before (Jvm.Cond.code ({ cls := cn_0, name := "named", desc := cn_4 } : Jvm.MethodName) prog_19_method_5_code (5 : Nat) (Option.some (Jvm.ClassFile.FieldType.object cn_0))) a0 Z = true := hw _ (List.mem_of_getElem? (i := 45) rfl)
theorem pd_13 : parseMethodDescriptor cn_4 = some ⟨[(.object cn_2)], some (.object cn_0)⟩ := by decide +kernel
theorem ww43 {Z : State} {a0 : Array Value} (hw : ∀ d ∈ tables_1, d.before a0 Z = true) : Jvm.Cond.before (Jvm.Cond.static ({ cls := cn_0, name := "named", desc := cn_4 } : Jvm.MethodName)) a0 Z = true := hw _ (List.mem_of_getElem? (i := 43) rfl)
theorem ww76 {Z : State} {a0 : Array Value} (hw : ∀ d ∈ tables_1, d.before a0 Z = true) : Jvm.Cond.before (Jvm.Cond.methodLink cn_1 (65 : Nat) ({ cls := cn_1, name := "expected", desc := cn_4 } : Jvm.MethodName)) a0 Z = true := hw _ (List.mem_of_getElem? (i := 76) rfl)
theorem ww78 {Z : State} {a0 : Array Value} (hw : ∀ d ∈ tables_1, d.before a0 Z = true) : Jvm.Cond.before (Jvm.Cond.code ({ cls := cn_1, name := "expected", desc := cn_4 } : Jvm.MethodName) method_4_code (1 : Nat) (Option.some (Jvm.ClassFile.FieldType.object cn_0))) a0 Z = true := hw _ (List.mem_of_getElem? (i := 78) rfl)
theorem ww77 {Z : State} {a0 : Array Value} (hw : ∀ d ∈ tables_1, d.before a0 Z = true) : Jvm.Cond.before (Jvm.Cond.static ({ cls := cn_1, name := "expected", desc := cn_4 } : Jvm.MethodName)) a0 Z = true := hw _ (List.mem_of_getElem? (i := 77) rfl)
theorem ww114 {Z : State} {a0 : Array Value} (hw : ∀ d ∈ tables_1, d.before a0 Z = true) : Jvm.Cond.before (Jvm.Cond.methodLink cn_1 (48 : Nat) ({ cls := cn_17, name := "max", desc := "(II)I" } : Jvm.MethodName)) a0 Z = true := hw _ (List.mem_of_getElem? (i := 114) rfl)
theorem ww117 {Z : State} {a0 : Array Value} (hw : ∀ d ∈ tables_1, d.before a0 Z = true) : Jvm.Cond.before (Jvm.Cond.code ({ cls := cn_17, name := "max", desc := "(II)I" } : Jvm.MethodName) jdk_29_method_65_code (2 : Nat) (Option.some Jvm.ClassFile.FieldType.int)) a0 Z = true := hw _ (List.mem_of_getElem? (i := 117) rfl)
theorem ww116 {Z : State} {a0 : Array Value} (hw : ∀ d ∈ tables_1, d.before a0 Z = true) : Jvm.Cond.before (Jvm.Cond.initialized cn_17) a0 Z = true := hw _ (List.mem_of_getElem? (i := 116) rfl)
theorem pd_14 : parseMethodDescriptor "(II)I" = some ⟨[.int, .int], some .int⟩ := by decide +kernel
theorem ww115 {Z : State} {a0 : Array Value} (hw : ∀ d ∈ tables_1, d.before a0 Z = true) : Jvm.Cond.before (Jvm.Cond.static ({ cls := cn_17, name := "max", desc := "(II)I" } : Jvm.MethodName)) a0 Z = true := hw _ (List.mem_of_getElem? (i := 115) rfl)
abbrev y_16 : MethodName := ⟨cn_1, "law", "(IIIII)Z"⟩
theorem ef_law (m : MethodId) (p0 : Int32) (p1 : Int32) (p2 : Int32) (p3 : Int32) (p4 : Int32) : entryFrame m #[(.int p0), (.int p1), (.int p2), (.int p3), (.int p4)] maxLocals = mkF m 0 #[.val (.int p0), .val (.int p1), .val (.int p2), .val (.int p3), .val (.int p4), .unset, .unset, .unset, .unset, .unset, .unset, .unset, .unset, .unset] [] := by first | (simp [entryFrame, mkF, argsToLocals, Value.category, maxLocals]; done) | rfl
def Q_law (Z : State) (w__VALUES : Addr) (w_CAP : Addr) (w_RATE : Addr) (w_BUDGET : Addr) (w_COMPACT_STRINGS : Int32) (w_SIOOBE_FORMATTER : Value) (w_tCAP : Addr) (w_vCAP : Addr) (w_tRATE : Addr) (w_vRATE : Addr) (w_tBUDGET : Addr) (w_vBUDGET : Addr) (p0 : Int32) (p1 : Int32) (p2 : Int32) (p3 : Int32) (p4 : Int32) (h0 : Heap) (n0 : Nat) (v : Option Value) (h : Heap) (L : List Loc) : Prop := v = some (.int 1) ∧ Fr n0 L
set_option maxRecDepth 65536 in
set_option maxHeartbeats 40000000 in
theorem rm_law (l : Launch) (Z : State) (a0 : Array Value) (hw : ∀ d ∈ tables_1, d.before a0 Z = true) (ws : List Jvm.Cond) (w__VALUES : Addr) (w_CAP : Addr) (w_RATE : Addr) (w_BUDGET : Addr) (w_COMPACT_STRINGS : Int32) (w_SIOOBE_FORMATTER : Value) (w_tCAP : Addr) (w_vCAP : Addr) (w_tRATE : Addr) (w_vRATE : Addr) (w_tBUDGET : Addr) (w_vBUDGET : Addr) (p0 : Int32) (p1 : Int32) (p2 : Int32) (p3 : Int32) (p4 : Int32) (h0 : Heap) (n0 : Nat) (Z0 : n0 ≤ h0.size) (ST : own_St Z w__VALUES w_CAP w_RATE w_BUDGET w_COMPACT_STRINGS w_SIOOBE_FORMATTER w_tCAP w_vCAP w_tRATE w_vRATE w_tBUDGET w_vBUDGET) (O0 : Old Z n0 h0) :
    MetFree l x (head1 (Jvm.Cond.code x code maxLocals ret :: ws) room_1) (fun a U => a = #[(.int p0), (.int p1), (.int p2), (.int p3), (.int p4)] ∧ Z.Warmed39 U.vm ∧ U.heap = h0 ∧ CHv Z own_EL U.vm h0) (fun _ _ _ _ _ => True) (fun _ U o U' => ∃ v L, o = .returned v ∧ Q_law Z w__VALUES w_CAP w_RATE w_BUDGET w_COMPACT_STRINGS w_SIOOBE_FORMATTER w_tCAP w_vCAP w_tRATE w_vRATE w_tBUDGET w_vBUDGET p0 p1 p2 p3 p4 h0 n0 v U'.heap L ∧ CHr Z own_EL U.vm U.heap U'.vm U'.heap ∧ ReturnedEndW U o U' L 15 114) := by
  refine MetFree.of_bodySF (plainFor_of_name pn_3) hisR ?_
  intro p e s m args below meth c s₁ Bd hml0 hP hK
  obtain ⟨rfl, hZ, hh, hC⟩ := hP
  have hx := Bd.exec
  have hby := Bd.bytes
  have hml : c.maxLocals = 14 := hml0
  have hown : s.vm.findClass cn_1 = some m.cls := findClass_of_methodNamed Bd.named
  have hnm := (name_of_methodNamed Bd.named Bd.method).1
  have X0 : Stand p l e room_1 (s.setVm s.vm) m #[(.int p0), (.int p1), (.int p2), (.int p3), (.int p4)] below meth c s₁ [] 0 0 := Stand.of_body Bd
  have e0 : s₁.heap = h0 := by rw [← hh, Bd.state]; rfl
  have N0 := Fr.nil n0
  replace hZ : Z.Warmed39 (s.setVm s.vm).vm := hZ
  replace hown : (s.setVm s.vm).vm.findClass cn_1 = some m.cls := hown
  have hS : s.Since s.vm h0.size := (State.WarmedH.refl s).since _
  have hk0 : h0.size ≤ h0.size := Nat.le_refl _
  have C0 : CHr Z own_EL s.vm h0 s.vm h0 := CHr.refl hC
  obtain ⟨G, step, ret, fin⟩ := own_openH (p := p) (l := l) (e := e) (R := room_1) (s := s) (m := m) (args := #[(.int p0), (.int p1), (.int p2), (.int p3), (.int p4)]) (below := below) (meth := meth) (c := c) (15) (114) (Q_law Z w__VALUES w_CAP w_RATE w_BUDGET w_COMPACT_STRINGS w_SIOOBE_FORMATTER w_tCAP w_vCAP w_tRATE w_vRATE w_tBUDGET w_vBUDGET p0 p1 p2 p3 p4 h0 n0) (own_EW hw) hh Bd.notSynchronized
  refine fin (g := entryFrame m #[(.int p0), (.int p1), (.int p2), (.int p3), (.int p4)] maxLocals) ?_
  rw [ef_law m p0 p1 p2 p3 p4]
  obtain ⟨ls0, hls0⟩  := own_sl #[.val (.int p0), .val (.int p1), .val (.int p2), .val (.int p3), .val (.int p4), .unset, .unset, .unset, .unset, .unset, .unset, .unset, .unset, .unset]
  suffices hG0 : G s₁ (mkF m 0 ls0 []) by rw [hls0] at hG0; exact hG0
  show G s₁ (mkF m 0 ls0 [])
  refine step (fun t k => XS.iloadN X0.here hx rfl (hb hby at_0) (by rw [hls0]; rfl) k) ?_
  show G s₁ (mkF m 1 ls0 [(.int p0)])
  have q1 := X0.ldcInt hx hown (mvT hZ (ww0 hw)) (g := (mkF m 1 ls0 [(.int p0)])) rfl (hb hby at_1)
  refine step q1 ?_
  show G s₁ (mkF m 3 ls0 [(.int 2147483647), (.int p0)])
  refine step (fun t k => XS.iand X0.here hx rfl (hb hby at_3) rfl k) ?_
  show G s₁ (mkF m 4 ls0 [(.int (p0 &&& (2147483647 : Int32)))])
  refine step (fun t k => XS.iconst X0.here hx rfl (hb hby at_4) k) ?_
  show G s₁ (mkF m 5 ls0 [(.int 4), (.int (p0 &&& (2147483647 : Int32)))])
  refine step (fun t k => iremM X0 hx rfl (hb hby at_5) rfl (by decide) k) ?_
  show G s₁ (mkF m 6 ls0 [(.int ((p0 &&& (2147483647 : Int32)) % (4 : Int32)))])
  obtain ⟨ls2, hls2⟩  := own_sl #[.val (.int p0), .val (.int p1), .val (.int p2), .val (.int p3), .val (.int p4), .val (.int ((p0 &&& (2147483647 : Int32)) % (4 : Int32))), .unset, .unset, .unset, .unset, .unset, .unset, .unset, .unset]
  refine step (fun t k => XS.istore X0.here hx rfl (hb hby at_6) rfl (l' := ls2) (by rw [hls0, hls2]; rfl) k) ?_
  show G s₁ (mkF m 8 ls2 [])
  refine step (fun t k => XS.iload X0.here hx rfl (hb hby at_8) (by rw [hls2]; rfl) k) ?_
  show G s₁ (mkF m 10 ls2 [(.int ((p0 &&& (2147483647 : Int32)) % (4 : Int32)))])
  have hK3 := (backOfSH (s := s) (vm0 := s.vm) (R := room_1) (p := p) (e := e) (below := below) (args := #[(.int p0), (.int p1), (.int p2), (.int p3), (.int p4)]) (len := 3) (W := 0) (rm_ba l Z a0 hw [] w__VALUES w_CAP w_RATE w_BUDGET w_COMPACT_STRINGS w_SIOOBE_FORMATTER w_tCAP w_vCAP w_tRATE w_vRATE w_tBUDGET w_vBUDGET ((p0 &&& (2147483647 : Int32)) % (4 : Int32)) h0 n0 (own_old_le O0) ST O0) hZ (ww4 hw) (ww3 hw) (by decide) (by decide) (own_EW hw) C0.1)
  obtain ⟨_, _, ⟨T3, L3, k3, n3⟩, -, X3, hS3, hg3, ⟨Lc3, hQ3, l3, y3, z3, hC3⟩, st3⟩ := callSS X0 hx (y := y_11) hown (mvT hZ (ww1 hw)) (mvT hZ (ww2 hw)) (mvT hZ (ww3 hw)) (mvT hZ (ww4 hw)) (by decide) hK3 (g := (mkF m 10 ls2 [(.int ((p0 &&& (2147483647 : Int32)) % (4 : Int32)))])) rfl (by rw [hml, hls2]; rfl) (argsL := [(.int ((p0 &&& (2147483647 : Int32)) % (4 : Int32)))]) (rest := []) (lenOf pd_9 rfl) rfl (by show 2 * 0 + _ ≤ _; exact Nat.le_of_eq rfl) (hb hby at_10) (fun _ _ => ⟨rfl, e0, (by decide : 0 + 2 ≤ _), (by decide : 0 + 28 ≤ _)⟩)
  dsimp only [Pt.U, Pt.locs, Pt.cells, Pt.slots] at X3 l3 y3 z3 st3 hQ3 hS3 hg3 hC3
  subst l3 y3 z3
  obtain ⟨X3, hS, hZ, hown⟩ := rebS (s := s) hS (by rw [e0]; exact hk0) X3 hS3 hg3 hZ hown
  obtain ⟨b3, t_3, kk_3, n_3, vs_3, rfl, N3q, K3q, Y3_0, Y3_1, Y3_2, Y3_3, Y3_4⟩ := hQ3
  have N3 := Fr.app N0 N3q
  obtain ⟨lc3, X3, N3⟩ := own_gen X3 N3
  have cz3 : CHr Z own_EL s.vm h0 T3.vm T3.heap := hC3
  have C3 : CHr Z own_EL s.vm h0 T3.vm T3.heap := C0.trans cz3
  have O3 := O0.keep K3q all0
  have hk3 : _ ≤ T3.heap.size := Nat.le_refl _
  refine step (fun t k => st3.trans k) ?_
  show G T3 (mkF m 13 ls2 [(.ref b3)])
  obtain ⟨ls4, hls4⟩  := own_sl #[.val (.int p0), .val (.int p1), .val (.int p2), .val (.int p3), .val (.int p4), .val (.int ((p0 &&& (2147483647 : Int32)) % (4 : Int32))), .val (.ref b3), .unset, .unset, .unset, .unset, .unset, .unset, .unset]
  refine step (fun t k => XS.astore X3.here hx rfl (hb hby at_13) rfl rfl (l' := ls4) (by rw [hls2, hls4]; rfl) k) ?_
  show G T3 (mkF m 15 ls4 [])
  refine step (fun t k => XS.aload X3.here hx rfl (hb hby at_15) (by rw [hls4]; rfl) rfl k) ?_
  show G T3 (mkF m 17 ls4 [(.ref b3)])
  have hK5 := (backOf (R := room_1) (p := p) (e := e) (below := below) (args := #[(.int p0), (.int p1), (.int p2), (.int p3), (.int p4)]) (len := 3) (W := 0) (rm_le l Z a0 hw [] w__VALUES w_CAP w_RATE w_BUDGET w_COMPACT_STRINGS w_SIOOBE_FORMATTER w_tCAP w_vCAP w_tRATE w_vRATE w_tBUDGET w_vBUDGET b3 t_3 kk_3 n_3 vs_3 T3.heap n0 (own_old_le O3) ST O3 Y3_0 Y3_1 Y3_2 Y3_3) hZ (ww17 hw) (ww6 hw) (by decide) (by decide))
  obtain ⟨cq5, kq5, q5a, q5b, q5c⟩ := isOf hZ rfl Y3_0
  obtain ⟨_, _, ⟨T5, L5, k5, n5⟩, -, X5, ⟨Lc5, hQ5, l5, y5, z5⟩, st5⟩ := X3.virtualBack hx (y := y_2) (z := y_2) hown (mvT hZ (ww13 hw)) (mvT hZ (ww14 hw)) (notFace_of_selects (args := #[]) (mvT hZ (ww16 hw))) (mvT hZ (ww16 hw)) (mvT hZ (ww15 hw)) (by decide) hK5 q5a q5c (g := (mkF m 17 ls4 [(.ref b3)])) rfl (by rw [hml, hls4]; rfl) (Steps.refl _) (argsL := []) (rest := []) (lenOf pd_10 rfl) rfl (by show 2 * 0 + _ ≤ _; exact Nat.le_of_eq rfl) (hb hby at_17) (fun _ _ => ⟨rfl, rfl, (by decide : 2 + 0 ≤ _), (by decide : 28 + 0 ≤ _)⟩)
  dsimp only [Pt.U, Pt.locs, Pt.cells, Pt.slots] at X5 l5 y5 z5 st5 hQ5
  subst l5 y5 z5
  obtain ⟨rfl, N5q, e5⟩ := hQ5
  have N5 := Fr.app N3 N5q
  obtain ⟨lc5, X5, N5⟩ := own_gen X5 N5
  refine step (fun t k => st5.trans k) ?_
  show G T5 (mkF m 20 ls4 [(.int (f_le w__VALUES w_CAP w_RATE w_BUDGET w_COMPACT_STRINGS w_SIOOBE_FORMATTER w_tCAP w_vCAP w_tRATE w_vRATE w_tBUDGET w_vBUDGET b3 t_3 kk_3 n_3 vs_3))])
  have r6 : (f_le w__VALUES w_CAP w_RATE w_BUDGET w_COMPACT_STRINGS w_SIOOBE_FORMATTER w_tCAP w_vCAP w_tRATE w_vRATE w_tBUDGET w_vBUDGET b3 t_3 kk_3 n_3 vs_3) = n_3 := rfl
  rw [r6]
  show G T5 (mkF m 20 ls4 [(.int n_3)])
  obtain ⟨ls7, hls7⟩  := own_sl #[.val (.int p0), .val (.int p1), .val (.int p2), .val (.int p3), .val (.int p4), .val (.int ((p0 &&& (2147483647 : Int32)) % (4 : Int32))), .val (.ref b3), .val (.int n_3), .unset, .unset, .unset, .unset, .unset, .unset]
  refine step (fun t k => XS.istore X5.here hx rfl (hb hby at_20) rfl (l' := ls7) (by rw [hls4, hls7]; rfl) k) ?_
  show G T5 (mkF m 22 ls7 [])
  refine step (fun t k => XS.iloadN X5.here hx rfl (hb hby at_22) (by rw [hls7]; rfl) k) ?_
  show G T5 (mkF m 23 ls7 [(.int p1)])
  refine step (fun t k => XS.iconst X5.here hx rfl (hb hby at_23) k) ?_
  show G T5 (mkF m 24 ls7 [(.int 3), (.int p1)])
  refine step (fun t k => XS.iand X5.here hx rfl (hb hby at_24) rfl k) ?_
  show G T5 (mkF m 25 ls7 [(.int (p1 &&& (3 : Int32)))])
  obtain ⟨ls8, hls8⟩  := own_sl #[.val (.int p0), .val (.int p1), .val (.int p2), .val (.int p3), .val (.int p4), .val (.int ((p0 &&& (2147483647 : Int32)) % (4 : Int32))), .val (.ref b3), .val (.int n_3), .val (.int (p1 &&& (3 : Int32))), .unset, .unset, .unset, .unset, .unset]
  refine step (fun t k => XS.istore X5.here hx rfl (hb hby at_25) rfl (l' := ls8) (by rw [hls7, hls8]; rfl) k) ?_
  show G T5 (mkF m 27 ls8 [])
  have J81 : ∀ (Tj : State) (lcj : List Loc) (lsj : Array Slot) (z9 : Int32), Stand p l e room_1 (s.setVm T3.vm) m #[(.int p0), (.int p1), (.int p2), (.int p3), (.int p4)] below meth c Tj lcj 2 28 → Tj.heap = T3.heap → Fr n0 lcj → lsj = #[.val (.int p0), .val (.int p1), .val (.int p2), .val (.int p3), .val (.int p4), .val (.int ((p0 &&& (2147483647 : Int32)) % (4 : Int32))), .val (.ref b3), .val (.int n_3), .val (.int (p1 &&& (3 : Int32))), .val (.int z9), .unset, .unset, .unset, .unset] → own_n7 z9 → G Tj (mkF m 81 lsj []) := by
    intro Tj lcj lsj z9 Xj ej Nj hlsj hz9
    show G Tj (mkF m 81 lsj [])
    refine step (fun t k => XS.iloadN Xj.here hx rfl (hb hby at_81) (by rw [hlsj]; rfl) k) ?_
    show G Tj (mkF m 82 lsj [(.int p3)])
    refine step (fun t k => XS.sipush Xj.here hx rfl (hb hby at_82) k) ?_
    show G Tj (mkF m 85 lsj [(.int 255), (.int p3)])
    refine step (fun t k => XS.iand Xj.here hx rfl (hb hby at_85) rfl k) ?_
    show G Tj (mkF m 86 lsj [(.int (p3 &&& (255 : Int32)))])
    refine step (fun t k => XS.i2c Xj.here hx rfl (hb hby at_86) rfl k) ?_
    show G Tj (mkF m 87 lsj [(.int ((p3 &&& (255 : Int32)).toUInt32.toUInt16.toUInt32.toInt32))])
    rw [own_i2c (own_and255 p3)]
    show G Tj (mkF m 87 lsj [(.int (p3 &&& (255 : Int32)))])
    obtain ⟨ls9, hls9⟩  := own_sl #[.val (.int p0), .val (.int p1), .val (.int p2), .val (.int p3), .val (.int p4), .val (.int ((p0 &&& (2147483647 : Int32)) % (4 : Int32))), .val (.ref b3), .val (.int n_3), .val (.int (p1 &&& (3 : Int32))), .val (.int z9), .val (.int (p3 &&& (255 : Int32))), .unset, .unset, .unset]
    refine step (fun t k => XS.istore Xj.here hx rfl (hb hby at_87) rfl (l' := ls9) (by rw [hlsj, hls9]; rfl) k) ?_
    show G Tj (mkF m 89 ls9 [])
    refine step (fun t k => XS.iload Xj.here hx rfl (hb hby at_89) (by rw [hls9]; rfl) k) ?_
    show G Tj (mkF m 91 ls9 [(.int z9)])
    obtain ⟨T11, h11, k11, X11, e11, E11, A11, B11, st11⟩ := newPE (aty := .char) Xj hx hZ (ww26 hw) ej (g := (mkF m 91 ls9 [(.int z9)])) rfl (hb hby at_91) rfl hz9.1 (cap := 7) (own_cap7 hz9) (by decide) (by decide) (by decide) (ad := "[C") (by decide)
    obtain ⟨b11, g11⟩ : ∃ z, z = T3.heap.size := ⟨_, rfl⟩
    rw [← g11] at A11 B11 st11
    have V11 : Arv Z h11 b11 k11 .char z9 [] (.int 0) := Arv.new A11 hz9.1
    obtain ⟨cs11, V11, ca11⟩ := own_ca0 V11
    have cz11 : CHr Z own_EL T3.vm T3.heap T3.vm h11 := CHr.ext E11 C3.1
    have C11 : CHr Z own_EL s.vm h0 T3.vm h11 := C3.trans cz11
    have ge_b11 : n0 ≤ b11 := Nat.le_trans (own_old_le O3) (Nat.le_of_eq g11.symm)
    have lt_b3_b11 : b3 < b11 := Nat.lt_of_lt_of_le Y3_0.lt (Nat.le_of_eq g11.symm)
    have lt_t_3_b11 : t_3 < b11 := Nat.lt_of_lt_of_le Y3_3.lt (Nat.le_of_eq g11.symm)
    have O11 := O3.ext E11
    have hk11 := Nat.le_trans hk3 E11.1
    refine step st11 ?_
    show G T11 (mkF m 93 ls9 [(.ref b11)])
    obtain ⟨ls12, hls12⟩  := own_sl #[.val (.int p0), .val (.int p1), .val (.int p2), .val (.int p3), .val (.int p4), .val (.int ((p0 &&& (2147483647 : Int32)) % (4 : Int32))), .val (.ref b3), .val (.int n_3), .val (.int (p1 &&& (3 : Int32))), .val (.int z9), .val (.int (p3 &&& (255 : Int32))), .val (.ref b11), .unset, .unset]
    refine step (fun t k => XS.astore X11.here hx rfl (hb hby at_93) rfl rfl (l' := ls12) (by rw [hls9, hls12]; rfl) k) ?_
    show G T11 (mkF m 95 ls12 [])
    refine step (fun t k => XS.aload X11.here hx rfl (hb hby at_95) (by rw [hls12]; rfl) rfl k) ?_
    show G T11 (mkF m 97 ls12 [(.ref b11)])
    refine step (fun t k => XS.iconst X11.here hx rfl (hb hby at_97) k) ?_
    show G T11 (mkF m 98 ls12 [(.int 0), (.ref b11)])
    refine step (fun t k => XS.aload X11.here hx rfl (hb hby at_98) (by rw [hls12]; rfl) rfl k) ?_
    show G T11 (mkF m 100 ls12 [(.ref b3), (.int 0), (.ref b11)])
    refine step (fun t k => XS.iload X11.here hx rfl (hb hby at_100) (by rw [hls12]; rfl) k) ?_
    show G T11 (mkF m 102 ls12 [(.int n_3), (.ref b3), (.int 0), (.ref b11)])
    refine step (fun t k => XS.iload X11.here hx rfl (hb hby at_102) (by rw [hls12]; rfl) k) ?_
    show G T11 (mkF m 104 ls12 [(.int (p3 &&& (255 : Int32))), (.int n_3), (.ref b3), (.int 0), (.ref b11)])
    have f14 := (Exa.ext E11 Y3_0)
    have f15 := (Fld.ext E11 Y3_1)
    have f16 := (Fld.ext E11 Y3_2)
    have f17 := (Y3_3.ext E11)
    have hK13 := (backOf (R := room_1) (p := p) (e := e) (below := below) (args := #[(.int p0), (.int p1), (.int p2), (.int p3), (.int p4)]) (len := 3) (W := 0) (rm_put l Z a0 hw [] w__VALUES w_CAP w_RATE w_BUDGET w_COMPACT_STRINGS w_SIOOBE_FORMATTER w_tCAP w_vCAP w_tRATE w_vRATE w_tBUDGET w_vBUDGET b11 (0 : Int32) b3 n_3 (p3 &&& (255 : Int32)) t_3 kk_3 vs_3 z9 k11 cs11 h11 n0 (own_old_le O11) ST O11 f14 f15 f16 f17 V11 ge_b11 ca11 ((by decide) : ¬ ((0 : Int32) < (0 : Int32))) (own_and255 p3)) hZ (ww29 hw) (ww3 hw) (by decide) (by decide))
    obtain ⟨_, _, ⟨T13, L13, k13, n13⟩, -, X13, ⟨Lc13, hQ13, l13, y13, z13⟩, st13⟩ := Jvm.LawKit.callS X11 hx (y := y_8) hown (mvT hZ (ww27 hw)) (mvT hZ (ww28 hw)) (mvT hZ (ww3 hw)) (mvT hZ (ww29 hw)) (by decide) hK13 (g := (mkF m 104 ls12 [(.int (p3 &&& (255 : Int32))), (.int n_3), (.ref b3), (.int 0), (.ref b11)])) rfl (by rw [hml, hls12]; rfl) (argsL := [(.ref b11), (.int 0), (.ref b3), (.int n_3), (.int (p3 &&& (255 : Int32)))]) (rest := []) (lenOf pd_11 rfl) rfl (by show 2 * 0 + _ ≤ _; exact Nat.le_of_eq rfl) (hb hby at_104) (fun _ _ => ⟨rfl, e11, (by decide : 3 + 0 ≤ _), (by decide : 35 + 0 ≤ _)⟩)
    dsimp only [Pt.U, Pt.locs, Pt.cells, Pt.slots] at X13 l13 y13 z13 st13 hQ13
    subst l13 y13 z13
    obtain ⟨cr_13, rfl, N13q, K13q, Y13_0, Y13_1⟩ := hQ13
    have N13 := Fr.app Nj N13q
    obtain ⟨lc13, X13, N13⟩ := own_gen X13 N13
    have cz13 : CHr Z own_EL T3.vm h11 T3.vm T13.heap := CHr.keep K13q (allS (own_safeV hZ.alike V11 (by intro q; cases q)) all0) C11.1
    have C13 : CHr Z own_EL s.vm h0 T3.vm T13.heap := C11.trans cz13
    have O13 := O11.keep K13q (allS ge_b11 all0)
    have hk13 : _ ≤ T13.heap.size := Nat.le_trans hk11 K13q.1
    refine step (fun t k => st13 t k) ?_
    show G T13 (mkF m 107 ls12 [])
    refine step (fun t k => XS.aload X13.here hx rfl (hb hby at_107) (by rw [hls12]; rfl) rfl k) ?_
    show G T13 (mkF m 109 ls12 [(.ref b11)])
    refine step (fun t k => XS.iconst X13.here hx rfl (hb hby at_109) k) ?_
    show G T13 (mkF m 110 ls12 [(.int 1), (.ref b11)])
    refine step (fun t k => XS.aload X13.here hx rfl (hb hby at_110) (by rw [hls12]; rfl) rfl k) ?_
    show G T13 (mkF m 112 ls12 [(.ref b3), (.int 1), (.ref b11)])
    refine step (fun t k => XS.iload X13.here hx rfl (hb hby at_112) (by rw [hls12]; rfl) k) ?_
    show G T13 (mkF m 114 ls12 [(.int n_3), (.ref b3), (.int 1), (.ref b11)])
    refine step (fun t k => XS.iload X13.here hx rfl (hb hby at_114) (by rw [hls12]; rfl) k) ?_
    show G T13 (mkF m 116 ls12 [(.int (p3 &&& (255 : Int32))), (.int n_3), (.ref b3), (.int 1), (.ref b11)])
    have f19 := (Exa.keep f14 K13q)
    have f20 := (Fld.keep f15 K13q (ninS (Nat.ne_of_lt lt_b3_b11) nin0))
    have f21 := (Fld.keep f16 K13q (ninS (Nat.ne_of_lt lt_b3_b11) nin0))
    have f22 := (Arv.keep f17 K13q (ninS (Nat.ne_of_lt lt_t_3_b11) nin0))
    have hK18 := (backOf (R := room_1) (p := p) (e := e) (below := below) (args := #[(.int p0), (.int p1), (.int p2), (.int p3), (.int p4)]) (len := 3) (W := 0) (rm_put l Z a0 hw [] w__VALUES w_CAP w_RATE w_BUDGET w_COMPACT_STRINGS w_SIOOBE_FORMATTER w_tCAP w_vCAP w_tRATE w_vRATE w_tBUDGET w_vBUDGET b11 (1 : Int32) b3 n_3 (p3 &&& (255 : Int32)) t_3 kk_3 vs_3 z9 k11 cr_13 T13.heap n0 (own_old_le O13) ST O13 f19 f20 f21 f22 Y13_0 ge_b11 Y13_1 ((by decide) : ¬ ((1 : Int32) < (0 : Int32))) (own_and255 p3)) hZ (ww29 hw) (ww3 hw) (by decide) (by decide))
    obtain ⟨_, _, ⟨T18, L18, k18, n18⟩, -, X18, ⟨Lc18, hQ18, l18, y18, z18⟩, st18⟩ := Jvm.LawKit.callS X13 hx (y := y_8) hown (mvT hZ (ww27 hw)) (mvT hZ (ww28 hw)) (mvT hZ (ww3 hw)) (mvT hZ (ww29 hw)) (by decide) hK18 (g := (mkF m 116 ls12 [(.int (p3 &&& (255 : Int32))), (.int n_3), (.ref b3), (.int 1), (.ref b11)])) rfl (by rw [hml, hls12]; rfl) (argsL := [(.ref b11), (.int 1), (.ref b3), (.int n_3), (.int (p3 &&& (255 : Int32)))]) (rest := []) (lenOf pd_11 rfl) rfl (by show 2 * 0 + _ ≤ _; exact Nat.le_of_eq rfl) (hb hby at_116) (fun _ _ => ⟨rfl, rfl, (by decide : 3 + 0 ≤ _), (by decide : 35 + 0 ≤ _)⟩)
    dsimp only [Pt.U, Pt.locs, Pt.cells, Pt.slots] at X18 l18 y18 z18 st18 hQ18
    subst l18 y18 z18
    obtain ⟨cr_18, rfl, N18q, K18q, Y18_0, Y18_1⟩ := hQ18
    have N18 := Fr.app N13 N18q
    obtain ⟨lc18, X18, N18⟩ := own_gen X18 N18
    have cz18 : CHr Z own_EL T3.vm T13.heap T3.vm T18.heap := CHr.keep K18q (allS (own_safeV hZ.alike Y13_0 (by intro q; cases q)) all0) C13.1
    have C18 : CHr Z own_EL s.vm h0 T3.vm T18.heap := C13.trans cz18
    have O18 := O13.keep K18q (allS ge_b11 all0)
    have hk18 : _ ≤ T18.heap.size := Nat.le_trans hk13 K18q.1
    refine step (fun t k => st18 t k) ?_
    show G T18 (mkF m 119 ls12 [])
    refine step (fun t k => XS.aload X18.here hx rfl (hb hby at_119) (by rw [hls12]; rfl) rfl k) ?_
    show G T18 (mkF m 121 ls12 [(.ref b11)])
    refine step (fun t k => XS.iconst X18.here hx rfl (hb hby at_121) k) ?_
    show G T18 (mkF m 122 ls12 [(.int 2), (.ref b11)])
    refine step (fun t k => XS.aload X18.here hx rfl (hb hby at_122) (by rw [hls12]; rfl) rfl k) ?_
    show G T18 (mkF m 124 ls12 [(.ref b3), (.int 2), (.ref b11)])
    refine step (fun t k => XS.iload X18.here hx rfl (hb hby at_124) (by rw [hls12]; rfl) k) ?_
    show G T18 (mkF m 126 ls12 [(.int n_3), (.ref b3), (.int 2), (.ref b11)])
    refine step (fun t k => XS.iload X18.here hx rfl (hb hby at_126) (by rw [hls12]; rfl) k) ?_
    show G T18 (mkF m 128 ls12 [(.int (p3 &&& (255 : Int32))), (.int n_3), (.ref b3), (.int 2), (.ref b11)])
    have f24 := (Exa.keep f19 K18q)
    have f25 := (Fld.keep f20 K18q (ninS (Nat.ne_of_lt lt_b3_b11) nin0))
    have f26 := (Fld.keep f21 K18q (ninS (Nat.ne_of_lt lt_b3_b11) nin0))
    have f27 := (Arv.keep f22 K18q (ninS (Nat.ne_of_lt lt_t_3_b11) nin0))
    have hK23 := (backOf (R := room_1) (p := p) (e := e) (below := below) (args := #[(.int p0), (.int p1), (.int p2), (.int p3), (.int p4)]) (len := 3) (W := 0) (rm_put l Z a0 hw [] w__VALUES w_CAP w_RATE w_BUDGET w_COMPACT_STRINGS w_SIOOBE_FORMATTER w_tCAP w_vCAP w_tRATE w_vRATE w_tBUDGET w_vBUDGET b11 (2 : Int32) b3 n_3 (p3 &&& (255 : Int32)) t_3 kk_3 vs_3 z9 k11 cr_18 T18.heap n0 (own_old_le O18) ST O18 f24 f25 f26 f27 Y18_0 ge_b11 Y18_1 ((by decide) : ¬ ((2 : Int32) < (0 : Int32))) (own_and255 p3)) hZ (ww29 hw) (ww3 hw) (by decide) (by decide))
    obtain ⟨_, _, ⟨T23, L23, k23, n23⟩, -, X23, ⟨Lc23, hQ23, l23, y23, z23⟩, st23⟩ := Jvm.LawKit.callS X18 hx (y := y_8) hown (mvT hZ (ww27 hw)) (mvT hZ (ww28 hw)) (mvT hZ (ww3 hw)) (mvT hZ (ww29 hw)) (by decide) hK23 (g := (mkF m 128 ls12 [(.int (p3 &&& (255 : Int32))), (.int n_3), (.ref b3), (.int 2), (.ref b11)])) rfl (by rw [hml, hls12]; rfl) (argsL := [(.ref b11), (.int 2), (.ref b3), (.int n_3), (.int (p3 &&& (255 : Int32)))]) (rest := []) (lenOf pd_11 rfl) rfl (by show 2 * 0 + _ ≤ _; exact Nat.le_of_eq rfl) (hb hby at_128) (fun _ _ => ⟨rfl, rfl, (by decide : 3 + 0 ≤ _), (by decide : 35 + 0 ≤ _)⟩)
    dsimp only [Pt.U, Pt.locs, Pt.cells, Pt.slots] at X23 l23 y23 z23 st23 hQ23
    subst l23 y23 z23
    obtain ⟨cr_23, rfl, N23q, K23q, Y23_0, Y23_1⟩ := hQ23
    have N23 := Fr.app N18 N23q
    obtain ⟨lc23, X23, N23⟩ := own_gen X23 N23
    have cz23 : CHr Z own_EL T3.vm T18.heap T3.vm T23.heap := CHr.keep K23q (allS (own_safeV hZ.alike Y18_0 (by intro q; cases q)) all0) C18.1
    have C23 : CHr Z own_EL s.vm h0 T3.vm T23.heap := C18.trans cz23
    have O23 := O18.keep K23q (allS ge_b11 all0)
    have hk23 : _ ≤ T23.heap.size := Nat.le_trans hk18 K23q.1
    refine step (fun t k => st23 t k) ?_
    show G T23 (mkF m 131 ls12 [])
    refine step (fun t k => XS.aload X23.here hx rfl (hb hby at_131) (by rw [hls12]; rfl) rfl k) ?_
    show G T23 (mkF m 133 ls12 [(.ref b11)])
    refine step (fun t k => XS.iconst X23.here hx rfl (hb hby at_133) k) ?_
    show G T23 (mkF m 134 ls12 [(.int 3), (.ref b11)])
    refine step (fun t k => XS.aload X23.here hx rfl (hb hby at_134) (by rw [hls12]; rfl) rfl k) ?_
    show G T23 (mkF m 136 ls12 [(.ref b3), (.int 3), (.ref b11)])
    refine step (fun t k => XS.iload X23.here hx rfl (hb hby at_136) (by rw [hls12]; rfl) k) ?_
    show G T23 (mkF m 138 ls12 [(.int n_3), (.ref b3), (.int 3), (.ref b11)])
    refine step (fun t k => XS.iload X23.here hx rfl (hb hby at_138) (by rw [hls12]; rfl) k) ?_
    show G T23 (mkF m 140 ls12 [(.int (p3 &&& (255 : Int32))), (.int n_3), (.ref b3), (.int 3), (.ref b11)])
    have f29 := (Exa.keep f24 K23q)
    have f30 := (Fld.keep f25 K23q (ninS (Nat.ne_of_lt lt_b3_b11) nin0))
    have f31 := (Fld.keep f26 K23q (ninS (Nat.ne_of_lt lt_b3_b11) nin0))
    have f32 := (Arv.keep f27 K23q (ninS (Nat.ne_of_lt lt_t_3_b11) nin0))
    have hK28 := (backOf (R := room_1) (p := p) (e := e) (below := below) (args := #[(.int p0), (.int p1), (.int p2), (.int p3), (.int p4)]) (len := 3) (W := 0) (rm_put l Z a0 hw [] w__VALUES w_CAP w_RATE w_BUDGET w_COMPACT_STRINGS w_SIOOBE_FORMATTER w_tCAP w_vCAP w_tRATE w_vRATE w_tBUDGET w_vBUDGET b11 (3 : Int32) b3 n_3 (p3 &&& (255 : Int32)) t_3 kk_3 vs_3 z9 k11 cr_23 T23.heap n0 (own_old_le O23) ST O23 f29 f30 f31 f32 Y23_0 ge_b11 Y23_1 ((by decide) : ¬ ((3 : Int32) < (0 : Int32))) (own_and255 p3)) hZ (ww29 hw) (ww3 hw) (by decide) (by decide))
    obtain ⟨_, _, ⟨T28, L28, k28, n28⟩, -, X28, ⟨Lc28, hQ28, l28, y28, z28⟩, st28⟩ := Jvm.LawKit.callS X23 hx (y := y_8) hown (mvT hZ (ww27 hw)) (mvT hZ (ww28 hw)) (mvT hZ (ww3 hw)) (mvT hZ (ww29 hw)) (by decide) hK28 (g := (mkF m 140 ls12 [(.int (p3 &&& (255 : Int32))), (.int n_3), (.ref b3), (.int 3), (.ref b11)])) rfl (by rw [hml, hls12]; rfl) (argsL := [(.ref b11), (.int 3), (.ref b3), (.int n_3), (.int (p3 &&& (255 : Int32)))]) (rest := []) (lenOf pd_11 rfl) rfl (by show 2 * 0 + _ ≤ _; exact Nat.le_of_eq rfl) (hb hby at_140) (fun _ _ => ⟨rfl, rfl, (by decide : 3 + 0 ≤ _), (by decide : 35 + 0 ≤ _)⟩)
    dsimp only [Pt.U, Pt.locs, Pt.cells, Pt.slots] at X28 l28 y28 z28 st28 hQ28
    subst l28 y28 z28
    obtain ⟨cr_28, rfl, N28q, K28q, Y28_0, Y28_1⟩ := hQ28
    have N28 := Fr.app N23 N28q
    obtain ⟨lc28, X28, N28⟩ := own_gen X28 N28
    have cz28 : CHr Z own_EL T3.vm T23.heap T3.vm T28.heap := CHr.keep K28q (allS (own_safeV hZ.alike Y23_0 (by intro q; cases q)) all0) C23.1
    have C28 : CHr Z own_EL s.vm h0 T3.vm T28.heap := C23.trans cz28
    have O28 := O23.keep K28q (allS ge_b11 all0)
    have hk28 : _ ≤ T28.heap.size := Nat.le_trans hk23 K28q.1
    refine step (fun t k => st28 t k) ?_
    show G T28 (mkF m 143 ls12 [])
    refine step (fun t k => XS.aload X28.here hx rfl (hb hby at_143) (by rw [hls12]; rfl) rfl k) ?_
    show G T28 (mkF m 145 ls12 [(.ref b11)])
    refine step (fun t k => XS.iconst X28.here hx rfl (hb hby at_145) k) ?_
    show G T28 (mkF m 146 ls12 [(.int 4), (.ref b11)])
    refine step (fun t k => XS.aload X28.here hx rfl (hb hby at_146) (by rw [hls12]; rfl) rfl k) ?_
    show G T28 (mkF m 148 ls12 [(.ref b3), (.int 4), (.ref b11)])
    refine step (fun t k => XS.iload X28.here hx rfl (hb hby at_148) (by rw [hls12]; rfl) k) ?_
    show G T28 (mkF m 150 ls12 [(.int n_3), (.ref b3), (.int 4), (.ref b11)])
    refine step (fun t k => XS.iload X28.here hx rfl (hb hby at_150) (by rw [hls12]; rfl) k) ?_
    show G T28 (mkF m 152 ls12 [(.int (p3 &&& (255 : Int32))), (.int n_3), (.ref b3), (.int 4), (.ref b11)])
    have f34 := (Exa.keep f29 K28q)
    have f35 := (Fld.keep f30 K28q (ninS (Nat.ne_of_lt lt_b3_b11) nin0))
    have f36 := (Fld.keep f31 K28q (ninS (Nat.ne_of_lt lt_b3_b11) nin0))
    have f37 := (Arv.keep f32 K28q (ninS (Nat.ne_of_lt lt_t_3_b11) nin0))
    have hK33 := (backOf (R := room_1) (p := p) (e := e) (below := below) (args := #[(.int p0), (.int p1), (.int p2), (.int p3), (.int p4)]) (len := 3) (W := 0) (rm_put l Z a0 hw [] w__VALUES w_CAP w_RATE w_BUDGET w_COMPACT_STRINGS w_SIOOBE_FORMATTER w_tCAP w_vCAP w_tRATE w_vRATE w_tBUDGET w_vBUDGET b11 (4 : Int32) b3 n_3 (p3 &&& (255 : Int32)) t_3 kk_3 vs_3 z9 k11 cr_28 T28.heap n0 (own_old_le O28) ST O28 f34 f35 f36 f37 Y28_0 ge_b11 Y28_1 ((by decide) : ¬ ((4 : Int32) < (0 : Int32))) (own_and255 p3)) hZ (ww29 hw) (ww3 hw) (by decide) (by decide))
    obtain ⟨_, _, ⟨T33, L33, k33, n33⟩, -, X33, ⟨Lc33, hQ33, l33, y33, z33⟩, st33⟩ := Jvm.LawKit.callS X28 hx (y := y_8) hown (mvT hZ (ww27 hw)) (mvT hZ (ww28 hw)) (mvT hZ (ww3 hw)) (mvT hZ (ww29 hw)) (by decide) hK33 (g := (mkF m 152 ls12 [(.int (p3 &&& (255 : Int32))), (.int n_3), (.ref b3), (.int 4), (.ref b11)])) rfl (by rw [hml, hls12]; rfl) (argsL := [(.ref b11), (.int 4), (.ref b3), (.int n_3), (.int (p3 &&& (255 : Int32)))]) (rest := []) (lenOf pd_11 rfl) rfl (by show 2 * 0 + _ ≤ _; exact Nat.le_of_eq rfl) (hb hby at_152) (fun _ _ => ⟨rfl, rfl, (by decide : 3 + 0 ≤ _), (by decide : 35 + 0 ≤ _)⟩)
    dsimp only [Pt.U, Pt.locs, Pt.cells, Pt.slots] at X33 l33 y33 z33 st33 hQ33
    subst l33 y33 z33
    obtain ⟨cr_33, rfl, N33q, K33q, Y33_0, Y33_1⟩ := hQ33
    have N33 := Fr.app N28 N33q
    obtain ⟨lc33, X33, N33⟩ := own_gen X33 N33
    have cz33 : CHr Z own_EL T3.vm T28.heap T3.vm T33.heap := CHr.keep K33q (allS (own_safeV hZ.alike Y28_0 (by intro q; cases q)) all0) C28.1
    have C33 : CHr Z own_EL s.vm h0 T3.vm T33.heap := C28.trans cz33
    have O33 := O28.keep K33q (allS ge_b11 all0)
    have hk33 : _ ≤ T33.heap.size := Nat.le_trans hk28 K33q.1
    refine step (fun t k => st33 t k) ?_
    show G T33 (mkF m 155 ls12 [])
    refine step (fun t k => XS.aload X33.here hx rfl (hb hby at_155) (by rw [hls12]; rfl) rfl k) ?_
    show G T33 (mkF m 157 ls12 [(.ref b11)])
    refine step (fun t k => XS.iconst X33.here hx rfl (hb hby at_157) k) ?_
    show G T33 (mkF m 158 ls12 [(.int 5), (.ref b11)])
    refine step (fun t k => XS.aload X33.here hx rfl (hb hby at_158) (by rw [hls12]; rfl) rfl k) ?_
    show G T33 (mkF m 160 ls12 [(.ref b3), (.int 5), (.ref b11)])
    refine step (fun t k => XS.iload X33.here hx rfl (hb hby at_160) (by rw [hls12]; rfl) k) ?_
    show G T33 (mkF m 162 ls12 [(.int n_3), (.ref b3), (.int 5), (.ref b11)])
    refine step (fun t k => XS.iload X33.here hx rfl (hb hby at_162) (by rw [hls12]; rfl) k) ?_
    show G T33 (mkF m 164 ls12 [(.int (p3 &&& (255 : Int32))), (.int n_3), (.ref b3), (.int 5), (.ref b11)])
    have f39 := (Exa.keep f34 K33q)
    have f40 := (Fld.keep f35 K33q (ninS (Nat.ne_of_lt lt_b3_b11) nin0))
    have f41 := (Fld.keep f36 K33q (ninS (Nat.ne_of_lt lt_b3_b11) nin0))
    have f42 := (Arv.keep f37 K33q (ninS (Nat.ne_of_lt lt_t_3_b11) nin0))
    have hK38 := (backOf (R := room_1) (p := p) (e := e) (below := below) (args := #[(.int p0), (.int p1), (.int p2), (.int p3), (.int p4)]) (len := 3) (W := 0) (rm_put l Z a0 hw [] w__VALUES w_CAP w_RATE w_BUDGET w_COMPACT_STRINGS w_SIOOBE_FORMATTER w_tCAP w_vCAP w_tRATE w_vRATE w_tBUDGET w_vBUDGET b11 (5 : Int32) b3 n_3 (p3 &&& (255 : Int32)) t_3 kk_3 vs_3 z9 k11 cr_33 T33.heap n0 (own_old_le O33) ST O33 f39 f40 f41 f42 Y33_0 ge_b11 Y33_1 ((by decide) : ¬ ((5 : Int32) < (0 : Int32))) (own_and255 p3)) hZ (ww29 hw) (ww3 hw) (by decide) (by decide))
    obtain ⟨_, _, ⟨T38, L38, k38, n38⟩, -, X38, ⟨Lc38, hQ38, l38, y38, z38⟩, st38⟩ := Jvm.LawKit.callS X33 hx (y := y_8) hown (mvT hZ (ww27 hw)) (mvT hZ (ww28 hw)) (mvT hZ (ww3 hw)) (mvT hZ (ww29 hw)) (by decide) hK38 (g := (mkF m 164 ls12 [(.int (p3 &&& (255 : Int32))), (.int n_3), (.ref b3), (.int 5), (.ref b11)])) rfl (by rw [hml, hls12]; rfl) (argsL := [(.ref b11), (.int 5), (.ref b3), (.int n_3), (.int (p3 &&& (255 : Int32)))]) (rest := []) (lenOf pd_11 rfl) rfl (by show 2 * 0 + _ ≤ _; exact Nat.le_of_eq rfl) (hb hby at_164) (fun _ _ => ⟨rfl, rfl, (by decide : 3 + 0 ≤ _), (by decide : 35 + 0 ≤ _)⟩)
    dsimp only [Pt.U, Pt.locs, Pt.cells, Pt.slots] at X38 l38 y38 z38 st38 hQ38
    subst l38 y38 z38
    obtain ⟨cr_38, rfl, N38q, K38q, Y38_0, Y38_1⟩ := hQ38
    have N38 := Fr.app N33 N38q
    obtain ⟨lc38, X38, N38⟩ := own_gen X38 N38
    have cz38 : CHr Z own_EL T3.vm T33.heap T3.vm T38.heap := CHr.keep K38q (allS (own_safeV hZ.alike Y33_0 (by intro q; cases q)) all0) C33.1
    have C38 : CHr Z own_EL s.vm h0 T3.vm T38.heap := C33.trans cz38
    have O38 := O33.keep K38q (allS ge_b11 all0)
    have hk38 : _ ≤ T38.heap.size := Nat.le_trans hk33 K38q.1
    refine step (fun t k => st38 t k) ?_
    show G T38 (mkF m 167 ls12 [])
    refine step (fun t k => XS.aload X38.here hx rfl (hb hby at_167) (by rw [hls12]; rfl) rfl k) ?_
    show G T38 (mkF m 169 ls12 [(.ref b11)])
    refine step (fun t k => XS.bipush X38.here hx rfl (hb hby at_169) k) ?_
    show G T38 (mkF m 171 ls12 [(.int 6), (.ref b11)])
    refine step (fun t k => XS.aload X38.here hx rfl (hb hby at_171) (by rw [hls12]; rfl) rfl k) ?_
    show G T38 (mkF m 173 ls12 [(.ref b3), (.int 6), (.ref b11)])
    refine step (fun t k => XS.iload X38.here hx rfl (hb hby at_173) (by rw [hls12]; rfl) k) ?_
    show G T38 (mkF m 175 ls12 [(.int n_3), (.ref b3), (.int 6), (.ref b11)])
    refine step (fun t k => XS.iload X38.here hx rfl (hb hby at_175) (by rw [hls12]; rfl) k) ?_
    show G T38 (mkF m 177 ls12 [(.int (p3 &&& (255 : Int32))), (.int n_3), (.ref b3), (.int 6), (.ref b11)])
    have f44 := (Exa.keep f39 K38q)
    have f45 := (Fld.keep f40 K38q (ninS (Nat.ne_of_lt lt_b3_b11) nin0))
    have f46 := (Fld.keep f41 K38q (ninS (Nat.ne_of_lt lt_b3_b11) nin0))
    have f47 := (Arv.keep f42 K38q (ninS (Nat.ne_of_lt lt_t_3_b11) nin0))
    have hK43 := (backOf (R := room_1) (p := p) (e := e) (below := below) (args := #[(.int p0), (.int p1), (.int p2), (.int p3), (.int p4)]) (len := 3) (W := 0) (rm_put l Z a0 hw [] w__VALUES w_CAP w_RATE w_BUDGET w_COMPACT_STRINGS w_SIOOBE_FORMATTER w_tCAP w_vCAP w_tRATE w_vRATE w_tBUDGET w_vBUDGET b11 (6 : Int32) b3 n_3 (p3 &&& (255 : Int32)) t_3 kk_3 vs_3 z9 k11 cr_38 T38.heap n0 (own_old_le O38) ST O38 f44 f45 f46 f47 Y38_0 ge_b11 Y38_1 ((by decide) : ¬ ((6 : Int32) < (0 : Int32))) (own_and255 p3)) hZ (ww29 hw) (ww3 hw) (by decide) (by decide))
    obtain ⟨_, _, ⟨T43, L43, k43, n43⟩, -, X43, ⟨Lc43, hQ43, l43, y43, z43⟩, st43⟩ := Jvm.LawKit.callS X38 hx (y := y_8) hown (mvT hZ (ww27 hw)) (mvT hZ (ww28 hw)) (mvT hZ (ww3 hw)) (mvT hZ (ww29 hw)) (by decide) hK43 (g := (mkF m 177 ls12 [(.int (p3 &&& (255 : Int32))), (.int n_3), (.ref b3), (.int 6), (.ref b11)])) rfl (by rw [hml, hls12]; rfl) (argsL := [(.ref b11), (.int 6), (.ref b3), (.int n_3), (.int (p3 &&& (255 : Int32)))]) (rest := []) (lenOf pd_11 rfl) rfl (by show 2 * 0 + _ ≤ _; exact Nat.le_of_eq rfl) (hb hby at_177) (fun _ _ => ⟨rfl, rfl, (by decide : 3 + 0 ≤ _), (by decide : 35 + 0 ≤ _)⟩)
    dsimp only [Pt.U, Pt.locs, Pt.cells, Pt.slots] at X43 l43 y43 z43 st43 hQ43
    subst l43 y43 z43
    obtain ⟨cr_43, rfl, N43q, K43q, Y43_0, Y43_1⟩ := hQ43
    have N43 := Fr.app N38 N43q
    obtain ⟨lc43, X43, N43⟩ := own_gen X43 N43
    have cz43 : CHr Z own_EL T3.vm T38.heap T3.vm T43.heap := CHr.keep K43q (allS (own_safeV hZ.alike Y38_0 (by intro q; cases q)) all0) C38.1
    have C43 : CHr Z own_EL s.vm h0 T3.vm T43.heap := C38.trans cz43
    have O43 := O38.keep K43q (allS ge_b11 all0)
    have hk43 : _ ≤ T43.heap.size := Nat.le_trans hk38 K43q.1
    refine step (fun t k => st43 t k) ?_
    show G T43 (mkF m 180 ls12 [])
    obtain ⟨k9, hS, hk9⟩ : ∃ k, s.Since T3.vm k ∧ k ≤ T43.heap.size := ⟨_, hS, hk43⟩
    have J204 : ∀ (Tk : State) (lck : List Loc) (hj2 : Heap) (csk : List Int32), Stand p l e room_1 (s.setVm T3.vm) m #[(.int p0), (.int p1), (.int p2), (.int p3), (.int p4)] below meth c Tk lck 3 35 → Tk.heap = hj2 → Fr n0 lck → Old Z n0 hj2 → k9 ≤ hj2.size → CHr Z own_EL s.vm h0 T3.vm hj2 → Arv Z hj2 b11 k11 .char z9 (csk.map Value.int) (.int 0) → own_ca z9 csk → G Tk (mkF m 204 ls12 []) := by
      intro Tk lck hj2 csk Xk ek Nk Ok hkk Ck Vk cak
      have J221 : G Tk (mkF m 221 ls12 []) := by
        show G Tk (mkF m 221 ls12 [])
        obtain ⟨T48, h48, X48, e48, E48, A48, D48, -, st48⟩ := newO Xk hx hZ hown (ww30 hw) (ww7 hw) (ww6 hw) ek (g := (mkF m 221 ls12 [])) rfl (hb hby at_221) (by decide) (by decide)
        obtain ⟨b48, g48⟩ : ∃ z, z = hj2.size := ⟨_, rfl⟩
        rw [← g48] at A48 D48 st48
        have cz48 : CHr Z own_EL T3.vm hj2 T3.vm h48 := CHr.ext E48 Ck.1
        have C48 : CHr Z own_EL s.vm h0 T3.vm h48 := Ck.trans cz48
        have ge_b48 : n0 ≤ b48 := Nat.le_trans (own_old_le Ok) (Nat.le_of_eq g48.symm)
        have lt_b11_b48 : b11 < b48 := Nat.lt_of_lt_of_le Vk.lt (Nat.le_of_eq g48.symm)
        have O48 := Ok.ext E48
        have hk48 := Nat.le_trans hkk E48.1
        have F48_value : Fld Z h48 b48 cn_2 "value" "[B" .null := D48 (Or.inr (ww9 hw)) (ty := (.array .byte)) (by decide)
        have F48_coder : Fld Z h48 b48 cn_2 "coder" "B" (.int 0) := D48 (Or.inr (ww10 hw)) (ty := .byte) (by decide)
        refine step st48 ?_
        show G T48 (mkF m 224 ls12 [(.ref b48)])
        refine step (fun t k => XS.dup X48.here hx rfl (hb hby at_224) rfl rfl k) ?_
        show G T48 (mkF m 225 ls12 [(.ref b48), (.ref b48)])
        refine step (fun t k => XS.aload X48.here hx rfl (hb hby at_225) (by rw [hls12]; rfl) rfl k) ?_
        show G T48 (mkF m 227 ls12 [(.ref b11), (.ref b48), (.ref b48)])
        have f49 := (Vk.ext E48)
        rcases own_z8 hz9 with rfl | rfl | rfl | rfl | rfl | rfl | rfl | rfl
        · skip
          obtain rfl := own_c0s cak
          have Vz : Arv Z h48 b11 k11 .char (0 : Int32) [] (.int 0) := f49
          show G T48 (mkF m 227 ls12 [(.ref b11), (.ref b48), (.ref b48)])
          have hK50 := (backOfSH (s := s) (vm0 := T3.vm) (R := room_1) (p := p) (e := e) (below := below) (args := #[(.int p0), (.int p1), (.int p2), (.int p3), (.int p4)]) (len := 3) (W := 1) (rm_si l Z a0 hw [] w__VALUES w_CAP w_RATE w_BUDGET w_COMPACT_STRINGS w_SIOOBE_FORMATTER w_tCAP w_vCAP w_tRATE w_vRATE w_tBUDGET w_vBUDGET b48 b11 k11 h48 n0 (own_old_le O48) ST O48 A48 ge_b48 F48_value F48_coder Vz) hZ (ww33 hw) (ww6 hw) (by decide) (by decide) (own_EW hw) C48.1)
          obtain ⟨_, _, ⟨T50, L50, k50, n50⟩, -, X50, hS50, hg50, ⟨Lc50, hQ50, l50, y50, z50, hC50⟩, st50⟩ := X48.specialBackS hx (y := y_10) rfl hown (mvT hZ (ww31 hw)) (mvT hZ (ww32 hw)) (mvT hZ (ww33 hw)) (by decide) hK50 (g := (mkF m 227 ls12 [(.ref b11), (.ref b48), (.ref b48)])) rfl (by rw [hml, hls12]; rfl) (Steps.refl _) (a := b48) (argsL := [(.ref b11)]) (rest := [(.ref b48)]) (lenOf pd_12 rfl) rfl (by show 2 * 0 + _ ≤ _; exact Nat.le_of_eq rfl) (hb hby at_227) (fun _ _ => ⟨rfl, e48, (by decide : 4 + 4 ≤ _), (by decide : 39 + 8 ≤ _)⟩)
          dsimp only [Pt.U, Pt.locs, Pt.cells, Pt.slots] at X50 l50 y50 z50 st50 hQ50 hS50 hg50 hC50
          subst l50 y50 z50
          obtain ⟨X50, hS, hZ, hown⟩ := rebS (s := s) hS (by rw [e48]; exact hk48) X50 hS50 hg50 hZ hown
          obtain ⟨t_50, kk_50, rfl, N50q, K50q, Y50_0, Y50_1, Y50_2, Y50_3⟩ := hQ50
          have N50 := Fr.app Nk N50q
          obtain ⟨lc50, X50, N50⟩ := own_gen X50 N50
          have cz50 : CHr Z own_EL T3.vm h48 T50.vm T50.heap := hC50
          have C50 : CHr Z own_EL s.vm h0 T50.vm T50.heap := C48.trans cz50
          have O50 := O48.keep K50q (allS ge_b48 all0)
          have hk50 : _ ≤ T50.heap.size := Nat.le_refl _
          refine step (fun t k => st50.trans k) ?_
          show G T50 (mkF m 230 ls12 [(.ref b48)])
          obtain ⟨ls51, hls51⟩  := own_sl #[.val (.int p0), .val (.int p1), .val (.int p2), .val (.int p3), .val (.int p4), .val (.int ((p0 &&& (2147483647 : Int32)) % (4 : Int32))), .val (.ref b3), .val (.int n_3), .val (.int (p1 &&& (3 : Int32))), .val (.int 0), .val (.int (p3 &&& (255 : Int32))), .val (.ref b11), .val (.ref b48), .unset]
          refine step (fun t k => XS.astore X50.here hx rfl (hb hby at_230) rfl rfl (l' := ls51) (by rw [hls12, hls51]; rfl) k) ?_
          show G T50 (mkF m 232 ls51 [])
          refine step (fun t k => XS.aload X50.here hx rfl (hb hby at_232) (by rw [hls51]; rfl) rfl k) ?_
          show G T50 (mkF m 234 ls51 [(.ref b48)])
          have hK52 := (backOf (R := room_1) (p := p) (e := e) (below := below) (args := #[(.int p0), (.int p1), (.int p2), (.int p3), (.int p4)]) (len := 3) (W := 0) (rm_nm l Z a0 hw [] w__VALUES w_CAP w_RATE w_BUDGET w_COMPACT_STRINGS w_SIOOBE_FORMATTER w_tCAP w_vCAP w_tRATE w_vRATE w_tBUDGET w_vBUDGET b48 t_50 kk_50 (0 : Int32) ([]) ([]) T50.heap n0 (own_old_le O50) ST O50 Y50_0 Y50_1 Y50_2 Y50_3 own_spE) hZ (ww45 hw) (ww44 hw) (by decide) (by decide))
          obtain ⟨_, _, ⟨T52, L52, k52, n52⟩, -, X52, ⟨Lc52, hQ52, l52, y52, z52⟩, st52⟩ := Jvm.LawKit.callS X50 hx (y := y_14) hown (mvT hZ (ww42 hw)) (mvT hZ (ww43 hw)) (mvT hZ (ww44 hw)) (mvT hZ (ww45 hw)) (by decide) hK52 (g := (mkF m 234 ls51 [(.ref b48)])) rfl (by rw [hml, hls51]; rfl) (argsL := [(.ref b48)]) (rest := []) (lenOf pd_13 rfl) rfl (by show 2 * 0 + _ ≤ _; exact Nat.le_of_eq rfl) (hb hby at_234) (fun _ _ => ⟨rfl, rfl, (by decide : 8 + 1 ≤ _), (by decide : 47 + 3 ≤ _)⟩)
          dsimp only [Pt.U, Pt.locs, Pt.cells, Pt.slots] at X52 l52 y52 z52 st52 hQ52
          subst l52 y52 z52
          obtain ⟨r_52, rfl, N52q, K52q, Y52_0⟩ := hQ52
          have N52 := Fr.app N50 N52q
          obtain ⟨lc52, X52, N52⟩ := own_gen X52 N52
          have cz52 : CHr Z own_EL T50.vm T50.heap T50.vm T52.heap := CHr.keep K52q all0 C50.1
          have C52 : CHr Z own_EL s.vm h0 T50.vm T52.heap := C50.trans cz52
          have O52 := O50.keep K52q all0
          have hk52 : _ ≤ T52.heap.size := Nat.le_trans hk50 K52q.1
          refine step (fun t k => st52 t k) ?_
          show G T52 (mkF m 237 ls51 [r_52])
          rcases ref_cases (own_pk_r Y52_0) with rfl | ⟨bz, rfl⟩
          · skip
            obtain ⟨ls53, hls53⟩  := own_sl #[.val (.int p0), .val (.int p1), .val (.int p2), .val (.int p3), .val (.int p4), .val (.int ((p0 &&& (2147483647 : Int32)) % (4 : Int32))), .val (.ref b3), .val (.int n_3), .val (.int (p1 &&& (3 : Int32))), .val (.int 0), .val (.int (p3 &&& (255 : Int32))), .val (.ref b11), .val (.ref b48), .val .null]
            refine step (fun t k => XS.astore X52.here hx rfl (hb hby at_237) rfl rfl (l' := ls53) (by rw [hls51, hls53]; rfl) k) ?_
            show G T52 (mkF m 239 ls53 [])
            refine step (fun t k => XS.aload X52.here hx rfl (hb hby at_239) (by rw [hls53]; rfl) rfl k) ?_
            show G T52 (mkF m 241 ls53 [.null])
            refine step (fun t k => XS.aload X52.here hx rfl (hb hby at_241) (by rw [hls53]; rfl) rfl k) ?_
            show G T52 (mkF m 243 ls53 [(.ref b48), .null])
            have f55 := (Exa.keep Y50_0 K52q)
            have f56 := (Fld.keep Y50_1 K52q nin0)
            have f57 := (Fld.keep Y50_2 K52q nin0)
            have f58 := (Arv.keep Y50_3 K52q nin0)
            have hK54 := (backOfSH (s := s) (vm0 := T50.vm) (R := room_1) (p := p) (e := e) (below := below) (args := #[(.int p0), (.int p1), (.int p2), (.int p3), (.int p4)]) (len := 3) (W := 1) (rm_ex l Z a0 hw [] w__VALUES w_CAP w_RATE w_BUDGET w_COMPACT_STRINGS w_SIOOBE_FORMATTER w_tCAP w_vCAP w_tRATE w_vRATE w_tBUDGET w_vBUDGET b48 t_50 kk_50 (0 : Int32) ([]) ([]) T52.heap n0 (own_old_le O52) ST O52 f55 f56 f57 f58 own_spE) hZ (ww78 hw) (ww3 hw) (by decide) (by decide) (own_EW hw) C52.1)
            obtain ⟨_, _, ⟨T54, L54, k54, n54⟩, -, X54, hS54, hg54, ⟨Lc54, hQ54, l54, y54, z54, hC54⟩, st54⟩ := callSS X52 hx (y := y_15) hown (mvT hZ (ww76 hw)) (mvT hZ (ww77 hw)) (mvT hZ (ww3 hw)) (mvT hZ (ww78 hw)) (by decide) hK54 (g := (mkF m 243 ls53 [(.ref b48), .null])) rfl (by rw [hml, hls53]; rfl) (argsL := [(.ref b48)]) (rest := [.null]) (lenOf pd_13 rfl) rfl (by show 2 * 0 + _ ≤ _; exact Nat.le_of_eq rfl) (hb hby at_243) (fun _ _ => ⟨rfl, rfl, (by decide : 9 + 6 ≤ _), (by decide : 50 + 64 ≤ _)⟩)
            dsimp only [Pt.U, Pt.locs, Pt.cells, Pt.slots] at X54 l54 y54 z54 st54 hQ54 hS54 hg54 hC54
            subst l54 y54 z54
            obtain ⟨X54, hS, hZ, hown⟩ := rebS (s := s) hS hk52 X54 hS54 hg54 hZ hown
            obtain ⟨r_54, rfl, N54q, K54q, Y54_0⟩ := hQ54
            have N54 := Fr.app N52 N54q
            obtain ⟨lc54, X54, N54⟩ := own_gen X54 N54
            have cz54 : CHr Z own_EL T50.vm T52.heap T54.vm T54.heap := hC54
            have C54 : CHr Z own_EL s.vm h0 T54.vm T54.heap := C52.trans cz54
            have O54 := O52.keep K54q all0
            have hk54 : _ ≤ T54.heap.size := Nat.le_refl _
            obtain rfl : r_54 = .null := own_pk_u Y52_0 Y54_0
            refine step (fun t k => st54.trans k) ?_
            show G T54 (mkF m 246 ls53 [.null, .null])
            refine step (fun t k => Jvm.RoadKit.acmp X54 hx rfl rfl rfl (pc0 := 246) (pc' := 249) (same := true) rfl (hb hby at_246) rfl (decide_eq_true rfl) (by decide) (by decide) k) ?_
            show G T54 (mkF m 249 ls53 [])
            refine step (fun t k => XS.iconst X54.here hx rfl (hb hby at_249) k) ?_
            show G T54 (mkF m 250 ls53 [(.int 1)])
            refine step (fun t k => XS.goto X54.here hx rfl (pc0 := 250) (pc' := 254) rfl (hb hby at_250) (by decide) (by decide) k) ?_
            show G T54 (mkF m 254 ls53 [(.int 1)])
            exact ret (v := some (.int 1)) X54 hS hk54 C54 hZ (fun h => by rw [Bd.returns] at h; cases h) (fun fs hr => retN X54 hx (t := .boolean) Bd.returns (by simp) (hb hby at_254) hr) rfl ⟨rfl, N54⟩ (by decide) (by decide)
          · skip
            obtain ⟨ls59, hls59⟩  := own_sl #[.val (.int p0), .val (.int p1), .val (.int p2), .val (.int p3), .val (.int p4), .val (.int ((p0 &&& (2147483647 : Int32)) % (4 : Int32))), .val (.ref b3), .val (.int n_3), .val (.int (p1 &&& (3 : Int32))), .val (.int 0), .val (.int (p3 &&& (255 : Int32))), .val (.ref b11), .val (.ref b48), .val (.ref bz)]
            refine step (fun t k => XS.astore X52.here hx rfl (hb hby at_237) rfl rfl (l' := ls59) (by rw [hls51, hls59]; rfl) k) ?_
            show G T52 (mkF m 239 ls59 [])
            refine step (fun t k => XS.aload X52.here hx rfl (hb hby at_239) (by rw [hls59]; rfl) rfl k) ?_
            show G T52 (mkF m 241 ls59 [(.ref bz)])
            refine step (fun t k => XS.aload X52.here hx rfl (hb hby at_241) (by rw [hls59]; rfl) rfl k) ?_
            show G T52 (mkF m 243 ls59 [(.ref b48), (.ref bz)])
            have f61 := (Exa.keep Y50_0 K52q)
            have f62 := (Fld.keep Y50_1 K52q nin0)
            have f63 := (Fld.keep Y50_2 K52q nin0)
            have f64 := (Arv.keep Y50_3 K52q nin0)
            have hK60 := (backOfSH (s := s) (vm0 := T50.vm) (R := room_1) (p := p) (e := e) (below := below) (args := #[(.int p0), (.int p1), (.int p2), (.int p3), (.int p4)]) (len := 3) (W := 1) (rm_ex l Z a0 hw [] w__VALUES w_CAP w_RATE w_BUDGET w_COMPACT_STRINGS w_SIOOBE_FORMATTER w_tCAP w_vCAP w_tRATE w_vRATE w_tBUDGET w_vBUDGET b48 t_50 kk_50 (0 : Int32) ([]) ([]) T52.heap n0 (own_old_le O52) ST O52 f61 f62 f63 f64 own_spE) hZ (ww78 hw) (ww3 hw) (by decide) (by decide) (own_EW hw) C52.1)
            obtain ⟨_, _, ⟨T60, L60, k60, n60⟩, -, X60, hS60, hg60, ⟨Lc60, hQ60, l60, y60, z60, hC60⟩, st60⟩ := callSS X52 hx (y := y_15) hown (mvT hZ (ww76 hw)) (mvT hZ (ww77 hw)) (mvT hZ (ww3 hw)) (mvT hZ (ww78 hw)) (by decide) hK60 (g := (mkF m 243 ls59 [(.ref b48), (.ref bz)])) rfl (by rw [hml, hls59]; rfl) (argsL := [(.ref b48)]) (rest := [(.ref bz)]) (lenOf pd_13 rfl) rfl (by show 2 * 0 + _ ≤ _; exact Nat.le_of_eq rfl) (hb hby at_243) (fun _ _ => ⟨rfl, rfl, (by decide : 9 + 6 ≤ _), (by decide : 50 + 64 ≤ _)⟩)
            dsimp only [Pt.U, Pt.locs, Pt.cells, Pt.slots] at X60 l60 y60 z60 st60 hQ60 hS60 hg60 hC60
            subst l60 y60 z60
            obtain ⟨X60, hS, hZ, hown⟩ := rebS (s := s) hS hk52 X60 hS60 hg60 hZ hown
            obtain ⟨r_60, rfl, N60q, K60q, Y60_0⟩ := hQ60
            have N60 := Fr.app N52 N60q
            obtain ⟨lc60, X60, N60⟩ := own_gen X60 N60
            have cz60 : CHr Z own_EL T50.vm T52.heap T60.vm T60.heap := hC60
            have C60 : CHr Z own_EL s.vm h0 T60.vm T60.heap := C52.trans cz60
            have O60 := O52.keep K60q all0
            have hk60 : _ ≤ T60.heap.size := Nat.le_refl _
            obtain rfl : r_60 = (.ref bz) := own_pk_u Y52_0 Y60_0
            refine step (fun t k => st60.trans k) ?_
            show G T60 (mkF m 246 ls59 [(.ref bz), (.ref bz)])
            refine step (fun t k => Jvm.RoadKit.acmp X60 hx rfl rfl rfl (pc0 := 246) (pc' := 249) (same := true) rfl (hb hby at_246) rfl (decide_eq_true rfl) (by decide) (by decide) k) ?_
            show G T60 (mkF m 249 ls59 [])
            refine step (fun t k => XS.iconst X60.here hx rfl (hb hby at_249) k) ?_
            show G T60 (mkF m 250 ls59 [(.int 1)])
            refine step (fun t k => XS.goto X60.here hx rfl (pc0 := 250) (pc' := 254) rfl (hb hby at_250) (by decide) (by decide) k) ?_
            show G T60 (mkF m 254 ls59 [(.int 1)])
            exact ret (v := some (.int 1)) X60 hS hk60 C60 hZ (fun h => by rw [Bd.returns] at h; cases h) (fun fs hr => retN X60 hx (t := .boolean) Bd.returns (by simp) (hb hby at_254) hr) rfl ⟨rfl, N60⟩ (by decide) (by decide)
        · skip
          show G T48 (mkF m 227 ls12 [(.ref b11), (.ref b48), (.ref b48)])
          have hK65 := (StrChars.Road.backV (l := l) (R := room_1) (p := p) (e := e) (below := below) (args := #[(.int p0), (.int p1), (.int p2), (.int p3), (.int p4)]) (len := 3) (W := 1) hZ (own_hwV hw) (kI := 4) (ww7 hw) (cs := csk) (bs := (csk.map (fun c => c.toInt8.toInt32))) (n := 1) ge_b48 (own_old_le O48) A48 F48_value F48_coder f49 (Sta.ext O48.2 ST.k8) ST.k11 cak.1 rfl (by decide) (by decide) cak.2 rfl (by decide) (by decide))
          obtain ⟨_, _, ⟨T65, L65, k65, n65⟩, -, X65, ⟨Lc65, hQ65, l65, y65, z65⟩, st65⟩ := X48.specialBack hx (y := y_10) rfl hown (mvT hZ (ww31 hw)) (mvT hZ (ww32 hw)) (mvT hZ (ww33 hw)) (by decide) hK65 (g := (mkF m 227 ls12 [(.ref b11), (.ref b48), (.ref b48)])) rfl (by rw [hml, hls12]; rfl) (Steps.refl _) (a := b48) (argsL := [(.ref b11)]) (rest := [(.ref b48)]) (lenOf pd_12 rfl) rfl (by show 2 * 0 + _ ≤ _; exact Nat.le_of_eq rfl) (hb hby at_227) (fun _ _ => ⟨rfl, e48, (by decide : 4 + 1 ≤ _), (by decide : 39 + 1 ≤ _)⟩)
          dsimp only [Pt.U, Pt.locs, Pt.cells, Pt.slots] at X65 l65 y65 z65 st65 hQ65
          subst l65 y65 z65
          obtain ⟨rfl, N65q, K65q, Es65, Cs65, b65, kb65, gt65, gh65, -, Fv65, Vb65⟩ := hQ65
          have N65 := Fr.app Nk N65q
          obtain ⟨lc65, X65, N65⟩ := own_gen X65 N65
          have cz65 : CHr Z own_EL T3.vm h48 T3.vm T65.heap := CHr.keep K65q (allS (own_safeN hZ.alike A48 F48_value) all0) C48.1
          have C65 : CHr Z own_EL s.vm h0 T3.vm T65.heap := C48.trans cz65
          have O65 := O48.keep K65q (allS ge_b48 all0)
          have hk65 := Nat.le_trans hk48 K65q.1
          have sp65 : own_sp csk (1 : Int32) ((csk.map (fun c => c.toInt8.toInt32)).map Value.int) := ⟨StrChars.Road.codOf cak.1 (fun c hc => (cak.2 c hc).2), own_up cak.2, by rw [cak.1]; decide⟩
          refine step (fun t k => st65.trans k) ?_
          show G T65 (mkF m 230 ls12 [(.ref b48)])
          obtain ⟨ls66, hls66⟩  := own_sl #[.val (.int p0), .val (.int p1), .val (.int p2), .val (.int p3), .val (.int p4), .val (.int ((p0 &&& (2147483647 : Int32)) % (4 : Int32))), .val (.ref b3), .val (.int n_3), .val (.int (p1 &&& (3 : Int32))), .val (.int 1), .val (.int (p3 &&& (255 : Int32))), .val (.ref b11), .val (.ref b48), .unset]
          refine step (fun t k => XS.astore X65.here hx rfl (hb hby at_230) rfl rfl (l' := ls66) (by rw [hls12, hls66]; rfl) k) ?_
          show G T65 (mkF m 232 ls66 [])
          refine step (fun t k => XS.aload X65.here hx rfl (hb hby at_232) (by rw [hls66]; rfl) rfl k) ?_
          show G T65 (mkF m 234 ls66 [(.ref b48)])
          have hK67 := (backOf (R := room_1) (p := p) (e := e) (below := below) (args := #[(.int p0), (.int p1), (.int p2), (.int p3), (.int p4)]) (len := 3) (W := 0) (rm_nm l Z a0 hw [] w__VALUES w_CAP w_RATE w_BUDGET w_COMPACT_STRINGS w_SIOOBE_FORMATTER w_tCAP w_vCAP w_tRATE w_vRATE w_tBUDGET w_vBUDGET b48 b65 kb65 (1 : Int32) ((csk.map (fun c => c.toInt8.toInt32)).map Value.int) csk T65.heap n0 (own_old_le O65) ST O65 Es65 Fv65 Cs65 Vb65 sp65) hZ (ww45 hw) (ww44 hw) (by decide) (by decide))
          obtain ⟨_, _, ⟨T67, L67, k67, n67⟩, -, X67, ⟨Lc67, hQ67, l67, y67, z67⟩, st67⟩ := Jvm.LawKit.callS X65 hx (y := y_14) hown (mvT hZ (ww42 hw)) (mvT hZ (ww43 hw)) (mvT hZ (ww44 hw)) (mvT hZ (ww45 hw)) (by decide) hK67 (g := (mkF m 234 ls66 [(.ref b48)])) rfl (by rw [hml, hls66]; rfl) (argsL := [(.ref b48)]) (rest := []) (lenOf pd_13 rfl) rfl (by show 2 * 0 + _ ≤ _; exact Nat.le_of_eq rfl) (hb hby at_234) (fun _ _ => ⟨rfl, rfl, (by decide : 5 + 1 ≤ _), (by decide : 40 + 3 ≤ _)⟩)
          dsimp only [Pt.U, Pt.locs, Pt.cells, Pt.slots] at X67 l67 y67 z67 st67 hQ67
          subst l67 y67 z67
          obtain ⟨r_67, rfl, N67q, K67q, Y67_0⟩ := hQ67
          have N67 := Fr.app N65 N67q
          obtain ⟨lc67, X67, N67⟩ := own_gen X67 N67
          have cz67 : CHr Z own_EL T3.vm T65.heap T3.vm T67.heap := CHr.keep K67q all0 C65.1
          have C67 : CHr Z own_EL s.vm h0 T3.vm T67.heap := C65.trans cz67
          have O67 := O65.keep K67q all0
          have hk67 : _ ≤ T67.heap.size := Nat.le_trans hk65 K67q.1
          refine step (fun t k => st67 t k) ?_
          show G T67 (mkF m 237 ls66 [r_67])
          rcases ref_cases (own_pk_r Y67_0) with rfl | ⟨bz, rfl⟩
          · skip
            obtain ⟨ls68, hls68⟩  := own_sl #[.val (.int p0), .val (.int p1), .val (.int p2), .val (.int p3), .val (.int p4), .val (.int ((p0 &&& (2147483647 : Int32)) % (4 : Int32))), .val (.ref b3), .val (.int n_3), .val (.int (p1 &&& (3 : Int32))), .val (.int 1), .val (.int (p3 &&& (255 : Int32))), .val (.ref b11), .val (.ref b48), .val .null]
            refine step (fun t k => XS.astore X67.here hx rfl (hb hby at_237) rfl rfl (l' := ls68) (by rw [hls66, hls68]; rfl) k) ?_
            show G T67 (mkF m 239 ls68 [])
            refine step (fun t k => XS.aload X67.here hx rfl (hb hby at_239) (by rw [hls68]; rfl) rfl k) ?_
            show G T67 (mkF m 241 ls68 [.null])
            refine step (fun t k => XS.aload X67.here hx rfl (hb hby at_241) (by rw [hls68]; rfl) rfl k) ?_
            show G T67 (mkF m 243 ls68 [(.ref b48), .null])
            have f70 := (Exa.keep Es65 K67q)
            have f71 := (Fld.keep Fv65 K67q nin0)
            have f72 := (Fld.keep Cs65 K67q nin0)
            have f73 := (Arv.keep Vb65 K67q nin0)
            have hK69 := (backOfSH (s := s) (vm0 := T3.vm) (R := room_1) (p := p) (e := e) (below := below) (args := #[(.int p0), (.int p1), (.int p2), (.int p3), (.int p4)]) (len := 3) (W := 1) (rm_ex l Z a0 hw [] w__VALUES w_CAP w_RATE w_BUDGET w_COMPACT_STRINGS w_SIOOBE_FORMATTER w_tCAP w_vCAP w_tRATE w_vRATE w_tBUDGET w_vBUDGET b48 b65 kb65 (1 : Int32) ((csk.map (fun c => c.toInt8.toInt32)).map Value.int) csk T67.heap n0 (own_old_le O67) ST O67 f70 f71 f72 f73 sp65) hZ (ww78 hw) (ww3 hw) (by decide) (by decide) (own_EW hw) C67.1)
            obtain ⟨_, _, ⟨T69, L69, k69, n69⟩, -, X69, hS69, hg69, ⟨Lc69, hQ69, l69, y69, z69, hC69⟩, st69⟩ := callSS X67 hx (y := y_15) hown (mvT hZ (ww76 hw)) (mvT hZ (ww77 hw)) (mvT hZ (ww3 hw)) (mvT hZ (ww78 hw)) (by decide) hK69 (g := (mkF m 243 ls68 [(.ref b48), .null])) rfl (by rw [hml, hls68]; rfl) (argsL := [(.ref b48)]) (rest := [.null]) (lenOf pd_13 rfl) rfl (by show 2 * 0 + _ ≤ _; exact Nat.le_of_eq rfl) (hb hby at_243) (fun _ _ => ⟨rfl, rfl, (by decide : 6 + 6 ≤ _), (by decide : 43 + 64 ≤ _)⟩)
            dsimp only [Pt.U, Pt.locs, Pt.cells, Pt.slots] at X69 l69 y69 z69 st69 hQ69 hS69 hg69 hC69
            subst l69 y69 z69
            obtain ⟨X69, hS, hZ, hown⟩ := rebS (s := s) hS hk67 X69 hS69 hg69 hZ hown
            obtain ⟨r_69, rfl, N69q, K69q, Y69_0⟩ := hQ69
            have N69 := Fr.app N67 N69q
            obtain ⟨lc69, X69, N69⟩ := own_gen X69 N69
            have cz69 : CHr Z own_EL T3.vm T67.heap T69.vm T69.heap := hC69
            have C69 : CHr Z own_EL s.vm h0 T69.vm T69.heap := C67.trans cz69
            have O69 := O67.keep K69q all0
            have hk69 : _ ≤ T69.heap.size := Nat.le_refl _
            obtain rfl : r_69 = .null := own_pk_u Y67_0 Y69_0
            refine step (fun t k => st69.trans k) ?_
            show G T69 (mkF m 246 ls68 [.null, .null])
            refine step (fun t k => Jvm.RoadKit.acmp X69 hx rfl rfl rfl (pc0 := 246) (pc' := 249) (same := true) rfl (hb hby at_246) rfl (decide_eq_true rfl) (by decide) (by decide) k) ?_
            show G T69 (mkF m 249 ls68 [])
            refine step (fun t k => XS.iconst X69.here hx rfl (hb hby at_249) k) ?_
            show G T69 (mkF m 250 ls68 [(.int 1)])
            refine step (fun t k => XS.goto X69.here hx rfl (pc0 := 250) (pc' := 254) rfl (hb hby at_250) (by decide) (by decide) k) ?_
            show G T69 (mkF m 254 ls68 [(.int 1)])
            exact ret (v := some (.int 1)) X69 hS hk69 C69 hZ (fun h => by rw [Bd.returns] at h; cases h) (fun fs hr => retN X69 hx (t := .boolean) Bd.returns (by simp) (hb hby at_254) hr) rfl ⟨rfl, N69⟩ (by decide) (by decide)
          · skip
            obtain ⟨ls74, hls74⟩  := own_sl #[.val (.int p0), .val (.int p1), .val (.int p2), .val (.int p3), .val (.int p4), .val (.int ((p0 &&& (2147483647 : Int32)) % (4 : Int32))), .val (.ref b3), .val (.int n_3), .val (.int (p1 &&& (3 : Int32))), .val (.int 1), .val (.int (p3 &&& (255 : Int32))), .val (.ref b11), .val (.ref b48), .val (.ref bz)]
            refine step (fun t k => XS.astore X67.here hx rfl (hb hby at_237) rfl rfl (l' := ls74) (by rw [hls66, hls74]; rfl) k) ?_
            show G T67 (mkF m 239 ls74 [])
            refine step (fun t k => XS.aload X67.here hx rfl (hb hby at_239) (by rw [hls74]; rfl) rfl k) ?_
            show G T67 (mkF m 241 ls74 [(.ref bz)])
            refine step (fun t k => XS.aload X67.here hx rfl (hb hby at_241) (by rw [hls74]; rfl) rfl k) ?_
            show G T67 (mkF m 243 ls74 [(.ref b48), (.ref bz)])
            have f76 := (Exa.keep Es65 K67q)
            have f77 := (Fld.keep Fv65 K67q nin0)
            have f78 := (Fld.keep Cs65 K67q nin0)
            have f79 := (Arv.keep Vb65 K67q nin0)
            have hK75 := (backOfSH (s := s) (vm0 := T3.vm) (R := room_1) (p := p) (e := e) (below := below) (args := #[(.int p0), (.int p1), (.int p2), (.int p3), (.int p4)]) (len := 3) (W := 1) (rm_ex l Z a0 hw [] w__VALUES w_CAP w_RATE w_BUDGET w_COMPACT_STRINGS w_SIOOBE_FORMATTER w_tCAP w_vCAP w_tRATE w_vRATE w_tBUDGET w_vBUDGET b48 b65 kb65 (1 : Int32) ((csk.map (fun c => c.toInt8.toInt32)).map Value.int) csk T67.heap n0 (own_old_le O67) ST O67 f76 f77 f78 f79 sp65) hZ (ww78 hw) (ww3 hw) (by decide) (by decide) (own_EW hw) C67.1)
            obtain ⟨_, _, ⟨T75, L75, k75, n75⟩, -, X75, hS75, hg75, ⟨Lc75, hQ75, l75, y75, z75, hC75⟩, st75⟩ := callSS X67 hx (y := y_15) hown (mvT hZ (ww76 hw)) (mvT hZ (ww77 hw)) (mvT hZ (ww3 hw)) (mvT hZ (ww78 hw)) (by decide) hK75 (g := (mkF m 243 ls74 [(.ref b48), (.ref bz)])) rfl (by rw [hml, hls74]; rfl) (argsL := [(.ref b48)]) (rest := [(.ref bz)]) (lenOf pd_13 rfl) rfl (by show 2 * 0 + _ ≤ _; exact Nat.le_of_eq rfl) (hb hby at_243) (fun _ _ => ⟨rfl, rfl, (by decide : 6 + 6 ≤ _), (by decide : 43 + 64 ≤ _)⟩)
            dsimp only [Pt.U, Pt.locs, Pt.cells, Pt.slots] at X75 l75 y75 z75 st75 hQ75 hS75 hg75 hC75
            subst l75 y75 z75
            obtain ⟨X75, hS, hZ, hown⟩ := rebS (s := s) hS hk67 X75 hS75 hg75 hZ hown
            obtain ⟨r_75, rfl, N75q, K75q, Y75_0⟩ := hQ75
            have N75 := Fr.app N67 N75q
            obtain ⟨lc75, X75, N75⟩ := own_gen X75 N75
            have cz75 : CHr Z own_EL T3.vm T67.heap T75.vm T75.heap := hC75
            have C75 : CHr Z own_EL s.vm h0 T75.vm T75.heap := C67.trans cz75
            have O75 := O67.keep K75q all0
            have hk75 : _ ≤ T75.heap.size := Nat.le_refl _
            obtain rfl : r_75 = (.ref bz) := own_pk_u Y67_0 Y75_0
            refine step (fun t k => st75.trans k) ?_
            show G T75 (mkF m 246 ls74 [(.ref bz), (.ref bz)])
            refine step (fun t k => Jvm.RoadKit.acmp X75 hx rfl rfl rfl (pc0 := 246) (pc' := 249) (same := true) rfl (hb hby at_246) rfl (decide_eq_true rfl) (by decide) (by decide) k) ?_
            show G T75 (mkF m 249 ls74 [])
            refine step (fun t k => XS.iconst X75.here hx rfl (hb hby at_249) k) ?_
            show G T75 (mkF m 250 ls74 [(.int 1)])
            refine step (fun t k => XS.goto X75.here hx rfl (pc0 := 250) (pc' := 254) rfl (hb hby at_250) (by decide) (by decide) k) ?_
            show G T75 (mkF m 254 ls74 [(.int 1)])
            exact ret (v := some (.int 1)) X75 hS hk75 C75 hZ (fun h => by rw [Bd.returns] at h; cases h) (fun fs hr => retN X75 hx (t := .boolean) Bd.returns (by simp) (hb hby at_254) hr) rfl ⟨rfl, N75⟩ (by decide) (by decide)
        · skip
          show G T48 (mkF m 227 ls12 [(.ref b11), (.ref b48), (.ref b48)])
          have hK80 := (StrChars.Road.backV (l := l) (R := room_1) (p := p) (e := e) (below := below) (args := #[(.int p0), (.int p1), (.int p2), (.int p3), (.int p4)]) (len := 3) (W := 1) hZ (own_hwV hw) (kI := 4) (ww7 hw) (cs := csk) (bs := (csk.map (fun c => c.toInt8.toInt32))) (n := 2) ge_b48 (own_old_le O48) A48 F48_value F48_coder f49 (Sta.ext O48.2 ST.k8) ST.k11 cak.1 rfl (by decide) (by decide) cak.2 rfl (by decide) (by decide))
          obtain ⟨_, _, ⟨T80, L80, k80, n80⟩, -, X80, ⟨Lc80, hQ80, l80, y80, z80⟩, st80⟩ := X48.specialBack hx (y := y_10) rfl hown (mvT hZ (ww31 hw)) (mvT hZ (ww32 hw)) (mvT hZ (ww33 hw)) (by decide) hK80 (g := (mkF m 227 ls12 [(.ref b11), (.ref b48), (.ref b48)])) rfl (by rw [hml, hls12]; rfl) (Steps.refl _) (a := b48) (argsL := [(.ref b11)]) (rest := [(.ref b48)]) (lenOf pd_12 rfl) rfl (by show 2 * 0 + _ ≤ _; exact Nat.le_of_eq rfl) (hb hby at_227) (fun _ _ => ⟨rfl, e48, (by decide : 4 + 1 ≤ _), (by decide : 39 + 2 ≤ _)⟩)
          dsimp only [Pt.U, Pt.locs, Pt.cells, Pt.slots] at X80 l80 y80 z80 st80 hQ80
          subst l80 y80 z80
          obtain ⟨rfl, N80q, K80q, Es80, Cs80, b80, kb80, gt80, gh80, -, Fv80, Vb80⟩ := hQ80
          have N80 := Fr.app Nk N80q
          obtain ⟨lc80, X80, N80⟩ := own_gen X80 N80
          have cz80 : CHr Z own_EL T3.vm h48 T3.vm T80.heap := CHr.keep K80q (allS (own_safeN hZ.alike A48 F48_value) all0) C48.1
          have C80 : CHr Z own_EL s.vm h0 T3.vm T80.heap := C48.trans cz80
          have O80 := O48.keep K80q (allS ge_b48 all0)
          have hk80 := Nat.le_trans hk48 K80q.1
          have sp80 : own_sp csk (2 : Int32) ((csk.map (fun c => c.toInt8.toInt32)).map Value.int) := ⟨StrChars.Road.codOf cak.1 (fun c hc => (cak.2 c hc).2), own_up cak.2, by rw [cak.1]; decide⟩
          refine step (fun t k => st80.trans k) ?_
          show G T80 (mkF m 230 ls12 [(.ref b48)])
          obtain ⟨ls81, hls81⟩  := own_sl #[.val (.int p0), .val (.int p1), .val (.int p2), .val (.int p3), .val (.int p4), .val (.int ((p0 &&& (2147483647 : Int32)) % (4 : Int32))), .val (.ref b3), .val (.int n_3), .val (.int (p1 &&& (3 : Int32))), .val (.int 2), .val (.int (p3 &&& (255 : Int32))), .val (.ref b11), .val (.ref b48), .unset]
          refine step (fun t k => XS.astore X80.here hx rfl (hb hby at_230) rfl rfl (l' := ls81) (by rw [hls12, hls81]; rfl) k) ?_
          show G T80 (mkF m 232 ls81 [])
          refine step (fun t k => XS.aload X80.here hx rfl (hb hby at_232) (by rw [hls81]; rfl) rfl k) ?_
          show G T80 (mkF m 234 ls81 [(.ref b48)])
          have hK82 := (backOf (R := room_1) (p := p) (e := e) (below := below) (args := #[(.int p0), (.int p1), (.int p2), (.int p3), (.int p4)]) (len := 3) (W := 0) (rm_nm l Z a0 hw [] w__VALUES w_CAP w_RATE w_BUDGET w_COMPACT_STRINGS w_SIOOBE_FORMATTER w_tCAP w_vCAP w_tRATE w_vRATE w_tBUDGET w_vBUDGET b48 b80 kb80 (2 : Int32) ((csk.map (fun c => c.toInt8.toInt32)).map Value.int) csk T80.heap n0 (own_old_le O80) ST O80 Es80 Fv80 Cs80 Vb80 sp80) hZ (ww45 hw) (ww44 hw) (by decide) (by decide))
          obtain ⟨_, _, ⟨T82, L82, k82, n82⟩, -, X82, ⟨Lc82, hQ82, l82, y82, z82⟩, st82⟩ := Jvm.LawKit.callS X80 hx (y := y_14) hown (mvT hZ (ww42 hw)) (mvT hZ (ww43 hw)) (mvT hZ (ww44 hw)) (mvT hZ (ww45 hw)) (by decide) hK82 (g := (mkF m 234 ls81 [(.ref b48)])) rfl (by rw [hml, hls81]; rfl) (argsL := [(.ref b48)]) (rest := []) (lenOf pd_13 rfl) rfl (by show 2 * 0 + _ ≤ _; exact Nat.le_of_eq rfl) (hb hby at_234) (fun _ _ => ⟨rfl, rfl, (by decide : 5 + 1 ≤ _), (by decide : 41 + 3 ≤ _)⟩)
          dsimp only [Pt.U, Pt.locs, Pt.cells, Pt.slots] at X82 l82 y82 z82 st82 hQ82
          subst l82 y82 z82
          obtain ⟨r_82, rfl, N82q, K82q, Y82_0⟩ := hQ82
          have N82 := Fr.app N80 N82q
          obtain ⟨lc82, X82, N82⟩ := own_gen X82 N82
          have cz82 : CHr Z own_EL T3.vm T80.heap T3.vm T82.heap := CHr.keep K82q all0 C80.1
          have C82 : CHr Z own_EL s.vm h0 T3.vm T82.heap := C80.trans cz82
          have O82 := O80.keep K82q all0
          have hk82 : _ ≤ T82.heap.size := Nat.le_trans hk80 K82q.1
          refine step (fun t k => st82 t k) ?_
          show G T82 (mkF m 237 ls81 [r_82])
          rcases ref_cases (own_pk_r Y82_0) with rfl | ⟨bz, rfl⟩
          · skip
            obtain ⟨ls83, hls83⟩  := own_sl #[.val (.int p0), .val (.int p1), .val (.int p2), .val (.int p3), .val (.int p4), .val (.int ((p0 &&& (2147483647 : Int32)) % (4 : Int32))), .val (.ref b3), .val (.int n_3), .val (.int (p1 &&& (3 : Int32))), .val (.int 2), .val (.int (p3 &&& (255 : Int32))), .val (.ref b11), .val (.ref b48), .val .null]
            refine step (fun t k => XS.astore X82.here hx rfl (hb hby at_237) rfl rfl (l' := ls83) (by rw [hls81, hls83]; rfl) k) ?_
            show G T82 (mkF m 239 ls83 [])
            refine step (fun t k => XS.aload X82.here hx rfl (hb hby at_239) (by rw [hls83]; rfl) rfl k) ?_
            show G T82 (mkF m 241 ls83 [.null])
            refine step (fun t k => XS.aload X82.here hx rfl (hb hby at_241) (by rw [hls83]; rfl) rfl k) ?_
            show G T82 (mkF m 243 ls83 [(.ref b48), .null])
            have f85 := (Exa.keep Es80 K82q)
            have f86 := (Fld.keep Fv80 K82q nin0)
            have f87 := (Fld.keep Cs80 K82q nin0)
            have f88 := (Arv.keep Vb80 K82q nin0)
            have hK84 := (backOfSH (s := s) (vm0 := T3.vm) (R := room_1) (p := p) (e := e) (below := below) (args := #[(.int p0), (.int p1), (.int p2), (.int p3), (.int p4)]) (len := 3) (W := 1) (rm_ex l Z a0 hw [] w__VALUES w_CAP w_RATE w_BUDGET w_COMPACT_STRINGS w_SIOOBE_FORMATTER w_tCAP w_vCAP w_tRATE w_vRATE w_tBUDGET w_vBUDGET b48 b80 kb80 (2 : Int32) ((csk.map (fun c => c.toInt8.toInt32)).map Value.int) csk T82.heap n0 (own_old_le O82) ST O82 f85 f86 f87 f88 sp80) hZ (ww78 hw) (ww3 hw) (by decide) (by decide) (own_EW hw) C82.1)
            obtain ⟨_, _, ⟨T84, L84, k84, n84⟩, -, X84, hS84, hg84, ⟨Lc84, hQ84, l84, y84, z84, hC84⟩, st84⟩ := callSS X82 hx (y := y_15) hown (mvT hZ (ww76 hw)) (mvT hZ (ww77 hw)) (mvT hZ (ww3 hw)) (mvT hZ (ww78 hw)) (by decide) hK84 (g := (mkF m 243 ls83 [(.ref b48), .null])) rfl (by rw [hml, hls83]; rfl) (argsL := [(.ref b48)]) (rest := [.null]) (lenOf pd_13 rfl) rfl (by show 2 * 0 + _ ≤ _; exact Nat.le_of_eq rfl) (hb hby at_243) (fun _ _ => ⟨rfl, rfl, (by decide : 6 + 6 ≤ _), (by decide : 44 + 64 ≤ _)⟩)
            dsimp only [Pt.U, Pt.locs, Pt.cells, Pt.slots] at X84 l84 y84 z84 st84 hQ84 hS84 hg84 hC84
            subst l84 y84 z84
            obtain ⟨X84, hS, hZ, hown⟩ := rebS (s := s) hS hk82 X84 hS84 hg84 hZ hown
            obtain ⟨r_84, rfl, N84q, K84q, Y84_0⟩ := hQ84
            have N84 := Fr.app N82 N84q
            obtain ⟨lc84, X84, N84⟩ := own_gen X84 N84
            have cz84 : CHr Z own_EL T3.vm T82.heap T84.vm T84.heap := hC84
            have C84 : CHr Z own_EL s.vm h0 T84.vm T84.heap := C82.trans cz84
            have O84 := O82.keep K84q all0
            have hk84 : _ ≤ T84.heap.size := Nat.le_refl _
            obtain rfl : r_84 = .null := own_pk_u Y82_0 Y84_0
            refine step (fun t k => st84.trans k) ?_
            show G T84 (mkF m 246 ls83 [.null, .null])
            refine step (fun t k => Jvm.RoadKit.acmp X84 hx rfl rfl rfl (pc0 := 246) (pc' := 249) (same := true) rfl (hb hby at_246) rfl (decide_eq_true rfl) (by decide) (by decide) k) ?_
            show G T84 (mkF m 249 ls83 [])
            refine step (fun t k => XS.iconst X84.here hx rfl (hb hby at_249) k) ?_
            show G T84 (mkF m 250 ls83 [(.int 1)])
            refine step (fun t k => XS.goto X84.here hx rfl (pc0 := 250) (pc' := 254) rfl (hb hby at_250) (by decide) (by decide) k) ?_
            show G T84 (mkF m 254 ls83 [(.int 1)])
            exact ret (v := some (.int 1)) X84 hS hk84 C84 hZ (fun h => by rw [Bd.returns] at h; cases h) (fun fs hr => retN X84 hx (t := .boolean) Bd.returns (by simp) (hb hby at_254) hr) rfl ⟨rfl, N84⟩ (by decide) (by decide)
          · skip
            obtain ⟨ls89, hls89⟩  := own_sl #[.val (.int p0), .val (.int p1), .val (.int p2), .val (.int p3), .val (.int p4), .val (.int ((p0 &&& (2147483647 : Int32)) % (4 : Int32))), .val (.ref b3), .val (.int n_3), .val (.int (p1 &&& (3 : Int32))), .val (.int 2), .val (.int (p3 &&& (255 : Int32))), .val (.ref b11), .val (.ref b48), .val (.ref bz)]
            refine step (fun t k => XS.astore X82.here hx rfl (hb hby at_237) rfl rfl (l' := ls89) (by rw [hls81, hls89]; rfl) k) ?_
            show G T82 (mkF m 239 ls89 [])
            refine step (fun t k => XS.aload X82.here hx rfl (hb hby at_239) (by rw [hls89]; rfl) rfl k) ?_
            show G T82 (mkF m 241 ls89 [(.ref bz)])
            refine step (fun t k => XS.aload X82.here hx rfl (hb hby at_241) (by rw [hls89]; rfl) rfl k) ?_
            show G T82 (mkF m 243 ls89 [(.ref b48), (.ref bz)])
            have f91 := (Exa.keep Es80 K82q)
            have f92 := (Fld.keep Fv80 K82q nin0)
            have f93 := (Fld.keep Cs80 K82q nin0)
            have f94 := (Arv.keep Vb80 K82q nin0)
            have hK90 := (backOfSH (s := s) (vm0 := T3.vm) (R := room_1) (p := p) (e := e) (below := below) (args := #[(.int p0), (.int p1), (.int p2), (.int p3), (.int p4)]) (len := 3) (W := 1) (rm_ex l Z a0 hw [] w__VALUES w_CAP w_RATE w_BUDGET w_COMPACT_STRINGS w_SIOOBE_FORMATTER w_tCAP w_vCAP w_tRATE w_vRATE w_tBUDGET w_vBUDGET b48 b80 kb80 (2 : Int32) ((csk.map (fun c => c.toInt8.toInt32)).map Value.int) csk T82.heap n0 (own_old_le O82) ST O82 f91 f92 f93 f94 sp80) hZ (ww78 hw) (ww3 hw) (by decide) (by decide) (own_EW hw) C82.1)
            obtain ⟨_, _, ⟨T90, L90, k90, n90⟩, -, X90, hS90, hg90, ⟨Lc90, hQ90, l90, y90, z90, hC90⟩, st90⟩ := callSS X82 hx (y := y_15) hown (mvT hZ (ww76 hw)) (mvT hZ (ww77 hw)) (mvT hZ (ww3 hw)) (mvT hZ (ww78 hw)) (by decide) hK90 (g := (mkF m 243 ls89 [(.ref b48), (.ref bz)])) rfl (by rw [hml, hls89]; rfl) (argsL := [(.ref b48)]) (rest := [(.ref bz)]) (lenOf pd_13 rfl) rfl (by show 2 * 0 + _ ≤ _; exact Nat.le_of_eq rfl) (hb hby at_243) (fun _ _ => ⟨rfl, rfl, (by decide : 6 + 6 ≤ _), (by decide : 44 + 64 ≤ _)⟩)
            dsimp only [Pt.U, Pt.locs, Pt.cells, Pt.slots] at X90 l90 y90 z90 st90 hQ90 hS90 hg90 hC90
            subst l90 y90 z90
            obtain ⟨X90, hS, hZ, hown⟩ := rebS (s := s) hS hk82 X90 hS90 hg90 hZ hown
            obtain ⟨r_90, rfl, N90q, K90q, Y90_0⟩ := hQ90
            have N90 := Fr.app N82 N90q
            obtain ⟨lc90, X90, N90⟩ := own_gen X90 N90
            have cz90 : CHr Z own_EL T3.vm T82.heap T90.vm T90.heap := hC90
            have C90 : CHr Z own_EL s.vm h0 T90.vm T90.heap := C82.trans cz90
            have O90 := O82.keep K90q all0
            have hk90 : _ ≤ T90.heap.size := Nat.le_refl _
            obtain rfl : r_90 = (.ref bz) := own_pk_u Y82_0 Y90_0
            refine step (fun t k => st90.trans k) ?_
            show G T90 (mkF m 246 ls89 [(.ref bz), (.ref bz)])
            refine step (fun t k => Jvm.RoadKit.acmp X90 hx rfl rfl rfl (pc0 := 246) (pc' := 249) (same := true) rfl (hb hby at_246) rfl (decide_eq_true rfl) (by decide) (by decide) k) ?_
            show G T90 (mkF m 249 ls89 [])
            refine step (fun t k => XS.iconst X90.here hx rfl (hb hby at_249) k) ?_
            show G T90 (mkF m 250 ls89 [(.int 1)])
            refine step (fun t k => XS.goto X90.here hx rfl (pc0 := 250) (pc' := 254) rfl (hb hby at_250) (by decide) (by decide) k) ?_
            show G T90 (mkF m 254 ls89 [(.int 1)])
            exact ret (v := some (.int 1)) X90 hS hk90 C90 hZ (fun h => by rw [Bd.returns] at h; cases h) (fun fs hr => retN X90 hx (t := .boolean) Bd.returns (by simp) (hb hby at_254) hr) rfl ⟨rfl, N90⟩ (by decide) (by decide)
        · skip
          show G T48 (mkF m 227 ls12 [(.ref b11), (.ref b48), (.ref b48)])
          have hK95 := (StrChars.Road.backV (l := l) (R := room_1) (p := p) (e := e) (below := below) (args := #[(.int p0), (.int p1), (.int p2), (.int p3), (.int p4)]) (len := 3) (W := 1) hZ (own_hwV hw) (kI := 4) (ww7 hw) (cs := csk) (bs := (csk.map (fun c => c.toInt8.toInt32))) (n := 3) ge_b48 (own_old_le O48) A48 F48_value F48_coder f49 (Sta.ext O48.2 ST.k8) ST.k11 cak.1 rfl (by decide) (by decide) cak.2 rfl (by decide) (by decide))
          obtain ⟨_, _, ⟨T95, L95, k95, n95⟩, -, X95, ⟨Lc95, hQ95, l95, y95, z95⟩, st95⟩ := X48.specialBack hx (y := y_10) rfl hown (mvT hZ (ww31 hw)) (mvT hZ (ww32 hw)) (mvT hZ (ww33 hw)) (by decide) hK95 (g := (mkF m 227 ls12 [(.ref b11), (.ref b48), (.ref b48)])) rfl (by rw [hml, hls12]; rfl) (Steps.refl _) (a := b48) (argsL := [(.ref b11)]) (rest := [(.ref b48)]) (lenOf pd_12 rfl) rfl (by show 2 * 0 + _ ≤ _; exact Nat.le_of_eq rfl) (hb hby at_227) (fun _ _ => ⟨rfl, e48, (by decide : 4 + 1 ≤ _), (by decide : 39 + 3 ≤ _)⟩)
          dsimp only [Pt.U, Pt.locs, Pt.cells, Pt.slots] at X95 l95 y95 z95 st95 hQ95
          subst l95 y95 z95
          obtain ⟨rfl, N95q, K95q, Es95, Cs95, b95, kb95, gt95, gh95, -, Fv95, Vb95⟩ := hQ95
          have N95 := Fr.app Nk N95q
          obtain ⟨lc95, X95, N95⟩ := own_gen X95 N95
          have cz95 : CHr Z own_EL T3.vm h48 T3.vm T95.heap := CHr.keep K95q (allS (own_safeN hZ.alike A48 F48_value) all0) C48.1
          have C95 : CHr Z own_EL s.vm h0 T3.vm T95.heap := C48.trans cz95
          have O95 := O48.keep K95q (allS ge_b48 all0)
          have hk95 := Nat.le_trans hk48 K95q.1
          have sp95 : own_sp csk (3 : Int32) ((csk.map (fun c => c.toInt8.toInt32)).map Value.int) := ⟨StrChars.Road.codOf cak.1 (fun c hc => (cak.2 c hc).2), own_up cak.2, by rw [cak.1]; decide⟩
          refine step (fun t k => st95.trans k) ?_
          show G T95 (mkF m 230 ls12 [(.ref b48)])
          obtain ⟨ls96, hls96⟩  := own_sl #[.val (.int p0), .val (.int p1), .val (.int p2), .val (.int p3), .val (.int p4), .val (.int ((p0 &&& (2147483647 : Int32)) % (4 : Int32))), .val (.ref b3), .val (.int n_3), .val (.int (p1 &&& (3 : Int32))), .val (.int 3), .val (.int (p3 &&& (255 : Int32))), .val (.ref b11), .val (.ref b48), .unset]
          refine step (fun t k => XS.astore X95.here hx rfl (hb hby at_230) rfl rfl (l' := ls96) (by rw [hls12, hls96]; rfl) k) ?_
          show G T95 (mkF m 232 ls96 [])
          refine step (fun t k => XS.aload X95.here hx rfl (hb hby at_232) (by rw [hls96]; rfl) rfl k) ?_
          show G T95 (mkF m 234 ls96 [(.ref b48)])
          have hK97 := (backOf (R := room_1) (p := p) (e := e) (below := below) (args := #[(.int p0), (.int p1), (.int p2), (.int p3), (.int p4)]) (len := 3) (W := 0) (rm_nm l Z a0 hw [] w__VALUES w_CAP w_RATE w_BUDGET w_COMPACT_STRINGS w_SIOOBE_FORMATTER w_tCAP w_vCAP w_tRATE w_vRATE w_tBUDGET w_vBUDGET b48 b95 kb95 (3 : Int32) ((csk.map (fun c => c.toInt8.toInt32)).map Value.int) csk T95.heap n0 (own_old_le O95) ST O95 Es95 Fv95 Cs95 Vb95 sp95) hZ (ww45 hw) (ww44 hw) (by decide) (by decide))
          obtain ⟨_, _, ⟨T97, L97, k97, n97⟩, -, X97, ⟨Lc97, hQ97, l97, y97, z97⟩, st97⟩ := Jvm.LawKit.callS X95 hx (y := y_14) hown (mvT hZ (ww42 hw)) (mvT hZ (ww43 hw)) (mvT hZ (ww44 hw)) (mvT hZ (ww45 hw)) (by decide) hK97 (g := (mkF m 234 ls96 [(.ref b48)])) rfl (by rw [hml, hls96]; rfl) (argsL := [(.ref b48)]) (rest := []) (lenOf pd_13 rfl) rfl (by show 2 * 0 + _ ≤ _; exact Nat.le_of_eq rfl) (hb hby at_234) (fun _ _ => ⟨rfl, rfl, (by decide : 5 + 1 ≤ _), (by decide : 42 + 3 ≤ _)⟩)
          dsimp only [Pt.U, Pt.locs, Pt.cells, Pt.slots] at X97 l97 y97 z97 st97 hQ97
          subst l97 y97 z97
          obtain ⟨r_97, rfl, N97q, K97q, Y97_0⟩ := hQ97
          have N97 := Fr.app N95 N97q
          obtain ⟨lc97, X97, N97⟩ := own_gen X97 N97
          have cz97 : CHr Z own_EL T3.vm T95.heap T3.vm T97.heap := CHr.keep K97q all0 C95.1
          have C97 : CHr Z own_EL s.vm h0 T3.vm T97.heap := C95.trans cz97
          have O97 := O95.keep K97q all0
          have hk97 : _ ≤ T97.heap.size := Nat.le_trans hk95 K97q.1
          refine step (fun t k => st97 t k) ?_
          show G T97 (mkF m 237 ls96 [r_97])
          rcases ref_cases (own_pk_r Y97_0) with rfl | ⟨bz, rfl⟩
          · skip
            obtain ⟨ls98, hls98⟩  := own_sl #[.val (.int p0), .val (.int p1), .val (.int p2), .val (.int p3), .val (.int p4), .val (.int ((p0 &&& (2147483647 : Int32)) % (4 : Int32))), .val (.ref b3), .val (.int n_3), .val (.int (p1 &&& (3 : Int32))), .val (.int 3), .val (.int (p3 &&& (255 : Int32))), .val (.ref b11), .val (.ref b48), .val .null]
            refine step (fun t k => XS.astore X97.here hx rfl (hb hby at_237) rfl rfl (l' := ls98) (by rw [hls96, hls98]; rfl) k) ?_
            show G T97 (mkF m 239 ls98 [])
            refine step (fun t k => XS.aload X97.here hx rfl (hb hby at_239) (by rw [hls98]; rfl) rfl k) ?_
            show G T97 (mkF m 241 ls98 [.null])
            refine step (fun t k => XS.aload X97.here hx rfl (hb hby at_241) (by rw [hls98]; rfl) rfl k) ?_
            show G T97 (mkF m 243 ls98 [(.ref b48), .null])
            have f100 := (Exa.keep Es95 K97q)
            have f101 := (Fld.keep Fv95 K97q nin0)
            have f102 := (Fld.keep Cs95 K97q nin0)
            have f103 := (Arv.keep Vb95 K97q nin0)
            have hK99 := (backOfSH (s := s) (vm0 := T3.vm) (R := room_1) (p := p) (e := e) (below := below) (args := #[(.int p0), (.int p1), (.int p2), (.int p3), (.int p4)]) (len := 3) (W := 1) (rm_ex l Z a0 hw [] w__VALUES w_CAP w_RATE w_BUDGET w_COMPACT_STRINGS w_SIOOBE_FORMATTER w_tCAP w_vCAP w_tRATE w_vRATE w_tBUDGET w_vBUDGET b48 b95 kb95 (3 : Int32) ((csk.map (fun c => c.toInt8.toInt32)).map Value.int) csk T97.heap n0 (own_old_le O97) ST O97 f100 f101 f102 f103 sp95) hZ (ww78 hw) (ww3 hw) (by decide) (by decide) (own_EW hw) C97.1)
            obtain ⟨_, _, ⟨T99, L99, k99, n99⟩, -, X99, hS99, hg99, ⟨Lc99, hQ99, l99, y99, z99, hC99⟩, st99⟩ := callSS X97 hx (y := y_15) hown (mvT hZ (ww76 hw)) (mvT hZ (ww77 hw)) (mvT hZ (ww3 hw)) (mvT hZ (ww78 hw)) (by decide) hK99 (g := (mkF m 243 ls98 [(.ref b48), .null])) rfl (by rw [hml, hls98]; rfl) (argsL := [(.ref b48)]) (rest := [.null]) (lenOf pd_13 rfl) rfl (by show 2 * 0 + _ ≤ _; exact Nat.le_of_eq rfl) (hb hby at_243) (fun _ _ => ⟨rfl, rfl, (by decide : 6 + 6 ≤ _), (by decide : 45 + 64 ≤ _)⟩)
            dsimp only [Pt.U, Pt.locs, Pt.cells, Pt.slots] at X99 l99 y99 z99 st99 hQ99 hS99 hg99 hC99
            subst l99 y99 z99
            obtain ⟨X99, hS, hZ, hown⟩ := rebS (s := s) hS hk97 X99 hS99 hg99 hZ hown
            obtain ⟨r_99, rfl, N99q, K99q, Y99_0⟩ := hQ99
            have N99 := Fr.app N97 N99q
            obtain ⟨lc99, X99, N99⟩ := own_gen X99 N99
            have cz99 : CHr Z own_EL T3.vm T97.heap T99.vm T99.heap := hC99
            have C99 : CHr Z own_EL s.vm h0 T99.vm T99.heap := C97.trans cz99
            have O99 := O97.keep K99q all0
            have hk99 : _ ≤ T99.heap.size := Nat.le_refl _
            obtain rfl : r_99 = .null := own_pk_u Y97_0 Y99_0
            refine step (fun t k => st99.trans k) ?_
            show G T99 (mkF m 246 ls98 [.null, .null])
            refine step (fun t k => Jvm.RoadKit.acmp X99 hx rfl rfl rfl (pc0 := 246) (pc' := 249) (same := true) rfl (hb hby at_246) rfl (decide_eq_true rfl) (by decide) (by decide) k) ?_
            show G T99 (mkF m 249 ls98 [])
            refine step (fun t k => XS.iconst X99.here hx rfl (hb hby at_249) k) ?_
            show G T99 (mkF m 250 ls98 [(.int 1)])
            refine step (fun t k => XS.goto X99.here hx rfl (pc0 := 250) (pc' := 254) rfl (hb hby at_250) (by decide) (by decide) k) ?_
            show G T99 (mkF m 254 ls98 [(.int 1)])
            exact ret (v := some (.int 1)) X99 hS hk99 C99 hZ (fun h => by rw [Bd.returns] at h; cases h) (fun fs hr => retN X99 hx (t := .boolean) Bd.returns (by simp) (hb hby at_254) hr) rfl ⟨rfl, N99⟩ (by decide) (by decide)
          · skip
            obtain ⟨ls104, hls104⟩  := own_sl #[.val (.int p0), .val (.int p1), .val (.int p2), .val (.int p3), .val (.int p4), .val (.int ((p0 &&& (2147483647 : Int32)) % (4 : Int32))), .val (.ref b3), .val (.int n_3), .val (.int (p1 &&& (3 : Int32))), .val (.int 3), .val (.int (p3 &&& (255 : Int32))), .val (.ref b11), .val (.ref b48), .val (.ref bz)]
            refine step (fun t k => XS.astore X97.here hx rfl (hb hby at_237) rfl rfl (l' := ls104) (by rw [hls96, hls104]; rfl) k) ?_
            show G T97 (mkF m 239 ls104 [])
            refine step (fun t k => XS.aload X97.here hx rfl (hb hby at_239) (by rw [hls104]; rfl) rfl k) ?_
            show G T97 (mkF m 241 ls104 [(.ref bz)])
            refine step (fun t k => XS.aload X97.here hx rfl (hb hby at_241) (by rw [hls104]; rfl) rfl k) ?_
            show G T97 (mkF m 243 ls104 [(.ref b48), (.ref bz)])
            have f106 := (Exa.keep Es95 K97q)
            have f107 := (Fld.keep Fv95 K97q nin0)
            have f108 := (Fld.keep Cs95 K97q nin0)
            have f109 := (Arv.keep Vb95 K97q nin0)
            have hK105 := (backOfSH (s := s) (vm0 := T3.vm) (R := room_1) (p := p) (e := e) (below := below) (args := #[(.int p0), (.int p1), (.int p2), (.int p3), (.int p4)]) (len := 3) (W := 1) (rm_ex l Z a0 hw [] w__VALUES w_CAP w_RATE w_BUDGET w_COMPACT_STRINGS w_SIOOBE_FORMATTER w_tCAP w_vCAP w_tRATE w_vRATE w_tBUDGET w_vBUDGET b48 b95 kb95 (3 : Int32) ((csk.map (fun c => c.toInt8.toInt32)).map Value.int) csk T97.heap n0 (own_old_le O97) ST O97 f106 f107 f108 f109 sp95) hZ (ww78 hw) (ww3 hw) (by decide) (by decide) (own_EW hw) C97.1)
            obtain ⟨_, _, ⟨T105, L105, k105, n105⟩, -, X105, hS105, hg105, ⟨Lc105, hQ105, l105, y105, z105, hC105⟩, st105⟩ := callSS X97 hx (y := y_15) hown (mvT hZ (ww76 hw)) (mvT hZ (ww77 hw)) (mvT hZ (ww3 hw)) (mvT hZ (ww78 hw)) (by decide) hK105 (g := (mkF m 243 ls104 [(.ref b48), (.ref bz)])) rfl (by rw [hml, hls104]; rfl) (argsL := [(.ref b48)]) (rest := [(.ref bz)]) (lenOf pd_13 rfl) rfl (by show 2 * 0 + _ ≤ _; exact Nat.le_of_eq rfl) (hb hby at_243) (fun _ _ => ⟨rfl, rfl, (by decide : 6 + 6 ≤ _), (by decide : 45 + 64 ≤ _)⟩)
            dsimp only [Pt.U, Pt.locs, Pt.cells, Pt.slots] at X105 l105 y105 z105 st105 hQ105 hS105 hg105 hC105
            subst l105 y105 z105
            obtain ⟨X105, hS, hZ, hown⟩ := rebS (s := s) hS hk97 X105 hS105 hg105 hZ hown
            obtain ⟨r_105, rfl, N105q, K105q, Y105_0⟩ := hQ105
            have N105 := Fr.app N97 N105q
            obtain ⟨lc105, X105, N105⟩ := own_gen X105 N105
            have cz105 : CHr Z own_EL T3.vm T97.heap T105.vm T105.heap := hC105
            have C105 : CHr Z own_EL s.vm h0 T105.vm T105.heap := C97.trans cz105
            have O105 := O97.keep K105q all0
            have hk105 : _ ≤ T105.heap.size := Nat.le_refl _
            obtain rfl : r_105 = (.ref bz) := own_pk_u Y97_0 Y105_0
            refine step (fun t k => st105.trans k) ?_
            show G T105 (mkF m 246 ls104 [(.ref bz), (.ref bz)])
            refine step (fun t k => Jvm.RoadKit.acmp X105 hx rfl rfl rfl (pc0 := 246) (pc' := 249) (same := true) rfl (hb hby at_246) rfl (decide_eq_true rfl) (by decide) (by decide) k) ?_
            show G T105 (mkF m 249 ls104 [])
            refine step (fun t k => XS.iconst X105.here hx rfl (hb hby at_249) k) ?_
            show G T105 (mkF m 250 ls104 [(.int 1)])
            refine step (fun t k => XS.goto X105.here hx rfl (pc0 := 250) (pc' := 254) rfl (hb hby at_250) (by decide) (by decide) k) ?_
            show G T105 (mkF m 254 ls104 [(.int 1)])
            exact ret (v := some (.int 1)) X105 hS hk105 C105 hZ (fun h => by rw [Bd.returns] at h; cases h) (fun fs hr => retN X105 hx (t := .boolean) Bd.returns (by simp) (hb hby at_254) hr) rfl ⟨rfl, N105⟩ (by decide) (by decide)
        · skip
          show G T48 (mkF m 227 ls12 [(.ref b11), (.ref b48), (.ref b48)])
          have hK110 := (StrChars.Road.backV (l := l) (R := room_1) (p := p) (e := e) (below := below) (args := #[(.int p0), (.int p1), (.int p2), (.int p3), (.int p4)]) (len := 3) (W := 1) hZ (own_hwV hw) (kI := 4) (ww7 hw) (cs := csk) (bs := (csk.map (fun c => c.toInt8.toInt32))) (n := 4) ge_b48 (own_old_le O48) A48 F48_value F48_coder f49 (Sta.ext O48.2 ST.k8) ST.k11 cak.1 rfl (by decide) (by decide) cak.2 rfl (by decide) (by decide))
          obtain ⟨_, _, ⟨T110, L110, k110, n110⟩, -, X110, ⟨Lc110, hQ110, l110, y110, z110⟩, st110⟩ := X48.specialBack hx (y := y_10) rfl hown (mvT hZ (ww31 hw)) (mvT hZ (ww32 hw)) (mvT hZ (ww33 hw)) (by decide) hK110 (g := (mkF m 227 ls12 [(.ref b11), (.ref b48), (.ref b48)])) rfl (by rw [hml, hls12]; rfl) (Steps.refl _) (a := b48) (argsL := [(.ref b11)]) (rest := [(.ref b48)]) (lenOf pd_12 rfl) rfl (by show 2 * 0 + _ ≤ _; exact Nat.le_of_eq rfl) (hb hby at_227) (fun _ _ => ⟨rfl, e48, (by decide : 4 + 1 ≤ _), (by decide : 39 + 4 ≤ _)⟩)
          dsimp only [Pt.U, Pt.locs, Pt.cells, Pt.slots] at X110 l110 y110 z110 st110 hQ110
          subst l110 y110 z110
          obtain ⟨rfl, N110q, K110q, Es110, Cs110, b110, kb110, gt110, gh110, -, Fv110, Vb110⟩ := hQ110
          have N110 := Fr.app Nk N110q
          obtain ⟨lc110, X110, N110⟩ := own_gen X110 N110
          have cz110 : CHr Z own_EL T3.vm h48 T3.vm T110.heap := CHr.keep K110q (allS (own_safeN hZ.alike A48 F48_value) all0) C48.1
          have C110 : CHr Z own_EL s.vm h0 T3.vm T110.heap := C48.trans cz110
          have O110 := O48.keep K110q (allS ge_b48 all0)
          have hk110 := Nat.le_trans hk48 K110q.1
          have sp110 : own_sp csk (4 : Int32) ((csk.map (fun c => c.toInt8.toInt32)).map Value.int) := ⟨StrChars.Road.codOf cak.1 (fun c hc => (cak.2 c hc).2), own_up cak.2, by rw [cak.1]; decide⟩
          refine step (fun t k => st110.trans k) ?_
          show G T110 (mkF m 230 ls12 [(.ref b48)])
          obtain ⟨ls111, hls111⟩  := own_sl #[.val (.int p0), .val (.int p1), .val (.int p2), .val (.int p3), .val (.int p4), .val (.int ((p0 &&& (2147483647 : Int32)) % (4 : Int32))), .val (.ref b3), .val (.int n_3), .val (.int (p1 &&& (3 : Int32))), .val (.int 4), .val (.int (p3 &&& (255 : Int32))), .val (.ref b11), .val (.ref b48), .unset]
          refine step (fun t k => XS.astore X110.here hx rfl (hb hby at_230) rfl rfl (l' := ls111) (by rw [hls12, hls111]; rfl) k) ?_
          show G T110 (mkF m 232 ls111 [])
          refine step (fun t k => XS.aload X110.here hx rfl (hb hby at_232) (by rw [hls111]; rfl) rfl k) ?_
          show G T110 (mkF m 234 ls111 [(.ref b48)])
          have hK112 := (backOf (R := room_1) (p := p) (e := e) (below := below) (args := #[(.int p0), (.int p1), (.int p2), (.int p3), (.int p4)]) (len := 3) (W := 0) (rm_nm l Z a0 hw [] w__VALUES w_CAP w_RATE w_BUDGET w_COMPACT_STRINGS w_SIOOBE_FORMATTER w_tCAP w_vCAP w_tRATE w_vRATE w_tBUDGET w_vBUDGET b48 b110 kb110 (4 : Int32) ((csk.map (fun c => c.toInt8.toInt32)).map Value.int) csk T110.heap n0 (own_old_le O110) ST O110 Es110 Fv110 Cs110 Vb110 sp110) hZ (ww45 hw) (ww44 hw) (by decide) (by decide))
          obtain ⟨_, _, ⟨T112, L112, k112, n112⟩, -, X112, ⟨Lc112, hQ112, l112, y112, z112⟩, st112⟩ := Jvm.LawKit.callS X110 hx (y := y_14) hown (mvT hZ (ww42 hw)) (mvT hZ (ww43 hw)) (mvT hZ (ww44 hw)) (mvT hZ (ww45 hw)) (by decide) hK112 (g := (mkF m 234 ls111 [(.ref b48)])) rfl (by rw [hml, hls111]; rfl) (argsL := [(.ref b48)]) (rest := []) (lenOf pd_13 rfl) rfl (by show 2 * 0 + _ ≤ _; exact Nat.le_of_eq rfl) (hb hby at_234) (fun _ _ => ⟨rfl, rfl, (by decide : 5 + 1 ≤ _), (by decide : 43 + 3 ≤ _)⟩)
          dsimp only [Pt.U, Pt.locs, Pt.cells, Pt.slots] at X112 l112 y112 z112 st112 hQ112
          subst l112 y112 z112
          obtain ⟨r_112, rfl, N112q, K112q, Y112_0⟩ := hQ112
          have N112 := Fr.app N110 N112q
          obtain ⟨lc112, X112, N112⟩ := own_gen X112 N112
          have cz112 : CHr Z own_EL T3.vm T110.heap T3.vm T112.heap := CHr.keep K112q all0 C110.1
          have C112 : CHr Z own_EL s.vm h0 T3.vm T112.heap := C110.trans cz112
          have O112 := O110.keep K112q all0
          have hk112 : _ ≤ T112.heap.size := Nat.le_trans hk110 K112q.1
          refine step (fun t k => st112 t k) ?_
          show G T112 (mkF m 237 ls111 [r_112])
          rcases ref_cases (own_pk_r Y112_0) with rfl | ⟨bz, rfl⟩
          · skip
            obtain ⟨ls113, hls113⟩  := own_sl #[.val (.int p0), .val (.int p1), .val (.int p2), .val (.int p3), .val (.int p4), .val (.int ((p0 &&& (2147483647 : Int32)) % (4 : Int32))), .val (.ref b3), .val (.int n_3), .val (.int (p1 &&& (3 : Int32))), .val (.int 4), .val (.int (p3 &&& (255 : Int32))), .val (.ref b11), .val (.ref b48), .val .null]
            refine step (fun t k => XS.astore X112.here hx rfl (hb hby at_237) rfl rfl (l' := ls113) (by rw [hls111, hls113]; rfl) k) ?_
            show G T112 (mkF m 239 ls113 [])
            refine step (fun t k => XS.aload X112.here hx rfl (hb hby at_239) (by rw [hls113]; rfl) rfl k) ?_
            show G T112 (mkF m 241 ls113 [.null])
            refine step (fun t k => XS.aload X112.here hx rfl (hb hby at_241) (by rw [hls113]; rfl) rfl k) ?_
            show G T112 (mkF m 243 ls113 [(.ref b48), .null])
            have f115 := (Exa.keep Es110 K112q)
            have f116 := (Fld.keep Fv110 K112q nin0)
            have f117 := (Fld.keep Cs110 K112q nin0)
            have f118 := (Arv.keep Vb110 K112q nin0)
            have hK114 := (backOfSH (s := s) (vm0 := T3.vm) (R := room_1) (p := p) (e := e) (below := below) (args := #[(.int p0), (.int p1), (.int p2), (.int p3), (.int p4)]) (len := 3) (W := 1) (rm_ex l Z a0 hw [] w__VALUES w_CAP w_RATE w_BUDGET w_COMPACT_STRINGS w_SIOOBE_FORMATTER w_tCAP w_vCAP w_tRATE w_vRATE w_tBUDGET w_vBUDGET b48 b110 kb110 (4 : Int32) ((csk.map (fun c => c.toInt8.toInt32)).map Value.int) csk T112.heap n0 (own_old_le O112) ST O112 f115 f116 f117 f118 sp110) hZ (ww78 hw) (ww3 hw) (by decide) (by decide) (own_EW hw) C112.1)
            obtain ⟨_, _, ⟨T114, L114, k114, n114⟩, -, X114, hS114, hg114, ⟨Lc114, hQ114, l114, y114, z114, hC114⟩, st114⟩ := callSS X112 hx (y := y_15) hown (mvT hZ (ww76 hw)) (mvT hZ (ww77 hw)) (mvT hZ (ww3 hw)) (mvT hZ (ww78 hw)) (by decide) hK114 (g := (mkF m 243 ls113 [(.ref b48), .null])) rfl (by rw [hml, hls113]; rfl) (argsL := [(.ref b48)]) (rest := [.null]) (lenOf pd_13 rfl) rfl (by show 2 * 0 + _ ≤ _; exact Nat.le_of_eq rfl) (hb hby at_243) (fun _ _ => ⟨rfl, rfl, (by decide : 6 + 6 ≤ _), (by decide : 46 + 64 ≤ _)⟩)
            dsimp only [Pt.U, Pt.locs, Pt.cells, Pt.slots] at X114 l114 y114 z114 st114 hQ114 hS114 hg114 hC114
            subst l114 y114 z114
            obtain ⟨X114, hS, hZ, hown⟩ := rebS (s := s) hS hk112 X114 hS114 hg114 hZ hown
            obtain ⟨r_114, rfl, N114q, K114q, Y114_0⟩ := hQ114
            have N114 := Fr.app N112 N114q
            obtain ⟨lc114, X114, N114⟩ := own_gen X114 N114
            have cz114 : CHr Z own_EL T3.vm T112.heap T114.vm T114.heap := hC114
            have C114 : CHr Z own_EL s.vm h0 T114.vm T114.heap := C112.trans cz114
            have O114 := O112.keep K114q all0
            have hk114 : _ ≤ T114.heap.size := Nat.le_refl _
            obtain rfl : r_114 = .null := own_pk_u Y112_0 Y114_0
            refine step (fun t k => st114.trans k) ?_
            show G T114 (mkF m 246 ls113 [.null, .null])
            refine step (fun t k => Jvm.RoadKit.acmp X114 hx rfl rfl rfl (pc0 := 246) (pc' := 249) (same := true) rfl (hb hby at_246) rfl (decide_eq_true rfl) (by decide) (by decide) k) ?_
            show G T114 (mkF m 249 ls113 [])
            refine step (fun t k => XS.iconst X114.here hx rfl (hb hby at_249) k) ?_
            show G T114 (mkF m 250 ls113 [(.int 1)])
            refine step (fun t k => XS.goto X114.here hx rfl (pc0 := 250) (pc' := 254) rfl (hb hby at_250) (by decide) (by decide) k) ?_
            show G T114 (mkF m 254 ls113 [(.int 1)])
            exact ret (v := some (.int 1)) X114 hS hk114 C114 hZ (fun h => by rw [Bd.returns] at h; cases h) (fun fs hr => retN X114 hx (t := .boolean) Bd.returns (by simp) (hb hby at_254) hr) rfl ⟨rfl, N114⟩ (by decide) (by decide)
          · skip
            obtain ⟨ls119, hls119⟩  := own_sl #[.val (.int p0), .val (.int p1), .val (.int p2), .val (.int p3), .val (.int p4), .val (.int ((p0 &&& (2147483647 : Int32)) % (4 : Int32))), .val (.ref b3), .val (.int n_3), .val (.int (p1 &&& (3 : Int32))), .val (.int 4), .val (.int (p3 &&& (255 : Int32))), .val (.ref b11), .val (.ref b48), .val (.ref bz)]
            refine step (fun t k => XS.astore X112.here hx rfl (hb hby at_237) rfl rfl (l' := ls119) (by rw [hls111, hls119]; rfl) k) ?_
            show G T112 (mkF m 239 ls119 [])
            refine step (fun t k => XS.aload X112.here hx rfl (hb hby at_239) (by rw [hls119]; rfl) rfl k) ?_
            show G T112 (mkF m 241 ls119 [(.ref bz)])
            refine step (fun t k => XS.aload X112.here hx rfl (hb hby at_241) (by rw [hls119]; rfl) rfl k) ?_
            show G T112 (mkF m 243 ls119 [(.ref b48), (.ref bz)])
            have f121 := (Exa.keep Es110 K112q)
            have f122 := (Fld.keep Fv110 K112q nin0)
            have f123 := (Fld.keep Cs110 K112q nin0)
            have f124 := (Arv.keep Vb110 K112q nin0)
            have hK120 := (backOfSH (s := s) (vm0 := T3.vm) (R := room_1) (p := p) (e := e) (below := below) (args := #[(.int p0), (.int p1), (.int p2), (.int p3), (.int p4)]) (len := 3) (W := 1) (rm_ex l Z a0 hw [] w__VALUES w_CAP w_RATE w_BUDGET w_COMPACT_STRINGS w_SIOOBE_FORMATTER w_tCAP w_vCAP w_tRATE w_vRATE w_tBUDGET w_vBUDGET b48 b110 kb110 (4 : Int32) ((csk.map (fun c => c.toInt8.toInt32)).map Value.int) csk T112.heap n0 (own_old_le O112) ST O112 f121 f122 f123 f124 sp110) hZ (ww78 hw) (ww3 hw) (by decide) (by decide) (own_EW hw) C112.1)
            obtain ⟨_, _, ⟨T120, L120, k120, n120⟩, -, X120, hS120, hg120, ⟨Lc120, hQ120, l120, y120, z120, hC120⟩, st120⟩ := callSS X112 hx (y := y_15) hown (mvT hZ (ww76 hw)) (mvT hZ (ww77 hw)) (mvT hZ (ww3 hw)) (mvT hZ (ww78 hw)) (by decide) hK120 (g := (mkF m 243 ls119 [(.ref b48), (.ref bz)])) rfl (by rw [hml, hls119]; rfl) (argsL := [(.ref b48)]) (rest := [(.ref bz)]) (lenOf pd_13 rfl) rfl (by show 2 * 0 + _ ≤ _; exact Nat.le_of_eq rfl) (hb hby at_243) (fun _ _ => ⟨rfl, rfl, (by decide : 6 + 6 ≤ _), (by decide : 46 + 64 ≤ _)⟩)
            dsimp only [Pt.U, Pt.locs, Pt.cells, Pt.slots] at X120 l120 y120 z120 st120 hQ120 hS120 hg120 hC120
            subst l120 y120 z120
            obtain ⟨X120, hS, hZ, hown⟩ := rebS (s := s) hS hk112 X120 hS120 hg120 hZ hown
            obtain ⟨r_120, rfl, N120q, K120q, Y120_0⟩ := hQ120
            have N120 := Fr.app N112 N120q
            obtain ⟨lc120, X120, N120⟩ := own_gen X120 N120
            have cz120 : CHr Z own_EL T3.vm T112.heap T120.vm T120.heap := hC120
            have C120 : CHr Z own_EL s.vm h0 T120.vm T120.heap := C112.trans cz120
            have O120 := O112.keep K120q all0
            have hk120 : _ ≤ T120.heap.size := Nat.le_refl _
            obtain rfl : r_120 = (.ref bz) := own_pk_u Y112_0 Y120_0
            refine step (fun t k => st120.trans k) ?_
            show G T120 (mkF m 246 ls119 [(.ref bz), (.ref bz)])
            refine step (fun t k => Jvm.RoadKit.acmp X120 hx rfl rfl rfl (pc0 := 246) (pc' := 249) (same := true) rfl (hb hby at_246) rfl (decide_eq_true rfl) (by decide) (by decide) k) ?_
            show G T120 (mkF m 249 ls119 [])
            refine step (fun t k => XS.iconst X120.here hx rfl (hb hby at_249) k) ?_
            show G T120 (mkF m 250 ls119 [(.int 1)])
            refine step (fun t k => XS.goto X120.here hx rfl (pc0 := 250) (pc' := 254) rfl (hb hby at_250) (by decide) (by decide) k) ?_
            show G T120 (mkF m 254 ls119 [(.int 1)])
            exact ret (v := some (.int 1)) X120 hS hk120 C120 hZ (fun h => by rw [Bd.returns] at h; cases h) (fun fs hr => retN X120 hx (t := .boolean) Bd.returns (by simp) (hb hby at_254) hr) rfl ⟨rfl, N120⟩ (by decide) (by decide)
        · skip
          show G T48 (mkF m 227 ls12 [(.ref b11), (.ref b48), (.ref b48)])
          have hK125 := (StrChars.Road.backV (l := l) (R := room_1) (p := p) (e := e) (below := below) (args := #[(.int p0), (.int p1), (.int p2), (.int p3), (.int p4)]) (len := 3) (W := 1) hZ (own_hwV hw) (kI := 4) (ww7 hw) (cs := csk) (bs := (csk.map (fun c => c.toInt8.toInt32))) (n := 5) ge_b48 (own_old_le O48) A48 F48_value F48_coder f49 (Sta.ext O48.2 ST.k8) ST.k11 cak.1 rfl (by decide) (by decide) cak.2 rfl (by decide) (by decide))
          obtain ⟨_, _, ⟨T125, L125, k125, n125⟩, -, X125, ⟨Lc125, hQ125, l125, y125, z125⟩, st125⟩ := X48.specialBack hx (y := y_10) rfl hown (mvT hZ (ww31 hw)) (mvT hZ (ww32 hw)) (mvT hZ (ww33 hw)) (by decide) hK125 (g := (mkF m 227 ls12 [(.ref b11), (.ref b48), (.ref b48)])) rfl (by rw [hml, hls12]; rfl) (Steps.refl _) (a := b48) (argsL := [(.ref b11)]) (rest := [(.ref b48)]) (lenOf pd_12 rfl) rfl (by show 2 * 0 + _ ≤ _; exact Nat.le_of_eq rfl) (hb hby at_227) (fun _ _ => ⟨rfl, e48, (by decide : 4 + 1 ≤ _), (by decide : 39 + 5 ≤ _)⟩)
          dsimp only [Pt.U, Pt.locs, Pt.cells, Pt.slots] at X125 l125 y125 z125 st125 hQ125
          subst l125 y125 z125
          obtain ⟨rfl, N125q, K125q, Es125, Cs125, b125, kb125, gt125, gh125, -, Fv125, Vb125⟩ := hQ125
          have N125 := Fr.app Nk N125q
          obtain ⟨lc125, X125, N125⟩ := own_gen X125 N125
          have cz125 : CHr Z own_EL T3.vm h48 T3.vm T125.heap := CHr.keep K125q (allS (own_safeN hZ.alike A48 F48_value) all0) C48.1
          have C125 : CHr Z own_EL s.vm h0 T3.vm T125.heap := C48.trans cz125
          have O125 := O48.keep K125q (allS ge_b48 all0)
          have hk125 := Nat.le_trans hk48 K125q.1
          have sp125 : own_sp csk (5 : Int32) ((csk.map (fun c => c.toInt8.toInt32)).map Value.int) := ⟨StrChars.Road.codOf cak.1 (fun c hc => (cak.2 c hc).2), own_up cak.2, by rw [cak.1]; decide⟩
          refine step (fun t k => st125.trans k) ?_
          show G T125 (mkF m 230 ls12 [(.ref b48)])
          obtain ⟨ls126, hls126⟩  := own_sl #[.val (.int p0), .val (.int p1), .val (.int p2), .val (.int p3), .val (.int p4), .val (.int ((p0 &&& (2147483647 : Int32)) % (4 : Int32))), .val (.ref b3), .val (.int n_3), .val (.int (p1 &&& (3 : Int32))), .val (.int 5), .val (.int (p3 &&& (255 : Int32))), .val (.ref b11), .val (.ref b48), .unset]
          refine step (fun t k => XS.astore X125.here hx rfl (hb hby at_230) rfl rfl (l' := ls126) (by rw [hls12, hls126]; rfl) k) ?_
          show G T125 (mkF m 232 ls126 [])
          refine step (fun t k => XS.aload X125.here hx rfl (hb hby at_232) (by rw [hls126]; rfl) rfl k) ?_
          show G T125 (mkF m 234 ls126 [(.ref b48)])
          have hK127 := (backOf (R := room_1) (p := p) (e := e) (below := below) (args := #[(.int p0), (.int p1), (.int p2), (.int p3), (.int p4)]) (len := 3) (W := 0) (rm_nm l Z a0 hw [] w__VALUES w_CAP w_RATE w_BUDGET w_COMPACT_STRINGS w_SIOOBE_FORMATTER w_tCAP w_vCAP w_tRATE w_vRATE w_tBUDGET w_vBUDGET b48 b125 kb125 (5 : Int32) ((csk.map (fun c => c.toInt8.toInt32)).map Value.int) csk T125.heap n0 (own_old_le O125) ST O125 Es125 Fv125 Cs125 Vb125 sp125) hZ (ww45 hw) (ww44 hw) (by decide) (by decide))
          obtain ⟨_, _, ⟨T127, L127, k127, n127⟩, -, X127, ⟨Lc127, hQ127, l127, y127, z127⟩, st127⟩ := Jvm.LawKit.callS X125 hx (y := y_14) hown (mvT hZ (ww42 hw)) (mvT hZ (ww43 hw)) (mvT hZ (ww44 hw)) (mvT hZ (ww45 hw)) (by decide) hK127 (g := (mkF m 234 ls126 [(.ref b48)])) rfl (by rw [hml, hls126]; rfl) (argsL := [(.ref b48)]) (rest := []) (lenOf pd_13 rfl) rfl (by show 2 * 0 + _ ≤ _; exact Nat.le_of_eq rfl) (hb hby at_234) (fun _ _ => ⟨rfl, rfl, (by decide : 5 + 1 ≤ _), (by decide : 44 + 3 ≤ _)⟩)
          dsimp only [Pt.U, Pt.locs, Pt.cells, Pt.slots] at X127 l127 y127 z127 st127 hQ127
          subst l127 y127 z127
          obtain ⟨r_127, rfl, N127q, K127q, Y127_0⟩ := hQ127
          have N127 := Fr.app N125 N127q
          obtain ⟨lc127, X127, N127⟩ := own_gen X127 N127
          have cz127 : CHr Z own_EL T3.vm T125.heap T3.vm T127.heap := CHr.keep K127q all0 C125.1
          have C127 : CHr Z own_EL s.vm h0 T3.vm T127.heap := C125.trans cz127
          have O127 := O125.keep K127q all0
          have hk127 : _ ≤ T127.heap.size := Nat.le_trans hk125 K127q.1
          refine step (fun t k => st127 t k) ?_
          show G T127 (mkF m 237 ls126 [r_127])
          rcases ref_cases (own_pk_r Y127_0) with rfl | ⟨bz, rfl⟩
          · skip
            obtain ⟨ls128, hls128⟩  := own_sl #[.val (.int p0), .val (.int p1), .val (.int p2), .val (.int p3), .val (.int p4), .val (.int ((p0 &&& (2147483647 : Int32)) % (4 : Int32))), .val (.ref b3), .val (.int n_3), .val (.int (p1 &&& (3 : Int32))), .val (.int 5), .val (.int (p3 &&& (255 : Int32))), .val (.ref b11), .val (.ref b48), .val .null]
            refine step (fun t k => XS.astore X127.here hx rfl (hb hby at_237) rfl rfl (l' := ls128) (by rw [hls126, hls128]; rfl) k) ?_
            show G T127 (mkF m 239 ls128 [])
            refine step (fun t k => XS.aload X127.here hx rfl (hb hby at_239) (by rw [hls128]; rfl) rfl k) ?_
            show G T127 (mkF m 241 ls128 [.null])
            refine step (fun t k => XS.aload X127.here hx rfl (hb hby at_241) (by rw [hls128]; rfl) rfl k) ?_
            show G T127 (mkF m 243 ls128 [(.ref b48), .null])
            have f130 := (Exa.keep Es125 K127q)
            have f131 := (Fld.keep Fv125 K127q nin0)
            have f132 := (Fld.keep Cs125 K127q nin0)
            have f133 := (Arv.keep Vb125 K127q nin0)
            have hK129 := (backOfSH (s := s) (vm0 := T3.vm) (R := room_1) (p := p) (e := e) (below := below) (args := #[(.int p0), (.int p1), (.int p2), (.int p3), (.int p4)]) (len := 3) (W := 1) (rm_ex l Z a0 hw [] w__VALUES w_CAP w_RATE w_BUDGET w_COMPACT_STRINGS w_SIOOBE_FORMATTER w_tCAP w_vCAP w_tRATE w_vRATE w_tBUDGET w_vBUDGET b48 b125 kb125 (5 : Int32) ((csk.map (fun c => c.toInt8.toInt32)).map Value.int) csk T127.heap n0 (own_old_le O127) ST O127 f130 f131 f132 f133 sp125) hZ (ww78 hw) (ww3 hw) (by decide) (by decide) (own_EW hw) C127.1)
            obtain ⟨_, _, ⟨T129, L129, k129, n129⟩, -, X129, hS129, hg129, ⟨Lc129, hQ129, l129, y129, z129, hC129⟩, st129⟩ := callSS X127 hx (y := y_15) hown (mvT hZ (ww76 hw)) (mvT hZ (ww77 hw)) (mvT hZ (ww3 hw)) (mvT hZ (ww78 hw)) (by decide) hK129 (g := (mkF m 243 ls128 [(.ref b48), .null])) rfl (by rw [hml, hls128]; rfl) (argsL := [(.ref b48)]) (rest := [.null]) (lenOf pd_13 rfl) rfl (by show 2 * 0 + _ ≤ _; exact Nat.le_of_eq rfl) (hb hby at_243) (fun _ _ => ⟨rfl, rfl, (by decide : 6 + 6 ≤ _), (by decide : 47 + 64 ≤ _)⟩)
            dsimp only [Pt.U, Pt.locs, Pt.cells, Pt.slots] at X129 l129 y129 z129 st129 hQ129 hS129 hg129 hC129
            subst l129 y129 z129
            obtain ⟨X129, hS, hZ, hown⟩ := rebS (s := s) hS hk127 X129 hS129 hg129 hZ hown
            obtain ⟨r_129, rfl, N129q, K129q, Y129_0⟩ := hQ129
            have N129 := Fr.app N127 N129q
            obtain ⟨lc129, X129, N129⟩ := own_gen X129 N129
            have cz129 : CHr Z own_EL T3.vm T127.heap T129.vm T129.heap := hC129
            have C129 : CHr Z own_EL s.vm h0 T129.vm T129.heap := C127.trans cz129
            have O129 := O127.keep K129q all0
            have hk129 : _ ≤ T129.heap.size := Nat.le_refl _
            obtain rfl : r_129 = .null := own_pk_u Y127_0 Y129_0
            refine step (fun t k => st129.trans k) ?_
            show G T129 (mkF m 246 ls128 [.null, .null])
            refine step (fun t k => Jvm.RoadKit.acmp X129 hx rfl rfl rfl (pc0 := 246) (pc' := 249) (same := true) rfl (hb hby at_246) rfl (decide_eq_true rfl) (by decide) (by decide) k) ?_
            show G T129 (mkF m 249 ls128 [])
            refine step (fun t k => XS.iconst X129.here hx rfl (hb hby at_249) k) ?_
            show G T129 (mkF m 250 ls128 [(.int 1)])
            refine step (fun t k => XS.goto X129.here hx rfl (pc0 := 250) (pc' := 254) rfl (hb hby at_250) (by decide) (by decide) k) ?_
            show G T129 (mkF m 254 ls128 [(.int 1)])
            exact ret (v := some (.int 1)) X129 hS hk129 C129 hZ (fun h => by rw [Bd.returns] at h; cases h) (fun fs hr => retN X129 hx (t := .boolean) Bd.returns (by simp) (hb hby at_254) hr) rfl ⟨rfl, N129⟩ (by decide) (by decide)
          · skip
            obtain ⟨ls134, hls134⟩  := own_sl #[.val (.int p0), .val (.int p1), .val (.int p2), .val (.int p3), .val (.int p4), .val (.int ((p0 &&& (2147483647 : Int32)) % (4 : Int32))), .val (.ref b3), .val (.int n_3), .val (.int (p1 &&& (3 : Int32))), .val (.int 5), .val (.int (p3 &&& (255 : Int32))), .val (.ref b11), .val (.ref b48), .val (.ref bz)]
            refine step (fun t k => XS.astore X127.here hx rfl (hb hby at_237) rfl rfl (l' := ls134) (by rw [hls126, hls134]; rfl) k) ?_
            show G T127 (mkF m 239 ls134 [])
            refine step (fun t k => XS.aload X127.here hx rfl (hb hby at_239) (by rw [hls134]; rfl) rfl k) ?_
            show G T127 (mkF m 241 ls134 [(.ref bz)])
            refine step (fun t k => XS.aload X127.here hx rfl (hb hby at_241) (by rw [hls134]; rfl) rfl k) ?_
            show G T127 (mkF m 243 ls134 [(.ref b48), (.ref bz)])
            have f136 := (Exa.keep Es125 K127q)
            have f137 := (Fld.keep Fv125 K127q nin0)
            have f138 := (Fld.keep Cs125 K127q nin0)
            have f139 := (Arv.keep Vb125 K127q nin0)
            have hK135 := (backOfSH (s := s) (vm0 := T3.vm) (R := room_1) (p := p) (e := e) (below := below) (args := #[(.int p0), (.int p1), (.int p2), (.int p3), (.int p4)]) (len := 3) (W := 1) (rm_ex l Z a0 hw [] w__VALUES w_CAP w_RATE w_BUDGET w_COMPACT_STRINGS w_SIOOBE_FORMATTER w_tCAP w_vCAP w_tRATE w_vRATE w_tBUDGET w_vBUDGET b48 b125 kb125 (5 : Int32) ((csk.map (fun c => c.toInt8.toInt32)).map Value.int) csk T127.heap n0 (own_old_le O127) ST O127 f136 f137 f138 f139 sp125) hZ (ww78 hw) (ww3 hw) (by decide) (by decide) (own_EW hw) C127.1)
            obtain ⟨_, _, ⟨T135, L135, k135, n135⟩, -, X135, hS135, hg135, ⟨Lc135, hQ135, l135, y135, z135, hC135⟩, st135⟩ := callSS X127 hx (y := y_15) hown (mvT hZ (ww76 hw)) (mvT hZ (ww77 hw)) (mvT hZ (ww3 hw)) (mvT hZ (ww78 hw)) (by decide) hK135 (g := (mkF m 243 ls134 [(.ref b48), (.ref bz)])) rfl (by rw [hml, hls134]; rfl) (argsL := [(.ref b48)]) (rest := [(.ref bz)]) (lenOf pd_13 rfl) rfl (by show 2 * 0 + _ ≤ _; exact Nat.le_of_eq rfl) (hb hby at_243) (fun _ _ => ⟨rfl, rfl, (by decide : 6 + 6 ≤ _), (by decide : 47 + 64 ≤ _)⟩)
            dsimp only [Pt.U, Pt.locs, Pt.cells, Pt.slots] at X135 l135 y135 z135 st135 hQ135 hS135 hg135 hC135
            subst l135 y135 z135
            obtain ⟨X135, hS, hZ, hown⟩ := rebS (s := s) hS hk127 X135 hS135 hg135 hZ hown
            obtain ⟨r_135, rfl, N135q, K135q, Y135_0⟩ := hQ135
            have N135 := Fr.app N127 N135q
            obtain ⟨lc135, X135, N135⟩ := own_gen X135 N135
            have cz135 : CHr Z own_EL T3.vm T127.heap T135.vm T135.heap := hC135
            have C135 : CHr Z own_EL s.vm h0 T135.vm T135.heap := C127.trans cz135
            have O135 := O127.keep K135q all0
            have hk135 : _ ≤ T135.heap.size := Nat.le_refl _
            obtain rfl : r_135 = (.ref bz) := own_pk_u Y127_0 Y135_0
            refine step (fun t k => st135.trans k) ?_
            show G T135 (mkF m 246 ls134 [(.ref bz), (.ref bz)])
            refine step (fun t k => Jvm.RoadKit.acmp X135 hx rfl rfl rfl (pc0 := 246) (pc' := 249) (same := true) rfl (hb hby at_246) rfl (decide_eq_true rfl) (by decide) (by decide) k) ?_
            show G T135 (mkF m 249 ls134 [])
            refine step (fun t k => XS.iconst X135.here hx rfl (hb hby at_249) k) ?_
            show G T135 (mkF m 250 ls134 [(.int 1)])
            refine step (fun t k => XS.goto X135.here hx rfl (pc0 := 250) (pc' := 254) rfl (hb hby at_250) (by decide) (by decide) k) ?_
            show G T135 (mkF m 254 ls134 [(.int 1)])
            exact ret (v := some (.int 1)) X135 hS hk135 C135 hZ (fun h => by rw [Bd.returns] at h; cases h) (fun fs hr => retN X135 hx (t := .boolean) Bd.returns (by simp) (hb hby at_254) hr) rfl ⟨rfl, N135⟩ (by decide) (by decide)
        · skip
          show G T48 (mkF m 227 ls12 [(.ref b11), (.ref b48), (.ref b48)])
          have hK140 := (StrChars.Road.backV (l := l) (R := room_1) (p := p) (e := e) (below := below) (args := #[(.int p0), (.int p1), (.int p2), (.int p3), (.int p4)]) (len := 3) (W := 1) hZ (own_hwV hw) (kI := 4) (ww7 hw) (cs := csk) (bs := (csk.map (fun c => c.toInt8.toInt32))) (n := 6) ge_b48 (own_old_le O48) A48 F48_value F48_coder f49 (Sta.ext O48.2 ST.k8) ST.k11 cak.1 rfl (by decide) (by decide) cak.2 rfl (by decide) (by decide))
          obtain ⟨_, _, ⟨T140, L140, k140, n140⟩, -, X140, ⟨Lc140, hQ140, l140, y140, z140⟩, st140⟩ := X48.specialBack hx (y := y_10) rfl hown (mvT hZ (ww31 hw)) (mvT hZ (ww32 hw)) (mvT hZ (ww33 hw)) (by decide) hK140 (g := (mkF m 227 ls12 [(.ref b11), (.ref b48), (.ref b48)])) rfl (by rw [hml, hls12]; rfl) (Steps.refl _) (a := b48) (argsL := [(.ref b11)]) (rest := [(.ref b48)]) (lenOf pd_12 rfl) rfl (by show 2 * 0 + _ ≤ _; exact Nat.le_of_eq rfl) (hb hby at_227) (fun _ _ => ⟨rfl, e48, (by decide : 4 + 1 ≤ _), (by decide : 39 + 6 ≤ _)⟩)
          dsimp only [Pt.U, Pt.locs, Pt.cells, Pt.slots] at X140 l140 y140 z140 st140 hQ140
          subst l140 y140 z140
          obtain ⟨rfl, N140q, K140q, Es140, Cs140, b140, kb140, gt140, gh140, -, Fv140, Vb140⟩ := hQ140
          have N140 := Fr.app Nk N140q
          obtain ⟨lc140, X140, N140⟩ := own_gen X140 N140
          have cz140 : CHr Z own_EL T3.vm h48 T3.vm T140.heap := CHr.keep K140q (allS (own_safeN hZ.alike A48 F48_value) all0) C48.1
          have C140 : CHr Z own_EL s.vm h0 T3.vm T140.heap := C48.trans cz140
          have O140 := O48.keep K140q (allS ge_b48 all0)
          have hk140 := Nat.le_trans hk48 K140q.1
          have sp140 : own_sp csk (6 : Int32) ((csk.map (fun c => c.toInt8.toInt32)).map Value.int) := ⟨StrChars.Road.codOf cak.1 (fun c hc => (cak.2 c hc).2), own_up cak.2, by rw [cak.1]; decide⟩
          refine step (fun t k => st140.trans k) ?_
          show G T140 (mkF m 230 ls12 [(.ref b48)])
          obtain ⟨ls141, hls141⟩  := own_sl #[.val (.int p0), .val (.int p1), .val (.int p2), .val (.int p3), .val (.int p4), .val (.int ((p0 &&& (2147483647 : Int32)) % (4 : Int32))), .val (.ref b3), .val (.int n_3), .val (.int (p1 &&& (3 : Int32))), .val (.int 6), .val (.int (p3 &&& (255 : Int32))), .val (.ref b11), .val (.ref b48), .unset]
          refine step (fun t k => XS.astore X140.here hx rfl (hb hby at_230) rfl rfl (l' := ls141) (by rw [hls12, hls141]; rfl) k) ?_
          show G T140 (mkF m 232 ls141 [])
          refine step (fun t k => XS.aload X140.here hx rfl (hb hby at_232) (by rw [hls141]; rfl) rfl k) ?_
          show G T140 (mkF m 234 ls141 [(.ref b48)])
          have hK142 := (backOf (R := room_1) (p := p) (e := e) (below := below) (args := #[(.int p0), (.int p1), (.int p2), (.int p3), (.int p4)]) (len := 3) (W := 0) (rm_nm l Z a0 hw [] w__VALUES w_CAP w_RATE w_BUDGET w_COMPACT_STRINGS w_SIOOBE_FORMATTER w_tCAP w_vCAP w_tRATE w_vRATE w_tBUDGET w_vBUDGET b48 b140 kb140 (6 : Int32) ((csk.map (fun c => c.toInt8.toInt32)).map Value.int) csk T140.heap n0 (own_old_le O140) ST O140 Es140 Fv140 Cs140 Vb140 sp140) hZ (ww45 hw) (ww44 hw) (by decide) (by decide))
          obtain ⟨_, _, ⟨T142, L142, k142, n142⟩, -, X142, ⟨Lc142, hQ142, l142, y142, z142⟩, st142⟩ := Jvm.LawKit.callS X140 hx (y := y_14) hown (mvT hZ (ww42 hw)) (mvT hZ (ww43 hw)) (mvT hZ (ww44 hw)) (mvT hZ (ww45 hw)) (by decide) hK142 (g := (mkF m 234 ls141 [(.ref b48)])) rfl (by rw [hml, hls141]; rfl) (argsL := [(.ref b48)]) (rest := []) (lenOf pd_13 rfl) rfl (by show 2 * 0 + _ ≤ _; exact Nat.le_of_eq rfl) (hb hby at_234) (fun _ _ => ⟨rfl, rfl, (by decide : 5 + 1 ≤ _), (by decide : 45 + 3 ≤ _)⟩)
          dsimp only [Pt.U, Pt.locs, Pt.cells, Pt.slots] at X142 l142 y142 z142 st142 hQ142
          subst l142 y142 z142
          obtain ⟨r_142, rfl, N142q, K142q, Y142_0⟩ := hQ142
          have N142 := Fr.app N140 N142q
          obtain ⟨lc142, X142, N142⟩ := own_gen X142 N142
          have cz142 : CHr Z own_EL T3.vm T140.heap T3.vm T142.heap := CHr.keep K142q all0 C140.1
          have C142 : CHr Z own_EL s.vm h0 T3.vm T142.heap := C140.trans cz142
          have O142 := O140.keep K142q all0
          have hk142 : _ ≤ T142.heap.size := Nat.le_trans hk140 K142q.1
          refine step (fun t k => st142 t k) ?_
          show G T142 (mkF m 237 ls141 [r_142])
          rcases ref_cases (own_pk_r Y142_0) with rfl | ⟨bz, rfl⟩
          · skip
            obtain ⟨ls143, hls143⟩  := own_sl #[.val (.int p0), .val (.int p1), .val (.int p2), .val (.int p3), .val (.int p4), .val (.int ((p0 &&& (2147483647 : Int32)) % (4 : Int32))), .val (.ref b3), .val (.int n_3), .val (.int (p1 &&& (3 : Int32))), .val (.int 6), .val (.int (p3 &&& (255 : Int32))), .val (.ref b11), .val (.ref b48), .val .null]
            refine step (fun t k => XS.astore X142.here hx rfl (hb hby at_237) rfl rfl (l' := ls143) (by rw [hls141, hls143]; rfl) k) ?_
            show G T142 (mkF m 239 ls143 [])
            refine step (fun t k => XS.aload X142.here hx rfl (hb hby at_239) (by rw [hls143]; rfl) rfl k) ?_
            show G T142 (mkF m 241 ls143 [.null])
            refine step (fun t k => XS.aload X142.here hx rfl (hb hby at_241) (by rw [hls143]; rfl) rfl k) ?_
            show G T142 (mkF m 243 ls143 [(.ref b48), .null])
            have f145 := (Exa.keep Es140 K142q)
            have f146 := (Fld.keep Fv140 K142q nin0)
            have f147 := (Fld.keep Cs140 K142q nin0)
            have f148 := (Arv.keep Vb140 K142q nin0)
            have hK144 := (backOfSH (s := s) (vm0 := T3.vm) (R := room_1) (p := p) (e := e) (below := below) (args := #[(.int p0), (.int p1), (.int p2), (.int p3), (.int p4)]) (len := 3) (W := 1) (rm_ex l Z a0 hw [] w__VALUES w_CAP w_RATE w_BUDGET w_COMPACT_STRINGS w_SIOOBE_FORMATTER w_tCAP w_vCAP w_tRATE w_vRATE w_tBUDGET w_vBUDGET b48 b140 kb140 (6 : Int32) ((csk.map (fun c => c.toInt8.toInt32)).map Value.int) csk T142.heap n0 (own_old_le O142) ST O142 f145 f146 f147 f148 sp140) hZ (ww78 hw) (ww3 hw) (by decide) (by decide) (own_EW hw) C142.1)
            obtain ⟨_, _, ⟨T144, L144, k144, n144⟩, -, X144, hS144, hg144, ⟨Lc144, hQ144, l144, y144, z144, hC144⟩, st144⟩ := callSS X142 hx (y := y_15) hown (mvT hZ (ww76 hw)) (mvT hZ (ww77 hw)) (mvT hZ (ww3 hw)) (mvT hZ (ww78 hw)) (by decide) hK144 (g := (mkF m 243 ls143 [(.ref b48), .null])) rfl (by rw [hml, hls143]; rfl) (argsL := [(.ref b48)]) (rest := [.null]) (lenOf pd_13 rfl) rfl (by show 2 * 0 + _ ≤ _; exact Nat.le_of_eq rfl) (hb hby at_243) (fun _ _ => ⟨rfl, rfl, (by decide : 6 + 6 ≤ _), (by decide : 48 + 64 ≤ _)⟩)
            dsimp only [Pt.U, Pt.locs, Pt.cells, Pt.slots] at X144 l144 y144 z144 st144 hQ144 hS144 hg144 hC144
            subst l144 y144 z144
            obtain ⟨X144, hS, hZ, hown⟩ := rebS (s := s) hS hk142 X144 hS144 hg144 hZ hown
            obtain ⟨r_144, rfl, N144q, K144q, Y144_0⟩ := hQ144
            have N144 := Fr.app N142 N144q
            obtain ⟨lc144, X144, N144⟩ := own_gen X144 N144
            have cz144 : CHr Z own_EL T3.vm T142.heap T144.vm T144.heap := hC144
            have C144 : CHr Z own_EL s.vm h0 T144.vm T144.heap := C142.trans cz144
            have O144 := O142.keep K144q all0
            have hk144 : _ ≤ T144.heap.size := Nat.le_refl _
            obtain rfl : r_144 = .null := own_pk_u Y142_0 Y144_0
            refine step (fun t k => st144.trans k) ?_
            show G T144 (mkF m 246 ls143 [.null, .null])
            refine step (fun t k => Jvm.RoadKit.acmp X144 hx rfl rfl rfl (pc0 := 246) (pc' := 249) (same := true) rfl (hb hby at_246) rfl (decide_eq_true rfl) (by decide) (by decide) k) ?_
            show G T144 (mkF m 249 ls143 [])
            refine step (fun t k => XS.iconst X144.here hx rfl (hb hby at_249) k) ?_
            show G T144 (mkF m 250 ls143 [(.int 1)])
            refine step (fun t k => XS.goto X144.here hx rfl (pc0 := 250) (pc' := 254) rfl (hb hby at_250) (by decide) (by decide) k) ?_
            show G T144 (mkF m 254 ls143 [(.int 1)])
            exact ret (v := some (.int 1)) X144 hS hk144 C144 hZ (fun h => by rw [Bd.returns] at h; cases h) (fun fs hr => retN X144 hx (t := .boolean) Bd.returns (by simp) (hb hby at_254) hr) rfl ⟨rfl, N144⟩ (by decide) (by decide)
          · skip
            obtain ⟨ls149, hls149⟩  := own_sl #[.val (.int p0), .val (.int p1), .val (.int p2), .val (.int p3), .val (.int p4), .val (.int ((p0 &&& (2147483647 : Int32)) % (4 : Int32))), .val (.ref b3), .val (.int n_3), .val (.int (p1 &&& (3 : Int32))), .val (.int 6), .val (.int (p3 &&& (255 : Int32))), .val (.ref b11), .val (.ref b48), .val (.ref bz)]
            refine step (fun t k => XS.astore X142.here hx rfl (hb hby at_237) rfl rfl (l' := ls149) (by rw [hls141, hls149]; rfl) k) ?_
            show G T142 (mkF m 239 ls149 [])
            refine step (fun t k => XS.aload X142.here hx rfl (hb hby at_239) (by rw [hls149]; rfl) rfl k) ?_
            show G T142 (mkF m 241 ls149 [(.ref bz)])
            refine step (fun t k => XS.aload X142.here hx rfl (hb hby at_241) (by rw [hls149]; rfl) rfl k) ?_
            show G T142 (mkF m 243 ls149 [(.ref b48), (.ref bz)])
            have f151 := (Exa.keep Es140 K142q)
            have f152 := (Fld.keep Fv140 K142q nin0)
            have f153 := (Fld.keep Cs140 K142q nin0)
            have f154 := (Arv.keep Vb140 K142q nin0)
            have hK150 := (backOfSH (s := s) (vm0 := T3.vm) (R := room_1) (p := p) (e := e) (below := below) (args := #[(.int p0), (.int p1), (.int p2), (.int p3), (.int p4)]) (len := 3) (W := 1) (rm_ex l Z a0 hw [] w__VALUES w_CAP w_RATE w_BUDGET w_COMPACT_STRINGS w_SIOOBE_FORMATTER w_tCAP w_vCAP w_tRATE w_vRATE w_tBUDGET w_vBUDGET b48 b140 kb140 (6 : Int32) ((csk.map (fun c => c.toInt8.toInt32)).map Value.int) csk T142.heap n0 (own_old_le O142) ST O142 f151 f152 f153 f154 sp140) hZ (ww78 hw) (ww3 hw) (by decide) (by decide) (own_EW hw) C142.1)
            obtain ⟨_, _, ⟨T150, L150, k150, n150⟩, -, X150, hS150, hg150, ⟨Lc150, hQ150, l150, y150, z150, hC150⟩, st150⟩ := callSS X142 hx (y := y_15) hown (mvT hZ (ww76 hw)) (mvT hZ (ww77 hw)) (mvT hZ (ww3 hw)) (mvT hZ (ww78 hw)) (by decide) hK150 (g := (mkF m 243 ls149 [(.ref b48), (.ref bz)])) rfl (by rw [hml, hls149]; rfl) (argsL := [(.ref b48)]) (rest := [(.ref bz)]) (lenOf pd_13 rfl) rfl (by show 2 * 0 + _ ≤ _; exact Nat.le_of_eq rfl) (hb hby at_243) (fun _ _ => ⟨rfl, rfl, (by decide : 6 + 6 ≤ _), (by decide : 48 + 64 ≤ _)⟩)
            dsimp only [Pt.U, Pt.locs, Pt.cells, Pt.slots] at X150 l150 y150 z150 st150 hQ150 hS150 hg150 hC150
            subst l150 y150 z150
            obtain ⟨X150, hS, hZ, hown⟩ := rebS (s := s) hS hk142 X150 hS150 hg150 hZ hown
            obtain ⟨r_150, rfl, N150q, K150q, Y150_0⟩ := hQ150
            have N150 := Fr.app N142 N150q
            obtain ⟨lc150, X150, N150⟩ := own_gen X150 N150
            have cz150 : CHr Z own_EL T3.vm T142.heap T150.vm T150.heap := hC150
            have C150 : CHr Z own_EL s.vm h0 T150.vm T150.heap := C142.trans cz150
            have O150 := O142.keep K150q all0
            have hk150 : _ ≤ T150.heap.size := Nat.le_refl _
            obtain rfl : r_150 = (.ref bz) := own_pk_u Y142_0 Y150_0
            refine step (fun t k => st150.trans k) ?_
            show G T150 (mkF m 246 ls149 [(.ref bz), (.ref bz)])
            refine step (fun t k => Jvm.RoadKit.acmp X150 hx rfl rfl rfl (pc0 := 246) (pc' := 249) (same := true) rfl (hb hby at_246) rfl (decide_eq_true rfl) (by decide) (by decide) k) ?_
            show G T150 (mkF m 249 ls149 [])
            refine step (fun t k => XS.iconst X150.here hx rfl (hb hby at_249) k) ?_
            show G T150 (mkF m 250 ls149 [(.int 1)])
            refine step (fun t k => XS.goto X150.here hx rfl (pc0 := 250) (pc' := 254) rfl (hb hby at_250) (by decide) (by decide) k) ?_
            show G T150 (mkF m 254 ls149 [(.int 1)])
            exact ret (v := some (.int 1)) X150 hS hk150 C150 hZ (fun h => by rw [Bd.returns] at h; cases h) (fun fs hr => retN X150 hx (t := .boolean) Bd.returns (by simp) (hb hby at_254) hr) rfl ⟨rfl, N150⟩ (by decide) (by decide)
        · skip
          show G T48 (mkF m 227 ls12 [(.ref b11), (.ref b48), (.ref b48)])
          have hK155 := (StrChars.Road.backV (l := l) (R := room_1) (p := p) (e := e) (below := below) (args := #[(.int p0), (.int p1), (.int p2), (.int p3), (.int p4)]) (len := 3) (W := 1) hZ (own_hwV hw) (kI := 4) (ww7 hw) (cs := csk) (bs := (csk.map (fun c => c.toInt8.toInt32))) (n := 7) ge_b48 (own_old_le O48) A48 F48_value F48_coder f49 (Sta.ext O48.2 ST.k8) ST.k11 cak.1 rfl (by decide) (by decide) cak.2 rfl (by decide) (by decide))
          obtain ⟨_, _, ⟨T155, L155, k155, n155⟩, -, X155, ⟨Lc155, hQ155, l155, y155, z155⟩, st155⟩ := X48.specialBack hx (y := y_10) rfl hown (mvT hZ (ww31 hw)) (mvT hZ (ww32 hw)) (mvT hZ (ww33 hw)) (by decide) hK155 (g := (mkF m 227 ls12 [(.ref b11), (.ref b48), (.ref b48)])) rfl (by rw [hml, hls12]; rfl) (Steps.refl _) (a := b48) (argsL := [(.ref b11)]) (rest := [(.ref b48)]) (lenOf pd_12 rfl) rfl (by show 2 * 0 + _ ≤ _; exact Nat.le_of_eq rfl) (hb hby at_227) (fun _ _ => ⟨rfl, e48, (by decide : 4 + 1 ≤ _), (by decide : 39 + 7 ≤ _)⟩)
          dsimp only [Pt.U, Pt.locs, Pt.cells, Pt.slots] at X155 l155 y155 z155 st155 hQ155
          subst l155 y155 z155
          obtain ⟨rfl, N155q, K155q, Es155, Cs155, b155, kb155, gt155, gh155, -, Fv155, Vb155⟩ := hQ155
          have N155 := Fr.app Nk N155q
          obtain ⟨lc155, X155, N155⟩ := own_gen X155 N155
          have cz155 : CHr Z own_EL T3.vm h48 T3.vm T155.heap := CHr.keep K155q (allS (own_safeN hZ.alike A48 F48_value) all0) C48.1
          have C155 : CHr Z own_EL s.vm h0 T3.vm T155.heap := C48.trans cz155
          have O155 := O48.keep K155q (allS ge_b48 all0)
          have hk155 := Nat.le_trans hk48 K155q.1
          have sp155 : own_sp csk (7 : Int32) ((csk.map (fun c => c.toInt8.toInt32)).map Value.int) := ⟨StrChars.Road.codOf cak.1 (fun c hc => (cak.2 c hc).2), own_up cak.2, by rw [cak.1]; decide⟩
          refine step (fun t k => st155.trans k) ?_
          show G T155 (mkF m 230 ls12 [(.ref b48)])
          obtain ⟨ls156, hls156⟩  := own_sl #[.val (.int p0), .val (.int p1), .val (.int p2), .val (.int p3), .val (.int p4), .val (.int ((p0 &&& (2147483647 : Int32)) % (4 : Int32))), .val (.ref b3), .val (.int n_3), .val (.int (p1 &&& (3 : Int32))), .val (.int 7), .val (.int (p3 &&& (255 : Int32))), .val (.ref b11), .val (.ref b48), .unset]
          refine step (fun t k => XS.astore X155.here hx rfl (hb hby at_230) rfl rfl (l' := ls156) (by rw [hls12, hls156]; rfl) k) ?_
          show G T155 (mkF m 232 ls156 [])
          refine step (fun t k => XS.aload X155.here hx rfl (hb hby at_232) (by rw [hls156]; rfl) rfl k) ?_
          show G T155 (mkF m 234 ls156 [(.ref b48)])
          have hK157 := (backOf (R := room_1) (p := p) (e := e) (below := below) (args := #[(.int p0), (.int p1), (.int p2), (.int p3), (.int p4)]) (len := 3) (W := 0) (rm_nm l Z a0 hw [] w__VALUES w_CAP w_RATE w_BUDGET w_COMPACT_STRINGS w_SIOOBE_FORMATTER w_tCAP w_vCAP w_tRATE w_vRATE w_tBUDGET w_vBUDGET b48 b155 kb155 (7 : Int32) ((csk.map (fun c => c.toInt8.toInt32)).map Value.int) csk T155.heap n0 (own_old_le O155) ST O155 Es155 Fv155 Cs155 Vb155 sp155) hZ (ww45 hw) (ww44 hw) (by decide) (by decide))
          obtain ⟨_, _, ⟨T157, L157, k157, n157⟩, -, X157, ⟨Lc157, hQ157, l157, y157, z157⟩, st157⟩ := Jvm.LawKit.callS X155 hx (y := y_14) hown (mvT hZ (ww42 hw)) (mvT hZ (ww43 hw)) (mvT hZ (ww44 hw)) (mvT hZ (ww45 hw)) (by decide) hK157 (g := (mkF m 234 ls156 [(.ref b48)])) rfl (by rw [hml, hls156]; rfl) (argsL := [(.ref b48)]) (rest := []) (lenOf pd_13 rfl) rfl (by show 2 * 0 + _ ≤ _; exact Nat.le_of_eq rfl) (hb hby at_234) (fun _ _ => ⟨rfl, rfl, (by decide : 5 + 1 ≤ _), (by decide : 46 + 3 ≤ _)⟩)
          dsimp only [Pt.U, Pt.locs, Pt.cells, Pt.slots] at X157 l157 y157 z157 st157 hQ157
          subst l157 y157 z157
          obtain ⟨r_157, rfl, N157q, K157q, Y157_0⟩ := hQ157
          have N157 := Fr.app N155 N157q
          obtain ⟨lc157, X157, N157⟩ := own_gen X157 N157
          have cz157 : CHr Z own_EL T3.vm T155.heap T3.vm T157.heap := CHr.keep K157q all0 C155.1
          have C157 : CHr Z own_EL s.vm h0 T3.vm T157.heap := C155.trans cz157
          have O157 := O155.keep K157q all0
          have hk157 : _ ≤ T157.heap.size := Nat.le_trans hk155 K157q.1
          refine step (fun t k => st157 t k) ?_
          show G T157 (mkF m 237 ls156 [r_157])
          rcases ref_cases (own_pk_r Y157_0) with rfl | ⟨bz, rfl⟩
          · skip
            obtain ⟨ls158, hls158⟩  := own_sl #[.val (.int p0), .val (.int p1), .val (.int p2), .val (.int p3), .val (.int p4), .val (.int ((p0 &&& (2147483647 : Int32)) % (4 : Int32))), .val (.ref b3), .val (.int n_3), .val (.int (p1 &&& (3 : Int32))), .val (.int 7), .val (.int (p3 &&& (255 : Int32))), .val (.ref b11), .val (.ref b48), .val .null]
            refine step (fun t k => XS.astore X157.here hx rfl (hb hby at_237) rfl rfl (l' := ls158) (by rw [hls156, hls158]; rfl) k) ?_
            show G T157 (mkF m 239 ls158 [])
            refine step (fun t k => XS.aload X157.here hx rfl (hb hby at_239) (by rw [hls158]; rfl) rfl k) ?_
            show G T157 (mkF m 241 ls158 [.null])
            refine step (fun t k => XS.aload X157.here hx rfl (hb hby at_241) (by rw [hls158]; rfl) rfl k) ?_
            show G T157 (mkF m 243 ls158 [(.ref b48), .null])
            have f160 := (Exa.keep Es155 K157q)
            have f161 := (Fld.keep Fv155 K157q nin0)
            have f162 := (Fld.keep Cs155 K157q nin0)
            have f163 := (Arv.keep Vb155 K157q nin0)
            have hK159 := (backOfSH (s := s) (vm0 := T3.vm) (R := room_1) (p := p) (e := e) (below := below) (args := #[(.int p0), (.int p1), (.int p2), (.int p3), (.int p4)]) (len := 3) (W := 1) (rm_ex l Z a0 hw [] w__VALUES w_CAP w_RATE w_BUDGET w_COMPACT_STRINGS w_SIOOBE_FORMATTER w_tCAP w_vCAP w_tRATE w_vRATE w_tBUDGET w_vBUDGET b48 b155 kb155 (7 : Int32) ((csk.map (fun c => c.toInt8.toInt32)).map Value.int) csk T157.heap n0 (own_old_le O157) ST O157 f160 f161 f162 f163 sp155) hZ (ww78 hw) (ww3 hw) (by decide) (by decide) (own_EW hw) C157.1)
            obtain ⟨_, _, ⟨T159, L159, k159, n159⟩, -, X159, hS159, hg159, ⟨Lc159, hQ159, l159, y159, z159, hC159⟩, st159⟩ := callSS X157 hx (y := y_15) hown (mvT hZ (ww76 hw)) (mvT hZ (ww77 hw)) (mvT hZ (ww3 hw)) (mvT hZ (ww78 hw)) (by decide) hK159 (g := (mkF m 243 ls158 [(.ref b48), .null])) rfl (by rw [hml, hls158]; rfl) (argsL := [(.ref b48)]) (rest := [.null]) (lenOf pd_13 rfl) rfl (by show 2 * 0 + _ ≤ _; exact Nat.le_of_eq rfl) (hb hby at_243) (fun _ _ => ⟨rfl, rfl, (by decide : 6 + 6 ≤ _), (by decide : 49 + 64 ≤ _)⟩)
            dsimp only [Pt.U, Pt.locs, Pt.cells, Pt.slots] at X159 l159 y159 z159 st159 hQ159 hS159 hg159 hC159
            subst l159 y159 z159
            obtain ⟨X159, hS, hZ, hown⟩ := rebS (s := s) hS hk157 X159 hS159 hg159 hZ hown
            obtain ⟨r_159, rfl, N159q, K159q, Y159_0⟩ := hQ159
            have N159 := Fr.app N157 N159q
            obtain ⟨lc159, X159, N159⟩ := own_gen X159 N159
            have cz159 : CHr Z own_EL T3.vm T157.heap T159.vm T159.heap := hC159
            have C159 : CHr Z own_EL s.vm h0 T159.vm T159.heap := C157.trans cz159
            have O159 := O157.keep K159q all0
            have hk159 : _ ≤ T159.heap.size := Nat.le_refl _
            obtain rfl : r_159 = .null := own_pk_u Y157_0 Y159_0
            refine step (fun t k => st159.trans k) ?_
            show G T159 (mkF m 246 ls158 [.null, .null])
            refine step (fun t k => Jvm.RoadKit.acmp X159 hx rfl rfl rfl (pc0 := 246) (pc' := 249) (same := true) rfl (hb hby at_246) rfl (decide_eq_true rfl) (by decide) (by decide) k) ?_
            show G T159 (mkF m 249 ls158 [])
            refine step (fun t k => XS.iconst X159.here hx rfl (hb hby at_249) k) ?_
            show G T159 (mkF m 250 ls158 [(.int 1)])
            refine step (fun t k => XS.goto X159.here hx rfl (pc0 := 250) (pc' := 254) rfl (hb hby at_250) (by decide) (by decide) k) ?_
            show G T159 (mkF m 254 ls158 [(.int 1)])
            exact ret (v := some (.int 1)) X159 hS hk159 C159 hZ (fun h => by rw [Bd.returns] at h; cases h) (fun fs hr => retN X159 hx (t := .boolean) Bd.returns (by simp) (hb hby at_254) hr) rfl ⟨rfl, N159⟩ (by decide) (by decide)
          · skip
            obtain ⟨ls164, hls164⟩  := own_sl #[.val (.int p0), .val (.int p1), .val (.int p2), .val (.int p3), .val (.int p4), .val (.int ((p0 &&& (2147483647 : Int32)) % (4 : Int32))), .val (.ref b3), .val (.int n_3), .val (.int (p1 &&& (3 : Int32))), .val (.int 7), .val (.int (p3 &&& (255 : Int32))), .val (.ref b11), .val (.ref b48), .val (.ref bz)]
            refine step (fun t k => XS.astore X157.here hx rfl (hb hby at_237) rfl rfl (l' := ls164) (by rw [hls156, hls164]; rfl) k) ?_
            show G T157 (mkF m 239 ls164 [])
            refine step (fun t k => XS.aload X157.here hx rfl (hb hby at_239) (by rw [hls164]; rfl) rfl k) ?_
            show G T157 (mkF m 241 ls164 [(.ref bz)])
            refine step (fun t k => XS.aload X157.here hx rfl (hb hby at_241) (by rw [hls164]; rfl) rfl k) ?_
            show G T157 (mkF m 243 ls164 [(.ref b48), (.ref bz)])
            have f166 := (Exa.keep Es155 K157q)
            have f167 := (Fld.keep Fv155 K157q nin0)
            have f168 := (Fld.keep Cs155 K157q nin0)
            have f169 := (Arv.keep Vb155 K157q nin0)
            have hK165 := (backOfSH (s := s) (vm0 := T3.vm) (R := room_1) (p := p) (e := e) (below := below) (args := #[(.int p0), (.int p1), (.int p2), (.int p3), (.int p4)]) (len := 3) (W := 1) (rm_ex l Z a0 hw [] w__VALUES w_CAP w_RATE w_BUDGET w_COMPACT_STRINGS w_SIOOBE_FORMATTER w_tCAP w_vCAP w_tRATE w_vRATE w_tBUDGET w_vBUDGET b48 b155 kb155 (7 : Int32) ((csk.map (fun c => c.toInt8.toInt32)).map Value.int) csk T157.heap n0 (own_old_le O157) ST O157 f166 f167 f168 f169 sp155) hZ (ww78 hw) (ww3 hw) (by decide) (by decide) (own_EW hw) C157.1)
            obtain ⟨_, _, ⟨T165, L165, k165, n165⟩, -, X165, hS165, hg165, ⟨Lc165, hQ165, l165, y165, z165, hC165⟩, st165⟩ := callSS X157 hx (y := y_15) hown (mvT hZ (ww76 hw)) (mvT hZ (ww77 hw)) (mvT hZ (ww3 hw)) (mvT hZ (ww78 hw)) (by decide) hK165 (g := (mkF m 243 ls164 [(.ref b48), (.ref bz)])) rfl (by rw [hml, hls164]; rfl) (argsL := [(.ref b48)]) (rest := [(.ref bz)]) (lenOf pd_13 rfl) rfl (by show 2 * 0 + _ ≤ _; exact Nat.le_of_eq rfl) (hb hby at_243) (fun _ _ => ⟨rfl, rfl, (by decide : 6 + 6 ≤ _), (by decide : 49 + 64 ≤ _)⟩)
            dsimp only [Pt.U, Pt.locs, Pt.cells, Pt.slots] at X165 l165 y165 z165 st165 hQ165 hS165 hg165 hC165
            subst l165 y165 z165
            obtain ⟨X165, hS, hZ, hown⟩ := rebS (s := s) hS hk157 X165 hS165 hg165 hZ hown
            obtain ⟨r_165, rfl, N165q, K165q, Y165_0⟩ := hQ165
            have N165 := Fr.app N157 N165q
            obtain ⟨lc165, X165, N165⟩ := own_gen X165 N165
            have cz165 : CHr Z own_EL T3.vm T157.heap T165.vm T165.heap := hC165
            have C165 : CHr Z own_EL s.vm h0 T165.vm T165.heap := C157.trans cz165
            have O165 := O157.keep K165q all0
            have hk165 : _ ≤ T165.heap.size := Nat.le_refl _
            obtain rfl : r_165 = (.ref bz) := own_pk_u Y157_0 Y165_0
            refine step (fun t k => st165.trans k) ?_
            show G T165 (mkF m 246 ls164 [(.ref bz), (.ref bz)])
            refine step (fun t k => Jvm.RoadKit.acmp X165 hx rfl rfl rfl (pc0 := 246) (pc' := 249) (same := true) rfl (hb hby at_246) rfl (decide_eq_true rfl) (by decide) (by decide) k) ?_
            show G T165 (mkF m 249 ls164 [])
            refine step (fun t k => XS.iconst X165.here hx rfl (hb hby at_249) k) ?_
            show G T165 (mkF m 250 ls164 [(.int 1)])
            refine step (fun t k => XS.goto X165.here hx rfl (pc0 := 250) (pc' := 254) rfl (hb hby at_250) (by decide) (by decide) k) ?_
            show G T165 (mkF m 254 ls164 [(.int 1)])
            exact ret (v := some (.int 1)) X165 hS hk165 C165 hZ (fun h => by rw [Bd.returns] at h; cases h) (fun fs hr => retN X165 hx (t := .boolean) Bd.returns (by simp) (hb hby at_254) hr) rfl ⟨rfl, N165⟩ (by decide) (by decide)
      show G Tk (mkF m 204 ls12 [])
      refine step (fun t k => XS.iload Xk.here hx rfl (hb hby at_204) (by rw [hls12]; rfl) k) ?_
      show G Tk (mkF m 206 ls12 [(.int ((p0 &&& (2147483647 : Int32)) % (4 : Int32)))])
      refine step (fun t k => XS.iconst Xk.here hx rfl (hb hby at_206) k) ?_
      show G Tk (mkF m 207 ls12 [(.int 3), (.int ((p0 &&& (2147483647 : Int32)) % (4 : Int32)))])
      by_cases hc170 : ((p0 &&& (2147483647 : Int32)) % (4 : Int32)) = (3 : Int32)
      · skip
        refine step (fun t k => XS.icmpNo Xk.here hx rfl (hb hby at_207) rfl (teq hc170).2 k) ?_
        show G Tk (mkF m 210 ls12 [])
        refine step (fun t k => XS.iload Xk.here hx rfl (hb hby at_210) (by rw [hls12]; rfl) k) ?_
        show G Tk (mkF m 212 ls12 [(.int p4)])
        refine step (fun t k => XS.iconst Xk.here hx rfl (hb hby at_212) k) ?_
        show G Tk (mkF m 213 ls12 [(.int 2), (.int p4)])
        refine step (fun t k => XS.iand Xk.here hx rfl (hb hby at_213) rfl k) ?_
        show G Tk (mkF m 214 ls12 [(.int (p4 &&& (2 : Int32)))])
        by_cases hc171 : (p4 &&& (2 : Int32)) = (0 : Int32)
        · skip
          refine step (fun t k => XS.ifYes Xk.here hx rfl (pc0 := 214) (pc' := 221) rfl (hb hby at_214) rfl ((if0 _ _).trans (teq hc171).1) (by decide) (by decide) k) ?_
          show G Tk (mkF m 221 ls12 [])
          exact J221
        · skip
          refine step (fun t k => XS.ifNo Xk.here hx rfl (hb hby at_214) rfl ((if0 _ _).trans (feq hc171).1) k) ?_
          show G Tk (mkF m 217 ls12 [])
          refine step (fun t k => XS.aconstNull Xk.here hx rfl (hb hby at_217) k) ?_
          show G Tk (mkF m 218 ls12 [.null])
          refine step (fun t k => XS.goto Xk.here hx rfl (pc0 := 218) (pc' := 230) rfl (hb hby at_218) (by decide) (by decide) k) ?_
          show G Tk (mkF m 230 ls12 [.null])
          obtain ⟨ls172, hls172⟩  := own_sl #[.val (.int p0), .val (.int p1), .val (.int p2), .val (.int p3), .val (.int p4), .val (.int ((p0 &&& (2147483647 : Int32)) % (4 : Int32))), .val (.ref b3), .val (.int n_3), .val (.int (p1 &&& (3 : Int32))), .val (.int z9), .val (.int (p3 &&& (255 : Int32))), .val (.ref b11), .val .null, .unset]
          refine step (fun t k => XS.astore Xk.here hx rfl (hb hby at_230) rfl rfl (l' := ls172) (by rw [hls12, hls172]; rfl) k) ?_
          show G Tk (mkF m 232 ls172 [])
          refine step (fun t k => XS.aload Xk.here hx rfl (hb hby at_232) (by rw [hls172]; rfl) rfl k) ?_
          show G Tk (mkF m 234 ls172 [.null])
          have hK173 := (backOf (R := room_1) (p := p) (e := e) (below := below) (args := #[(.int p0), (.int p1), (.int p2), (.int p3), (.int p4)]) (len := 3) (W := 0) (rm_nz l Z a0 hw [] w__VALUES w_CAP w_RATE w_BUDGET w_COMPACT_STRINGS w_SIOOBE_FORMATTER w_tCAP w_vCAP w_tRATE w_vRATE w_tBUDGET w_vBUDGET hj2 n0 (own_old_le Ok) ST Ok) hZ (ww45 hw) (ww44 hw) (by decide) (by decide))
          obtain ⟨_, _, ⟨T173, L173, k173, n173⟩, -, X173, ⟨Lc173, hQ173, l173, y173, z173⟩, st173⟩ := Jvm.LawKit.callS Xk hx (y := y_14) hown (mvT hZ (ww42 hw)) (mvT hZ (ww43 hw)) (mvT hZ (ww44 hw)) (mvT hZ (ww45 hw)) (by decide) hK173 (g := (mkF m 234 ls172 [.null])) rfl (by rw [hml, hls172]; rfl) (argsL := [.null]) (rest := []) (lenOf pd_13 rfl) rfl (by show 2 * 0 + _ ≤ _; exact Nat.le_of_eq rfl) (hb hby at_234) (fun _ _ => ⟨rfl, ek, (by decide : 3 + 1 ≤ _), (by decide : 35 + 3 ≤ _)⟩)
          dsimp only [Pt.U, Pt.locs, Pt.cells, Pt.slots] at X173 l173 y173 z173 st173 hQ173
          subst l173 y173 z173
          obtain ⟨rfl, N173q, K173q⟩ := hQ173
          have N173 := Fr.app Nk N173q
          obtain ⟨lc173, X173, N173⟩ := own_gen X173 N173
          have cz173 : CHr Z own_EL T3.vm hj2 T3.vm T173.heap := CHr.keep K173q all0 Ck.1
          have C173 : CHr Z own_EL s.vm h0 T3.vm T173.heap := Ck.trans cz173
          have O173 := Ok.keep K173q all0
          have hk173 : _ ≤ T173.heap.size := Nat.le_trans hkk K173q.1
          refine step (fun t k => st173 t k) ?_
          show G T173 (mkF m 237 ls172 [.null])
          obtain ⟨ls174, hls174⟩  := own_sl #[.val (.int p0), .val (.int p1), .val (.int p2), .val (.int p3), .val (.int p4), .val (.int ((p0 &&& (2147483647 : Int32)) % (4 : Int32))), .val (.ref b3), .val (.int n_3), .val (.int (p1 &&& (3 : Int32))), .val (.int z9), .val (.int (p3 &&& (255 : Int32))), .val (.ref b11), .val .null, .val .null]
          refine step (fun t k => XS.astore X173.here hx rfl (hb hby at_237) rfl rfl (l' := ls174) (by rw [hls172, hls174]; rfl) k) ?_
          show G T173 (mkF m 239 ls174 [])
          refine step (fun t k => XS.aload X173.here hx rfl (hb hby at_239) (by rw [hls174]; rfl) rfl k) ?_
          show G T173 (mkF m 241 ls174 [.null])
          refine step (fun t k => XS.aload X173.here hx rfl (hb hby at_241) (by rw [hls174]; rfl) rfl k) ?_
          show G T173 (mkF m 243 ls174 [.null, .null])
          have hK175 := (backOfSH (s := s) (vm0 := T3.vm) (R := room_1) (p := p) (e := e) (below := below) (args := #[(.int p0), (.int p1), (.int p2), (.int p3), (.int p4)]) (len := 3) (W := 1) (rm_ez l Z a0 hw [] w__VALUES w_CAP w_RATE w_BUDGET w_COMPACT_STRINGS w_SIOOBE_FORMATTER w_tCAP w_vCAP w_tRATE w_vRATE w_tBUDGET w_vBUDGET T173.heap n0 (own_old_le O173) ST O173) hZ (ww78 hw) (ww3 hw) (by decide) (by decide) (own_EW hw) C173.1)
          obtain ⟨_, _, ⟨T175, L175, k175, n175⟩, -, X175, hS175, hg175, ⟨Lc175, hQ175, l175, y175, z175, hC175⟩, st175⟩ := callSS X173 hx (y := y_15) hown (mvT hZ (ww76 hw)) (mvT hZ (ww77 hw)) (mvT hZ (ww3 hw)) (mvT hZ (ww78 hw)) (by decide) hK175 (g := (mkF m 243 ls174 [.null, .null])) rfl (by rw [hml, hls174]; rfl) (argsL := [.null]) (rest := [.null]) (lenOf pd_13 rfl) rfl (by show 2 * 0 + _ ≤ _; exact Nat.le_of_eq rfl) (hb hby at_243) (fun _ _ => ⟨rfl, rfl, (by decide : 4 + 6 ≤ _), (by decide : 38 + 64 ≤ _)⟩)
          dsimp only [Pt.U, Pt.locs, Pt.cells, Pt.slots] at X175 l175 y175 z175 st175 hQ175 hS175 hg175 hC175
          subst l175 y175 z175
          obtain ⟨X175, hS, hZ, hown⟩ := rebS (s := s) hS hk173 X175 hS175 hg175 hZ hown
          obtain ⟨rfl, N175q, K175q⟩ := hQ175
          have N175 := Fr.app N173 N175q
          obtain ⟨lc175, X175, N175⟩ := own_gen X175 N175
          have cz175 : CHr Z own_EL T3.vm T173.heap T175.vm T175.heap := hC175
          have C175 : CHr Z own_EL s.vm h0 T175.vm T175.heap := C173.trans cz175
          have O175 := O173.keep K175q all0
          have hk175 : _ ≤ T175.heap.size := Nat.le_refl _
          refine step (fun t k => st175.trans k) ?_
          show G T175 (mkF m 246 ls174 [.null, .null])
          refine step (fun t k => Jvm.RoadKit.acmp X175 hx rfl rfl rfl (pc0 := 246) (pc' := 249) (same := true) rfl (hb hby at_246) rfl (decide_eq_true rfl) (by decide) (by decide) k) ?_
          show G T175 (mkF m 249 ls174 [])
          refine step (fun t k => XS.iconst X175.here hx rfl (hb hby at_249) k) ?_
          show G T175 (mkF m 250 ls174 [(.int 1)])
          refine step (fun t k => XS.goto X175.here hx rfl (pc0 := 250) (pc' := 254) rfl (hb hby at_250) (by decide) (by decide) k) ?_
          show G T175 (mkF m 254 ls174 [(.int 1)])
          exact ret (v := some (.int 1)) X175 hS hk175 C175 hZ (fun h => by rw [Bd.returns] at h; cases h) (fun fs hr => retN X175 hx (t := .boolean) Bd.returns (by simp) (hb hby at_254) hr) rfl ⟨rfl, N175⟩ (by decide) (by decide)
      · skip
        refine step (fun t k => XS.icmpYes Xk.here hx rfl (pc0 := 207) (pc' := 221) rfl (hb hby at_207) rfl (feq hc170).2 (by decide) (by decide) k) ?_
        show G Tk (mkF m 221 ls12 [])
        exact J221
    refine step (fun t k => XS.iload X43.here hx rfl (hb hby at_180) (by rw [hls12]; rfl) k) ?_
    show G T43 (mkF m 182 ls12 [(.int p4)])
    refine step (fun t k => XS.iconst X43.here hx rfl (hb hby at_182) k) ?_
    show G T43 (mkF m 183 ls12 [(.int 1), (.int p4)])
    refine step (fun t k => XS.iand X43.here hx rfl (hb hby at_183) rfl k) ?_
    show G T43 (mkF m 184 ls12 [(.int (p4 &&& (1 : Int32)))])
    by_cases hc176 : (p4 &&& (1 : Int32)) = (0 : Int32)
    · skip
      refine step (fun t k => XS.ifYes X43.here hx rfl (pc0 := 184) (pc' := 204) rfl (hb hby at_184) rfl ((if0 _ _).trans (teq hc176).1) (by decide) (by decide) k) ?_
      show G T43 (mkF m 204 ls12 [])
      exact J204 _ _ _ _ X43 rfl N43 O43 hk9 C43 Y43_0 Y43_1
    · skip
      refine step (fun t k => XS.ifNo X43.here hx rfl (hb hby at_184) rfl ((if0 _ _).trans (feq hc176).1) k) ?_
      show G T43 (mkF m 187 ls12 [])
      refine step (fun t k => XS.iload X43.here hx rfl (hb hby at_187) (by rw [hls12]; rfl) k) ?_
      show G T43 (mkF m 189 ls12 [(.int z9)])
      by_cases hc177 : (0 : Int32) < z9
      · skip
        refine step (fun t k => XS.ifNo X43.here hx rfl (hb hby at_189) rfl ((if0 _ _).trans (tlt hc177).2.2.2) k) ?_
        show G T43 (mkF m 192 ls12 [])
        refine step (fun t k => XS.aload X43.here hx rfl (hb hby at_192) (by rw [hls12]; rfl) rfl k) ?_
        show G T43 (mkF m 194 ls12 [(.ref b11)])
        refine step (fun t k => XS.iloadN X43.here hx rfl (hb hby at_194) (by rw [hls12]; rfl) k) ?_
        show G T43 (mkF m 195 ls12 [(.int p2), (.ref b11)])
        have q178 := X43.ldcInt hx hown (mvT hZ (ww0 hw)) (g := (mkF m 195 ls12 [(.int p2), (.ref b11)])) rfl (hb hby at_195)
        refine step q178 ?_
        show G T43 (mkF m 197 ls12 [(.int 2147483647), (.int p2), (.ref b11)])
        refine step (fun t k => XS.iand X43.here hx rfl (hb hby at_197) rfl k) ?_
        show G T43 (mkF m 198 ls12 [(.int (p2 &&& (2147483647 : Int32))), (.ref b11)])
        refine step (fun t k => XS.iload X43.here hx rfl (hb hby at_198) (by rw [hls12]; rfl) k) ?_
        show G T43 (mkF m 200 ls12 [(.int z9), (.int (p2 &&& (2147483647 : Int32))), (.ref b11)])
        refine step (fun t k => iremM X43 hx rfl (hb hby at_200) rfl (own_z0 hc177) k) ?_
        show G T43 (mkF m 201 ls12 [(.int ((p2 &&& (2147483647 : Int32)) % z9)), (.ref b11)])
        refine step (fun t k => XS.iload X43.here hx rfl (hb hby at_201) (by rw [hls12]; rfl) k) ?_
        show G T43 (mkF m 203 ls12 [(.int (p3 &&& (255 : Int32))), (.int ((p2 &&& (2147483647 : Int32)) % z9)), (.ref b11)])
        obtain ⟨T179, h179, X179, e179, W179, V179, st179⟩ := own_stC X43 hx hZ rfl Y43_0 (j := ((p2 &&& (2147483647 : Int32)) % z9)) (own_ix hc177) rfl (own_cal Y43_1 (own_ix hc177)) (g := (mkF m 203 ls12 [(.int (p3 &&& (255 : Int32))), (.int ((p2 &&& (2147483647 : Int32)) % z9)), (.ref b11)])) rfl rfl (hb hby at_203)
        rw [own_narc (own_and255 p3)] at V179
        obtain ⟨cs179, V179, ca179⟩ := own_cas V179 Y43_1 (own_and255 p3)
        have cz179 : CHr Z own_EL T3.vm T43.heap T3.vm h179 := CHr.wr W179 (own_safeV hZ.alike Y43_0 (by intro q; cases q)) C43.1
        have C179 : CHr Z own_EL s.vm h0 T3.vm h179 := C43.trans cz179
        have N179 := Fr.snoc X179 N43 ge_b11
        obtain ⟨lc179, X179, N179⟩ := own_gen X179 N179
        have O179 := O43.wr W179 ge_b11
        have hk179 := Nat.le_trans hk9 (Nat.le_of_eq W179.size.symm)
        refine step st179 ?_
        show G T179 (mkF m 204 ls12 [])
        exact J204 _ _ _ _ X179 e179 N179 O179 hk179 C179 V179 ca179
      · skip
        refine step (fun t k => XS.ifYes X43.here hx rfl (pc0 := 189) (pc' := 204) rfl (hb hby at_189) rfl ((if0 _ _).trans (flt hc177).2.2.2) (by decide) (by decide) k) ?_
        show G T43 (mkF m 204 ls12 [])
        exact J204 _ _ _ _ X43 rfl N43 O43 hk9 C43 Y43_0 Y43_1
  refine step (fun t k => XS.iload X5.here hx rfl (hb hby at_27) (by rw [hls8]; rfl) k) ?_
  show G T5 (mkF m 29 ls8 [(.int (p1 &&& (3 : Int32)))])
  by_cases hc180 : (p1 &&& (3 : Int32)) = (0 : Int32)
  · skip
    refine step (fun t k => XS.ifNo X5.here hx rfl (hb hby at_29) rfl ((if0 _ _).trans (teq hc180).2) k) ?_
    show G T5 (mkF m 32 ls8 [])
    refine step (fun t k => XS.iload X5.here hx rfl (hb hby at_32) (by rw [hls8]; rfl) k) ?_
    show G T5 (mkF m 34 ls8 [(.int n_3)])
    obtain ⟨ls181, hls181⟩  := own_sl #[.val (.int p0), .val (.int p1), .val (.int p2), .val (.int p3), .val (.int p4), .val (.int ((p0 &&& (2147483647 : Int32)) % (4 : Int32))), .val (.ref b3), .val (.int n_3), .val (.int (p1 &&& (3 : Int32))), .val (.int n_3), .unset, .unset, .unset, .unset]
    refine step (fun t k => XS.istore X5.here hx rfl (hb hby at_34) rfl (l' := ls181) (by rw [hls8, hls181]; rfl) k) ?_
    show G T5 (mkF m 36 ls181 [])
    refine step (fun t k => XS.goto X5.here hx rfl (pc0 := 36) (pc' := 81) rfl (hb hby at_36) (by decide) (by decide) k) ?_
    show G T5 (mkF m 81 ls181 [])
    exact J81 _ _ _ _ X5 e5 N5 hls181 (own_n7a Y3_4)
  · skip
    refine step (fun t k => XS.ifYes X5.here hx rfl (pc0 := 29) (pc' := 39) rfl (hb hby at_29) rfl ((if0 _ _).trans (feq hc180).2) (by decide) (by decide) k) ?_
    show G T5 (mkF m 39 ls8 [])
    refine step (fun t k => XS.iload X5.here hx rfl (hb hby at_39) (by rw [hls8]; rfl) k) ?_
    show G T5 (mkF m 41 ls8 [(.int (p1 &&& (3 : Int32)))])
    refine step (fun t k => XS.iconst X5.here hx rfl (hb hby at_41) k) ?_
    show G T5 (mkF m 42 ls8 [(.int 1), (.int (p1 &&& (3 : Int32)))])
    by_cases hc182 : (p1 &&& (3 : Int32)) = (1 : Int32)
    · skip
      refine step (fun t k => XS.icmpNo X5.here hx rfl (hb hby at_42) rfl (teq hc182).2 k) ?_
      show G T5 (mkF m 45 ls8 [])
      refine step (fun t k => XS.iconst X5.here hx rfl (hb hby at_45) k) ?_
      show G T5 (mkF m 46 ls8 [(.int 0)])
      refine step (fun t k => XS.iload X5.here hx rfl (hb hby at_46) (by rw [hls8]; rfl) k) ?_
      show G T5 (mkF m 48 ls8 [(.int n_3), (.int 0)])
      refine step (fun t k => XS.iconst X5.here hx rfl (hb hby at_48) k) ?_
      show G T5 (mkF m 49 ls8 [(.int 1), (.int n_3), (.int 0)])
      refine step (fun t k => XS.isub X5.here hx rfl (hb hby at_49) rfl k) ?_
      show G T5 (mkF m 50 ls8 [(.int (n_3 - (1 : Int32))), (.int 0)])
      have hK183 := (backOf (R := room_1) (p := p) (e := e) (below := below) (args := #[(.int p0), (.int p1), (.int p2), (.int p3), (.int p4)]) (len := 3) (W := 0) (rm_max l Z a0 hw [] (0 : Int32) (n_3 - (1 : Int32)) T3.heap n0 (own_old_le O3) O3) hZ (ww117 hw) (ww116 hw) (by decide) (by decide))
      obtain ⟨_, _, ⟨T183, L183, k183, n183⟩, -, X183, ⟨Lc183, hQ183, l183, y183, z183⟩, st183⟩ := Jvm.LawKit.callS X5 hx (y := y_7) hown (mvT hZ (ww114 hw)) (mvT hZ (ww115 hw)) (mvT hZ (ww116 hw)) (mvT hZ (ww117 hw)) (by decide) hK183 (g := (mkF m 50 ls8 [(.int (n_3 - (1 : Int32))), (.int 0)])) rfl (by rw [hml, hls8]; rfl) (argsL := [(.int 0), (.int (n_3 - (1 : Int32)))]) (rest := []) (lenOf pd_14 rfl) rfl (by show 2 * 0 + _ ≤ _; exact Nat.le_of_eq rfl) (hb hby at_50) (fun _ _ => ⟨rfl, e5, (by decide : 2 + 0 ≤ _), (by decide : 28 + 0 ≤ _)⟩)
      dsimp only [Pt.U, Pt.locs, Pt.cells, Pt.slots] at X183 l183 y183 z183 st183 hQ183
      subst l183 y183 z183
      obtain ⟨rfl, N183q, e183⟩ := hQ183
      have N183 := Fr.app N5 N183q
      obtain ⟨lc183, X183, N183⟩ := own_gen X183 N183
      refine step (fun t k => st183 t k) ?_
      show G T183 (mkF m 53 ls8 [(.int (f_max (0 : Int32) (n_3 - (1 : Int32))))])
      obtain ⟨ls184, hls184⟩  := own_sl #[.val (.int p0), .val (.int p1), .val (.int p2), .val (.int p3), .val (.int p4), .val (.int ((p0 &&& (2147483647 : Int32)) % (4 : Int32))), .val (.ref b3), .val (.int n_3), .val (.int (p1 &&& (3 : Int32))), .val (.int (f_max (0 : Int32) (n_3 - (1 : Int32)))), .unset, .unset, .unset, .unset]
      refine step (fun t k => XS.istore X183.here hx rfl (hb hby at_53) rfl (l' := ls184) (by rw [hls8, hls184]; rfl) k) ?_
      show G T183 (mkF m 55 ls184 [])
      refine step (fun t k => XS.goto X183.here hx rfl (pc0 := 55) (pc' := 81) rfl (hb hby at_55) (by decide) (by decide) k) ?_
      show G T183 (mkF m 81 ls184 [])
      exact J81 _ _ _ _ X183 e183 N183 hls184 (own_n7b Y3_4)
    · skip
      refine step (fun t k => XS.icmpYes X5.here hx rfl (pc0 := 42) (pc' := 58) rfl (hb hby at_42) rfl (feq hc182).2 (by decide) (by decide) k) ?_
      show G T5 (mkF m 58 ls8 [])
      refine step (fun t k => XS.iload X5.here hx rfl (hb hby at_58) (by rw [hls8]; rfl) k) ?_
      show G T5 (mkF m 60 ls8 [(.int (p1 &&& (3 : Int32)))])
      refine step (fun t k => XS.iconst X5.here hx rfl (hb hby at_60) k) ?_
      show G T5 (mkF m 61 ls8 [(.int 2), (.int (p1 &&& (3 : Int32)))])
      by_cases hc185 : (p1 &&& (3 : Int32)) = (2 : Int32)
      · skip
        refine step (fun t k => XS.icmpNo X5.here hx rfl (hb hby at_61) rfl (teq hc185).2 k) ?_
        show G T5 (mkF m 64 ls8 [])
        refine step (fun t k => XS.iload X5.here hx rfl (hb hby at_64) (by rw [hls8]; rfl) k) ?_
        show G T5 (mkF m 66 ls8 [(.int n_3)])
        refine step (fun t k => XS.iconst X5.here hx rfl (hb hby at_66) k) ?_
        show G T5 (mkF m 67 ls8 [(.int 1), (.int n_3)])
        refine step (fun t k => XS.iadd X5.here hx rfl (hb hby at_67) rfl k) ?_
        show G T5 (mkF m 68 ls8 [(.int (n_3 + (1 : Int32)))])
        obtain ⟨ls186, hls186⟩  := own_sl #[.val (.int p0), .val (.int p1), .val (.int p2), .val (.int p3), .val (.int p4), .val (.int ((p0 &&& (2147483647 : Int32)) % (4 : Int32))), .val (.ref b3), .val (.int n_3), .val (.int (p1 &&& (3 : Int32))), .val (.int (n_3 + (1 : Int32))), .unset, .unset, .unset, .unset]
        refine step (fun t k => XS.istore X5.here hx rfl (hb hby at_68) rfl (l' := ls186) (by rw [hls8, hls186]; rfl) k) ?_
        show G T5 (mkF m 70 ls186 [])
        refine step (fun t k => XS.goto X5.here hx rfl (pc0 := 70) (pc' := 81) rfl (hb hby at_70) (by decide) (by decide) k) ?_
        show G T5 (mkF m 81 ls186 [])
        exact J81 _ _ _ _ X5 e5 N5 hls186 (own_n7c Y3_4)
      · skip
        refine step (fun t k => XS.icmpYes X5.here hx rfl (pc0 := 61) (pc' := 73) rfl (hb hby at_61) rfl (feq hc185).2 (by decide) (by decide) k) ?_
        show G T5 (mkF m 73 ls8 [])
        refine step (fun t k => XS.iloadN X5.here hx rfl (hb hby at_73) (by rw [hls8]; rfl) k) ?_
        show G T5 (mkF m 74 ls8 [(.int p1)])
        refine step (fun t k => XS.iconst X5.here hx rfl (hb hby at_74) k) ?_
        show G T5 (mkF m 75 ls8 [(.int 2), (.int p1)])
        refine step (fun t k => XS.iushr X5.here hx rfl (hb hby at_75) rfl k) ?_
        show G T5 (mkF m 76 ls8 [(.int ((p1.toUInt32 >>> ((2 : Int32) &&& 31).toUInt32).toInt32))])
        refine step (fun t k => XS.bipush X5.here hx rfl (hb hby at_76) k) ?_
        show G T5 (mkF m 78 ls8 [(.int 7), (.int ((p1.toUInt32 >>> ((2 : Int32) &&& 31).toUInt32).toInt32))])
        refine step (fun t k => XS.iand X5.here hx rfl (hb hby at_78) rfl k) ?_
        show G T5 (mkF m 79 ls8 [(.int (((p1.toUInt32 >>> ((2 : Int32) &&& 31).toUInt32).toInt32) &&& (7 : Int32)))])
        obtain ⟨ls187, hls187⟩  := own_sl #[.val (.int p0), .val (.int p1), .val (.int p2), .val (.int p3), .val (.int p4), .val (.int ((p0 &&& (2147483647 : Int32)) % (4 : Int32))), .val (.ref b3), .val (.int n_3), .val (.int (p1 &&& (3 : Int32))), .val (.int (((p1.toUInt32 >>> ((2 : Int32) &&& 31).toUInt32).toInt32) &&& (7 : Int32))), .unset, .unset, .unset, .unset]
        refine step (fun t k => XS.istore X5.here hx rfl (hb hby at_79) rfl (l' := ls187) (by rw [hls8, hls187]; rfl) k) ?_
        show G T5 (mkF m 81 ls187 [])
        exact J81 _ _ _ _ X5 e5 N5 hls187 (own_n7d _)
theorem ww8 {Z : State} {a0 : Array Value} (hw : ∀ d ∈ tables_1, d.before a0 Z = true) : Jvm.Cond.before (Jvm.Cond.arrayClass Jvm.ClassFile.FieldType.byte) a0 Z = true := hw _ (List.mem_of_getElem? (i := 8) rfl)
set_option maxRecDepth 65536 in
set_option maxHeartbeats 40000000 in
theorem comes_1 {Post : Tables → Env → Array Value → State → Outcome → State → Prop} (hpost : ∀ tb e args s v u, (limb_1_1.after args s (.returned v) u = true ∧ limb_1_2.after args s (.returned v) u = true ∧ True) → ReturnedEndW s (.returned v) u (Jvm.fieldLocs frame_1_writes args s ++ Jvm.arrayLocs frame_1_arrays args s ++ Jvm.staticLocs frame_1_statics s) 32 5248 → Post tb e args s (.returned v) u) :
    ArmFor flags0 classFile x code maxLocals ret World_1 tables_1 room_1 Calls_1 rest_1 Pre_1 Post := by
  intro l hfl _ _ p e ha hc hk s m args below hf hA hF happ hP
  obtain ⟨hcalls, hrest, hpre⟩ := hP
  obtain ⟨-, -, -, hnamed, -, -, -, hat⟩ := (Spec.applies_iff hf).mp happ
  obtain ⟨hg, hn⟩ := and_e (Cond.before_iff.mp (show (Jvm.Cond.and given_1 narrow_1).before args s = true from hpre))
  obtain ⟨g1a, g1b⟩ := and_e hg
  obtain ⟨g2a, g2b⟩ := and_e g1b
  obtain ⟨g3a, g3b⟩ := and_e g2b
  obtain ⟨g4a, g4b⟩ := and_e g3b
  obtain ⟨g5a, g5b⟩ := and_e g4b
  obtain ⟨w0, w1, w2, w3, w4, rfl⟩ : ∃ w0 w1 w2 w3 w4 : Value, args = #[w0, w1, w2, w3, w4] := by
    have hs : args.size = 5 := by simpa [Cond.value, given_1] using g1a
    obtain ⟨L⟩ := args
    match L, hs with
    | [w0, w1, w2, w3, w4], _ => exact ⟨w0, w1, w2, w3, w4, rfl⟩
  have hw := fun d (hd : d ∈ tables_1) => atoms_spec (ws := Jvm.Cond.code x code maxLocals ret :: tables_1) hat d (List.mem_cons_of_mem _ hd)
  have hfit : Fit s := fun {y c} hc i hi => by
    obtain ⟨ha, rfl⟩ := Array.getElem?_eq_some_iff.mp hc
    have q := List.all_eq_true.mp ((Array.all_eq_true_iff_forall_mem.mp hF) _ (Array.getElem_mem ha)) i (List.mem_range.mpr hi)
    simpa [Array.getElem?_eq_getElem hi] using q
  obtain ⟨hsets, hown0⟩ := atoms_of _ (rest_1_c_eq ▸ (show rest_1_c.before _ s = true from hrest))
  obtain ⟨i0, ei0⟩ := is_v g2a
  obtain rfl : w0 = (.int i0) := Option.some.inj ei0
  obtain ⟨i1, ei1⟩ := is_v g3a
  obtain rfl : w1 = (.int i1) := Option.some.inj ei1
  obtain ⟨i2, ei2⟩ := is_v g4a
  obtain rfl : w2 = (.int i2) := Option.some.inj ei2
  obtain ⟨i3, ei3⟩ := is_v g5a
  obtain rfl : w3 = (.int i3) := Option.some.inj ei3
  obtain ⟨i4, ei4⟩ := is_v g5b
  obtain rfl : w4 = (.int i4) := Option.some.inj ei4
  obtain ⟨k1a, k1b⟩ := and_e hn
  obtain ⟨k2a, k2b⟩ := and_e k1b
  obtain ⟨k3a, k3b⟩ := and_e k2b
  obtain ⟨k4a, k4b⟩ := and_e k3b
  obtain ⟨k5a, k5b⟩ := and_e k4b
  obtain ⟨k6a, k6b⟩ := and_e k5b
  obtain ⟨k7a, k7b⟩ := and_e k6b
  obtain ⟨k8a, k8b⟩ := and_e k7b
  obtain ⟨k9a, k9b⟩ := and_e k8b
  obtain ⟨k10a, k10b⟩ := and_e k9b
  obtain ⟨k11a, k11b⟩ := and_e k10b
  obtain ⟨k12a, k12b⟩ := and_e k11b
  obtain ⟨k13a, k13b⟩ := and_e k12b
  obtain ⟨k14a, k14b⟩ := and_e k13b
  obtain ⟨k15a, k15b⟩ := and_e k14b
  obtain ⟨k16a, k16b⟩ := and_e k15b
  obtain ⟨k17a, k17b⟩ := and_e k16b
  obtain ⟨k18a, k18b⟩ := and_e k17b
  obtain ⟨k19a, k19b⟩ := and_e k18b
  obtain ⟨k20a, k20b⟩ := and_e k19b
  obtain ⟨k21a, k21b⟩ := and_e k20b
  obtain ⟨k22a, k22b⟩ := and_e k21b
  obtain ⟨k23a, k23b⟩ := and_e k22b
  obtain ⟨k24a, k24b⟩ := and_e k23b
  obtain ⟨k25a, k25b⟩ := and_e k24b
  obtain ⟨k26a, k26b⟩ := and_e k25b
  obtain ⟨k27a, k27b⟩ := and_e k26b
  obtain ⟨k28a, k28b⟩ := and_e k27b
  obtain ⟨k29a, k29b⟩ := and_e k28b
  obtain ⟨k30a, k30b⟩ := and_e k29b
  obtain ⟨k31a, k31b⟩ := and_e k30b
  obtain ⟨k32a, k32b⟩ := and_e k31b
  obtain ⟨k33a, k33b⟩ := and_e k32b
  obtain ⟨w__VALUES, ev__VALUES⟩ := exa_v k2a
  obtain ⟨w_CAP, ev_CAP⟩ := exa_v k4a
  obtain ⟨w_RATE, ev_RATE⟩ := exa_v k6a
  obtain ⟨w_BUDGET, ev_BUDGET⟩ := exa_v k8a
  obtain ⟨w_COMPACT_STRINGS, ev_COMPACT_STRINGS⟩ := is_v (Cond.before_iff.mp (hsets _ (List.mem_of_getElem? (i := 1) rfl)))
  obtain ⟨w_SIOOBE_FORMATTER, ev_SIOOBE_FORMATTER, rf_SIOOBE_FORMATTER⟩ := isR_v (Cond.before_iff.mp (hsets _ (List.mem_of_getElem? (i := 8) rfl)))
  obtain ⟨w_tCAP, ev_tCAP⟩ := exa_v k10a
  obtain ⟨w_vCAP, ev_vCAP⟩ := arr_v k12a
  obtain ⟨c_vCAP, V_vCAP⟩ : ∃ k, Arv s s.heap w_vCAP k .byte (3 : Int32) [(.int 99), (.int 97), (.int 112)] (.int 0) := by
    obtain ⟨cl, hA⟩ := Arr.start ev_vCAP k12a
    obtain ⟨hl1, hl2⟩ := own_lenI ev_vCAP hA k13a
    exact ⟨_, Arv.start hfit hA hl1 hl2 (by decide) (by decide) ⟨own_slotI ev_vCAP hA.1 k25a, ⟨own_slotI ev_vCAP hA.1 k26a, ⟨own_slotI ev_vCAP hA.1 k27a, trivial⟩⟩⟩⟩
  obtain ⟨w_tRATE, ev_tRATE⟩ := exa_v k14a
  obtain ⟨w_vRATE, ev_vRATE⟩ := arr_v k16a
  obtain ⟨c_vRATE, V_vRATE⟩ : ∃ k, Arv s s.heap w_vRATE k .byte (4 : Int32) [(.int 114), (.int 97), (.int 116), (.int 101)] (.int 0) := by
    obtain ⟨cl, hA⟩ := Arr.start ev_vRATE k16a
    obtain ⟨hl1, hl2⟩ := own_lenI ev_vRATE hA k17a
    exact ⟨_, Arv.start hfit hA hl1 hl2 (by decide) (by decide) ⟨own_slotI ev_vRATE hA.1 k22a, ⟨own_slotI ev_vRATE hA.1 k23a, ⟨own_slotI ev_vRATE hA.1 k24a, ⟨own_slotI ev_vRATE hA.1 k28a, trivial⟩⟩⟩⟩⟩
  obtain ⟨w_tBUDGET, ev_tBUDGET⟩ := exa_v k18a
  obtain ⟨w_vBUDGET, ev_vBUDGET⟩ := arr_v k20a
  obtain ⟨c_vBUDGET, V_vBUDGET⟩ : ∃ k, Arv s s.heap w_vBUDGET k .byte (6 : Int32) [(.int 98), (.int 117), (.int 100), (.int 103), (.int 101), (.int 116)] (.int 0) := by
    obtain ⟨cl, hA⟩ := Arr.start ev_vBUDGET k20a
    obtain ⟨hl1, hl2⟩ := own_lenI ev_vBUDGET hA k21a
    exact ⟨_, Arv.start hfit hA hl1 hl2 (by decide) (by decide) ⟨own_slotI ev_vBUDGET hA.1 k29a, ⟨own_slotI ev_vBUDGET hA.1 k30a, ⟨own_slotI ev_vBUDGET hA.1 k31a, ⟨own_slotI ev_vBUDGET hA.1 k32a, ⟨own_slotI ev_vBUDGET hA.1 k33a, ⟨own_slotI ev_vBUDGET hA.1 k33b, trivial⟩⟩⟩⟩⟩⟩⟩
  obtain ⟨c_VS, V_VS⟩ : ∃ k, Arv s s.heap w__VALUES k (.object cn_0) (3 : Int32) [(.ref w_CAP), (.ref w_RATE), (.ref w_BUDGET)] .null := by
    obtain ⟨cl, hA⟩ := Arr.start ev__VALUES k1a
    obtain ⟨hl1, hl2⟩ := own_lenI ev__VALUES hA k3a
    exact ⟨_, Arv.start hfit hA hl1 hl2 (by decide) rfl ⟨own_slotR ev__VALUES hA.1 ev_CAP k5a, ⟨own_slotR ev__VALUES hA.1 ev_RATE k7a, ⟨own_slotR ev__VALUES hA.1 ev_BUDGET k9a, trivial⟩⟩⟩⟩
  have hCH : CHv s own_EL s.vm s.heap := CHv.start (own_EW hw) (fun p hp => (show Jvm.Lit.constsHeld consts_1 s from hcalls.1) p ((by decide : ∀ p ∈ own_EL, p ∈ consts_1) p hp)) (show Jvm.Lit.compactW.before _ s = true from hsets _ (List.mem_of_getElem? (i := 2) rfl)) (ww8 hw) (ww7 hw)
  obtain ⟨n, o, h1, h2, h3, _, L, rfl, ⟨rfl, N⟩, -, hq⟩ := rm_law l s _ hw tables_1 w__VALUES w_CAP w_RATE w_BUDGET w_COMPACT_STRINGS w_SIOOBE_FORMATTER w_tCAP w_vCAP w_tRATE w_vRATE w_tBUDGET w_vBUDGET i0 i1 i2 i3 i4 s.heap s.heap.size (Nat.le_refl _) ⟨Sta.start ev__VALUES (Or.inl (ww61 hw)), Exa.start ev__VALUES k2a, Sta.start ev_CAP (Or.inr ⟨(ww44 hw), (ww58 hw)⟩), Exa.start ev_CAP k4a, Sta.start ev_RATE (Or.inr ⟨(ww44 hw), (ww59 hw)⟩), Exa.start ev_RATE k6a, Sta.start ev_BUDGET (Or.inr ⟨(ww44 hw), (ww60 hw)⟩), Exa.start ev_BUDGET k8a, Sta.start ev_COMPACT_STRINGS (Or.inl (hsets _ (List.mem_of_getElem? (i := 0) rfl))), Sta.start ev_SIOOBE_FORMATTER (Or.inl (hsets _ (List.mem_of_getElem? (i := 7) rfl))), rf_SIOOBE_FORMATTER, own_nz ev_COMPACT_STRINGS (Cond.before_iff.mp (hsets _ (List.mem_of_getElem? (i := 2) rfl))), Exa.start ev_tCAP k10a, own_fldE ev_CAP ev_tCAP, own_fldI ev_tCAP k11a, own_fldE ev_tCAP ev_vCAP, ⟨c_vCAP, V_vCAP⟩, Exa.start ev_tRATE k14a, own_fldE ev_RATE ev_tRATE, own_fldI ev_tRATE k15a, own_fldE ev_tRATE ev_vRATE, ⟨c_vRATE, V_vRATE⟩, Exa.start ev_tBUDGET k18a, own_fldE ev_BUDGET ev_tBUDGET, own_fldI ev_tBUDGET k19a, own_fldE ev_tBUDGET ev_vBUDGET, ⟨c_vBUDGET, V_vBUDGET⟩, ⟨c_VS, V_VS⟩⟩ (Old.start s)  p e ha hc hk s m _ below hf ((Spec.applies_iff_loose hf).mp happ).1 ⟨rfl, State.Warmed39.refl s, rfl, hCH⟩ trivial
  refine ⟨n, _, h1, h2, h3, hpost _ _ _ _ _ _ ⟨Cond.after_iff.mpr rfl, Cond.after_iff.mpr (eq_i res_at (Term.int_eval (1)) rfl), trivial⟩ ⟨hq.1, hq.2.1, hq.2.2.1, (hq.2.2.2.sift fun y hy => Or.inr (N y hy)).mono (by decide) (by decide)⟩⟩
theorem main_1_1 : Claimed_1_1 := comes_1 fun _ _ _ _ _ _ h hF => ⟨h.1, hF⟩
theorem main_1_2 : Claimed_1_2 := comes_1 fun _ _ _ _ _ _ h hF => ⟨h.2.1, hF⟩
end Jvm.Pilot.@@N@@
namespace Jvm.Pilot.@@N@@
open Jvm Jvm.ClassFile Sem Op Lib Jvm.Free Jvm.Stand Jvm.Pilot.@@N@@.Jvm.D
/-! MADE BY PROGRAM (witnessworld.py) out of the Statement's table words and the real class files: 23 classes; the members and pool entries that the words name. The judged class is class 1, her method 4. -/
namespace start1
open Jvm.ClassFile
def u (s : String) : CpInfo := .utf8 (stringToUtf16 s)
/-- a pool by its gaps: so many unusable entries, then the entry; so many at the end -/
def gap : Nat → List CpInfo → List CpInfo
  | 0, r => r
  | n + 1, r => .unusable :: gap n r
def poolList (es : List (Nat × CpInfo)) (last : Nat) : List CpInfo := es.foldr (fun e r => gap e.1 (e.2 :: r)) (gap last [])
def pool (es : List (Nat × CpInfo)) (last : Nat) : Array CpInfo := ⟨poolList es last⟩
def fileOf (pool : Array CpInfo) (this : Nat) (attrs : Array Attribute := #[]) (ms : Array MethodInfo := #[]) (fl : Nat := 33) (sup : Nat := 0) (ifs : Array Nat := #[]) (fds : Array FieldInfo := #[]) : ClassFile where
  minorVersion := 0
  majorVersion := 65
  constantPool := pool
  accessFlags := fl
  thisClass := this
  superClass := sup
  interfaces := ifs
  fields := fds
  methods := ms
  attributes := attrs
def plain (name : String) (sup : Option ClassId) : Class where
  name := name
  kind := .ordinary
  loader := none
  accessFlags := 33
  super := sup
  interfaces := #[]
  cf := none
  fields := #[]
  methods := #[]
  instanceTypes := #[]
  staticTypes := #[]
  resolved := #[]
  callSites := []
  init := .initialized
  statics := none
  mirror := none

def pool0 : Array CpInfo := pool [(5, u "<init>"), (0, u "()V"), (1, .class_ 10), (1, u "java/lang/Object"), (85, u "clone"), (0, u "()Ljava/lang/Object;")] 26

def k0c0 : Code := { maxStack := 0, maxLocals := 1, code := object_method_1_code, exceptionTable := #[], attributes := #[] }
def k0m0 : Method := { name := "<init>", desc := "()V", sig := { parameters := [], returnType := none }, accessFlags := 1, code := some k0c0 }
def k0m1 : Method := { name := "clone", desc := "()Ljava/lang/Object;", sig := { parameters := [], returnType := some (.object "java/lang/Object") }, accessFlags := 260, code := none }
/-- java/lang/Object -/
def k0 : Class := { plain "java/lang/Object" none with
  accessFlags := 33
  interfaces := #[]
  cf := some (fileOf pool0 8 #[] #[{ accessFlags := 1, nameIndex := 5, descriptorIndex := 6, attributes := #[] }, { accessFlags := 260, nameIndex := 96, descriptorIndex := 97, attributes := #[] }] 33 0 #[] #[])
  fields := #[]
  methods := #[k0m0, k0m1]
  instanceTypes := #[]
  staticTypes := #[]
  resolved := Array.replicate 124 none
  statics := none }

def pool1 : Array CpInfo := pool [(2, .class_ 4), (1, u "java/lang/Object"), (0, u "<init>"), (0, u "()V"), (0, .string 8), (0, u "cap"), (0, .string 10), (0, u "rate"), (0, .string 12), (0, u "budget"), (0, .string 14), (0, u ""), (0, .methodref 16 17), (0, .class_ 18), (0, .nameAndType 19 20), (0, u "java/lang/String"), (0, u "charAt"), (0, u "(I)C"), (0, .methodref 16 22), (0, .nameAndType 23 24), (0, u "equals"), (0, u "(Ljava/lang/Object;)Z"), (0, .fieldref 26 27), (0, .class_ 28), (0, .nameAndType 29 30), (0, u "com/example/tempogate/tempogate/rules/Rule$Kind"), (0, u "CAP"), (0, u "Lcom/example/tempogate/tempogate/rules/Rule$Kind;"), (0, .fieldref 26 32), (0, .nameAndType 33 30), (0, u "RATE"), (0, .fieldref 26 35), (0, .nameAndType 36 30), (0, u "BUDGET"), (0, .integer 2147483647), (0, .methodref 39 40), (0, .class_ 41), (0, .nameAndType 42 43), (0, u "com/example/tempogate/tempogate/rules/KindNamedPinLaw"), (0, u "base"), (0, u "(I)Ljava/lang/String;"), (0, .methodref 16 45), (0, .nameAndType 46 47), (0, u "length"), (0, u "()I"), (0, .methodref 49 50), (0, .class_ 51), (0, .nameAndType 52 53), (0, u "java/lang/Math"), (0, u "max"), (0, u "(II)I"), (0, .methodref 39 55), (0, .nameAndType 56 57), (0, u "put"), (0, u "([CILjava/lang/String;IC)V"), (0, .methodref 16 59), (0, .nameAndType 5 60), (0, u "([C)V"), (0, .methodref 26 62), (0, .nameAndType 63 64), (0, u "named"), (0, u "(Ljava/lang/String;)Lcom/example/tempogate/tempogate/rules/Rule$Kind;"), (0, .methodref 39 66), (0, .nameAndType 67 64), (0, u "expected"), (5, u "law"), (0, u "(IIIII)Z")] 6

def k1m0 : Method := { name := "<init>", desc := "()V", sig := { parameters := [], returnType := none }, accessFlags := 2, code := none }
def k1c1 : Code := { maxStack := 2, maxLocals := 1, code := method_2_code, exceptionTable := #[], attributes := #[] }
def k1m1 : Method := { name := "base", desc := "(I)Ljava/lang/String;", sig := { parameters := [.int], returnType := some (.object "java/lang/String") }, accessFlags := 10, code := some k1c1 }
def k1c2 : Code := { maxStack := 4, maxLocals := 5, code := method_3_code, exceptionTable := #[], attributes := #[] }
def k1m2 : Method := { name := "put", desc := "([CILjava/lang/String;IC)V", sig := { parameters := [(.array .char), .int, (.object "java/lang/String"), .int, .char], returnType := none }, accessFlags := 10, code := some k1c2 }
def k1c3 : Code := { maxStack := 2, maxLocals := 1, code := method_4_code, exceptionTable := #[], attributes := #[] }
def k1m3 : Method := { name := "expected", desc := "(Ljava/lang/String;)Lcom/example/tempogate/tempogate/rules/Rule$Kind;", sig := { parameters := [(.object "java/lang/String")], returnType := some (.object "com/example/tempogate/tempogate/rules/Rule$Kind") }, accessFlags := 10, code := some k1c3 }
def k1c4 : Code := { maxStack := 5, maxLocals := 14, code := code, exceptionTable := #[], attributes := #[] }
def k1m4 : Method := { name := "law", desc := "(IIIII)Z", sig := { parameters := [.int, .int, .int, .int, .int], returnType := some .boolean }, accessFlags := 9, code := some k1c4 }
/-- com/example/tempogate/tempogate/rules/KindNamedPinLaw -/
def k1 : Class := { plain "com/example/tempogate/tempogate/rules/KindNamedPinLaw" (some 0) with
  accessFlags := 49
  interfaces := #[]
  cf := some (fileOf pool1 39 #[] #[{ accessFlags := 2, nameIndex := 5, descriptorIndex := 6, attributes := #[] }, { accessFlags := 10, nameIndex := 42, descriptorIndex := 43, attributes := #[] }, { accessFlags := 10, nameIndex := 56, descriptorIndex := 57, attributes := #[] }, { accessFlags := 10, nameIndex := 67, descriptorIndex := 64, attributes := #[] }, { accessFlags := 9, nameIndex := 73, descriptorIndex := 74, attributes := #[] }] 49 2 #[] #[])
  fields := #[]
  methods := #[k1m0, k1m1, k1m2, k1m3, k1m4]
  instanceTypes := #[]
  staticTypes := #[]
  resolved := Array.replicate 81 none
  statics := none }

def pool2 : Array CpInfo := pool [(1, .class_ 2), (0, u "java/io/Serializable"), (0, .class_ 4), (0, u "java/lang/Object")] 2

/-- java/io/Serializable -/
def k2 : Class := { plain "java/io/Serializable" (some 0) with
  accessFlags := 1537
  interfaces := #[]
  cf := some (fileOf pool2 1 #[] #[] 1537 3 #[] #[])
  fields := #[]
  methods := #[]
  instanceTypes := #[]
  staticTypes := #[]
  resolved := Array.replicate 7 none
  statics := none }

def pool3 : Array CpInfo := pool [(1, .class_ 2), (0, u "java/lang/Comparable"), (0, .class_ 4), (0, u "java/lang/Object")] 7

/-- java/lang/Comparable -/
def k3 : Class := { plain "java/lang/Comparable" (some 0) with
  accessFlags := 1537
  interfaces := #[]
  cf := some (fileOf pool3 1 #[] #[] 1537 3 #[] #[])
  fields := #[]
  methods := #[]
  instanceTypes := #[]
  staticTypes := #[]
  resolved := Array.replicate 12 none
  statics := none }

def pool4 : Array CpInfo := pool [(2, .class_ 4), (1, u "java/lang/CharSequence"), (42, .class_ 48), (0, u "java/lang/CharSequence$1CodePointIterator"), (10, .class_ 60), (0, u "java/lang/CharSequence$1CharIterator"), (5, .class_ 67), (0, u "java/lang/Object")] 63

/-- java/lang/CharSequence -/
def k4 : Class := { plain "java/lang/CharSequence" (some 0) with
  accessFlags := 1537
  interfaces := #[]
  cf := some (fileOf pool4 2 #[.nestMembers #[47, 59]] #[] 1537 66 #[] #[])
  fields := #[]
  methods := #[]
  instanceTypes := #[]
  staticTypes := #[]
  resolved := Array.replicate 131 none
  statics := none }

def pool5 : Array CpInfo := pool [(1, .class_ 2), (0, u "java/lang/constant/Constable"), (0, .class_ 4), (0, u "java/lang/Object")] 6

/-- java/lang/constant/Constable -/
def k5 : Class := { plain "java/lang/constant/Constable" (some 0) with
  accessFlags := 1537
  interfaces := #[]
  cf := some (fileOf pool5 1 #[] #[] 1537 3 #[] #[])
  fields := #[]
  methods := #[]
  instanceTypes := #[]
  staticTypes := #[]
  resolved := Array.replicate 11 none
  statics := none }

def pool6 : Array CpInfo := pool [(1, .class_ 2), (0, u "java/lang/constant/ConstantDesc"), (0, .class_ 4), (0, u "java/lang/Object")] 32

/-- java/lang/constant/ConstantDesc -/
def k6 : Class := { plain "java/lang/constant/ConstantDesc" (some 0) with
  accessFlags := 1537
  interfaces := #[]
  cf := some (fileOf pool6 1 #[] #[] 1537 3 #[] #[])
  fields := #[]
  methods := #[]
  instanceTypes := #[]
  staticTypes := #[]
  resolved := Array.replicate 37 none
  statics := none }

def pool7 : Array CpInfo := pool [(1, .methodref 2 3), (0, .class_ 4), (0, .nameAndType 5 6), (0, u "java/lang/Object"), (0, u "<init>"), (0, u "()V"), (0, .string 8), (0, u ""), (0, .fieldref 10 11), (0, .class_ 12), (0, .nameAndType 13 14), (0, u "java/lang/String"), (0, u "value"), (0, u "[B"), (0, .fieldref 10 16), (0, .nameAndType 17 18), (0, u "coder"), (0, u "B"), (2, u "hash"), (0, u "I"), (2, u "hashIsZero"), (0, u "Z"), (0, .methodref 10 28), (0, .nameAndType 5 29), (0, u "([CIILjava/lang/Void;)V"), (8, .fieldref 10 39), (0, .nameAndType 40 26), (0, u "COMPACT_STRINGS"), (1, .class_ 44), (1, u "java/lang/StringUTF16"), (0, u "compress"), (1, .methodref 42 48), (0, .nameAndType 49 50), (0, u "coderFromArrayLen"), (0, u "([BI)B"), (56, .class_ 109), (1, u "java/lang/StringLatin1"), (32, u "()Z"), (34, .methodref 42 178), (0, .nameAndType 45 179), (0, u "([CII)[B"), (154, u "()I"), (0, .methodref 10 336), (0, .nameAndType 17 337), (0, u "()B"), (25, u "([BI)C"), (27, u "(II)V"), (35, u "(I)C"), (64, .methodref 10 493), (0, .nameAndType 494 142), (0, u "isLatin1"), (0, .methodref 107 496), (0, .nameAndType 497 363), (0, u "charAt"), (3, u "checkIndex"), (5, u "length"), (33, .methodref 107 542), (0, .nameAndType 543 544), (0, u "equals"), (0, u "([B[B)Z"), (28, u "(Ljava/lang/Object;)Z"), (1, .class_ 576), (0, u "java/lang/CharSequence"), (22, u "CASE_INSENSITIVE_ORDER"), (0, u "Ljava/util/Comparator;"), (409, u "([C)V"), (42, .fieldref 1054 1055), (0, .class_ 1056), (0, .nameAndType 1057 1058), (0, u "jdk/internal/util/Preconditions"), (0, u "SIOOBE_FORMATTER"), (0, u "Ljava/util/function/BiFunction;"), (0, .methodref 1054 1060), (0, .nameAndType 501 1061), (0, u "(IILjava/util/function/BiFunction;)I"), (39, u "serialPersistentFields"), (0, u "[Ljava/io/ObjectStreamField;"), (0, .class_ 1104), (0, u "java/lang/String$CaseInsensitiveComparator"), (1, .class_ 1107), (0, u "java/io/Serializable"), (0, .class_ 1109), (0, u "java/lang/Comparable"), (0, .class_ 1111), (0, u "java/lang/constant/Constable"), (0, .class_ 1113), (0, u "java/lang/constant/ConstantDesc"), (2, u "serialVersionUID"), (0, u "J"), (3, u "REPL"), (0, u "C"), (2, u "LATIN1"), (1, u "UTF16")] 323

def k7m0 : Method := { name := "<init>", desc := "()V", sig := { parameters := [], returnType := none }, accessFlags := 1, code := none }
def k7c1 : Code := { maxStack := 5, maxLocals := 2, code := jdk_42_method_3_code, exceptionTable := #[], attributes := #[] }
def k7m1 : Method := { name := "<init>", desc := "([C)V", sig := { parameters := [(.array .char)], returnType := none }, accessFlags := 1, code := some k7c1 }
def k7c2 : Code := { maxStack := 2, maxLocals := 1, code := jdk_42_method_54_code, exceptionTable := #[], attributes := #[] }
def k7m2 : Method := { name := "length", desc := "()I", sig := { parameters := [], returnType := some .int }, accessFlags := 1, code := some k7c2 }
def k7c3 : Code := { maxStack := 2, maxLocals := 2, code := jdk_42_method_56_code, exceptionTable := #[], attributes := #[] }
def k7m3 : Method := { name := "charAt", desc := "(I)C", sig := { parameters := [.int], returnType := some .char }, accessFlags := 1, code := some k7c3 }
def k7c4 : Code := { maxStack := 2, maxLocals := 3, code := jdk_42_method_66_code, exceptionTable := #[], attributes := #[] }
def k7m4 : Method := { name := "equals", desc := "(Ljava/lang/Object;)Z", sig := { parameters := [(.object "java/lang/Object")], returnType := some .boolean }, accessFlags := 1, code := some k7c4 }
def k7c5 : Code := { maxStack := 4, maxLocals := 6, code := jdk_42_method_149_code, exceptionTable := #[], attributes := #[] }
def k7m5 : Method := { name := "<init>", desc := "([CIILjava/lang/Void;)V", sig := { parameters := [(.array .char), .int, .int, (.object "java/lang/Void")], returnType := none }, accessFlags := 2, code := some k7c5 }
def k7c6 : Code := { maxStack := 1, maxLocals := 1, code := jdk_42_method_152_code, exceptionTable := #[], attributes := #[] }
def k7m6 : Method := { name := "coder", desc := "()B", sig := { parameters := [], returnType := some .byte }, accessFlags := 0, code := some k7c6 }
def k7c7 : Code := { maxStack := 1, maxLocals := 1, code := jdk_42_method_154_code, exceptionTable := #[], attributes := #[] }
def k7m7 : Method := { name := "isLatin1", desc := "()Z", sig := { parameters := [], returnType := some .boolean }, accessFlags := 0, code := some k7c7 }
def k7c8 : Code := { maxStack := 3, maxLocals := 2, code := jdk_42_method_155_code, exceptionTable := #[], attributes := #[] }
def k7m8 : Method := { name := "checkIndex", desc := "(II)V", sig := { parameters := [.int, .int], returnType := none }, accessFlags := 8, code := some k7c8 }
/-- java/lang/String -/
def k7 : Class := { plain "java/lang/String" (some 0) with
  accessFlags := 49
  interfaces := #[2, 3, 4, 5, 6]
  cf := some (fileOf pool7 10 #[.nestMembers #[1103]] #[{ accessFlags := 1, nameIndex := 5, descriptorIndex := 6, attributes := #[] }, { accessFlags := 1, nameIndex := 5, descriptorIndex := 1010, attributes := #[] }, { accessFlags := 1, nameIndex := 507, descriptorIndex := 334, attributes := #[] }, { accessFlags := 1, nameIndex := 497, descriptorIndex := 427, attributes := #[] }, { accessFlags := 1, nameIndex := 543, descriptorIndex := 573, attributes := #[] }, { accessFlags := 2, nameIndex := 5, descriptorIndex := 29, attributes := #[] }, { accessFlags := 0, nameIndex := 17, descriptorIndex := 337, attributes := #[] }, { accessFlags := 0, nameIndex := 494, descriptorIndex := 142, attributes := #[] }, { accessFlags := 8, nameIndex := 501, descriptorIndex := 391, attributes := #[] }] 49 2 #[1106, 1108, 575, 1110, 1112] #[{ accessFlags := 18, nameIndex := 13, descriptorIndex := 14, attributes := #[] }, { accessFlags := 18, nameIndex := 17, descriptorIndex := 18, attributes := #[] }, { accessFlags := 2, nameIndex := 21, descriptorIndex := 22, attributes := #[] }, { accessFlags := 2, nameIndex := 25, descriptorIndex := 26, attributes := #[] }, { accessFlags := 26, nameIndex := 1116, descriptorIndex := 1117, attributes := #[] }, { accessFlags := 24, nameIndex := 40, descriptorIndex := 26, attributes := #[] }, { accessFlags := 26, nameIndex := 1101, descriptorIndex := 1102, attributes := #[] }, { accessFlags := 26, nameIndex := 1121, descriptorIndex := 1122, attributes := #[] }, { accessFlags := 25, nameIndex := 599, descriptorIndex := 600, attributes := #[] }, { accessFlags := 24, nameIndex := 1125, descriptorIndex := 18, attributes := #[] }, { accessFlags := 24, nameIndex := 1127, descriptorIndex := 18, attributes := #[] }])
  fields := #[{ name := "value", type := (.array .byte), accessFlags := 18, slot := 0, constantValue := 0 }, { name := "coder", type := .byte, accessFlags := 18, slot := 1, constantValue := 0 }, { name := "hash", type := .int, accessFlags := 2, slot := 2, constantValue := 0 }, { name := "hashIsZero", type := .boolean, accessFlags := 2, slot := 3, constantValue := 0 }, { name := "serialVersionUID", type := .long, accessFlags := 26, slot := 0, constantValue := 0 }, { name := "COMPACT_STRINGS", type := .boolean, accessFlags := 24, slot := 1, constantValue := 0 }, { name := "serialPersistentFields", type := (.array (.object "java/io/ObjectStreamField")), accessFlags := 26, slot := 2, constantValue := 0 }, { name := "REPL", type := .char, accessFlags := 26, slot := 3, constantValue := 0 }, { name := "CASE_INSENSITIVE_ORDER", type := (.object "java/util/Comparator"), accessFlags := 25, slot := 4, constantValue := 0 }, { name := "LATIN1", type := .byte, accessFlags := 24, slot := 5, constantValue := 0 }, { name := "UTF16", type := .byte, accessFlags := 24, slot := 6, constantValue := 0 }]
  methods := #[k7m0, k7m1, k7m2, k7m3, k7m4, k7m5, k7m6, k7m7, k7m8]
  instanceTypes := #[(.array .byte), .byte, .int, .boolean]
  staticTypes := #[.long, .boolean, (.array (.object "java/io/ObjectStreamField")), .char, (.object "java/util/Comparator"), .byte, .byte]
  resolved := Array.replicate 1451 none
  statics := some 0 }

def pool8 : Array CpInfo := pool [(2, .class_ 4), (1, u "java/lang/Enum"), (0, u "name"), (0, u "Ljava/lang/String;"), (2, u "ordinal"), (0, u "I"), (1, .class_ 14), (1, u "java/lang/Object"), (4, u "hash"), (86, .class_ 108), (1, u "java/lang/Enum$EnumDesc"), (2, .class_ 112), (0, u "java/lang/constant/Constable"), (0, .class_ 114), (0, u "java/lang/Comparable"), (0, .class_ 116), (0, u "java/io/Serializable")] 87

/-- java/lang/Enum -/
def k8 : Class := { plain "java/lang/Enum" (some 0) with
  accessFlags := 1057
  interfaces := #[5, 3, 2]
  cf := some (fileOf pool8 2 #[.nestMembers #[106]] #[] 1057 12 #[111, 113, 115] #[{ accessFlags := 18, nameIndex := 5, descriptorIndex := 6, attributes := #[] }, { accessFlags := 18, nameIndex := 9, descriptorIndex := 10, attributes := #[] }, { accessFlags := 2, nameIndex := 19, descriptorIndex := 10, attributes := #[] }])
  fields := #[{ name := "name", type := (.object "java/lang/String"), accessFlags := 18, slot := 0, constantValue := 0 }, { name := "ordinal", type := .int, accessFlags := 18, slot := 1, constantValue := 0 }, { name := "hash", type := .int, accessFlags := 2, slot := 2, constantValue := 0 }]
  methods := #[]
  instanceTypes := #[(.object "java/lang/String"), .int, .int]
  staticTypes := #[]
  resolved := Array.replicate 204 none
  statics := none }

def pool9 : Array CpInfo := pool [(1, .class_ 2), (0, u "com/example/tempogate/tempogate/rules/Rule$Kind"), (2, u "CAP"), (0, u "Lcom/example/tempogate/tempogate/rules/Rule$Kind;"), (2, u "RATE"), (2, u "BUDGET"), (0, .fieldref 1 14), (0, .nameAndType 15 16), (0, u "$VALUES"), (0, u "[Lcom/example/tempogate/tempogate/rules/Rule$Kind;"), (0, .methodref 18 19), (0, .class_ 16), (0, .nameAndType 20 21), (0, u "clone"), (0, u "()Ljava/lang/Object;"), (1, .class_ 25), (1, u "java/lang/Enum"), (6, .fieldref 1 33), (0, .nameAndType 34 35), (0, u "text"), (0, u "Ljava/lang/String;"), (0, .methodref 1 37), (0, .nameAndType 38 39), (0, u "values"), (0, u "()[Lcom/example/tempogate/tempogate/rules/Rule$Kind;"), (0, .methodref 41 42), (0, .class_ 43), (0, .nameAndType 44 45), (0, u "java/lang/String"), (0, u "equals"), (0, u "(Ljava/lang/Object;)Z"), (17, u "(Ljava/lang/String;)Lcom/example/tempogate/tempogate/rules/Rule$Kind;"), (4, u "named"), (7, .class_ 77), (0, u "com/example/tempogate/tempogate/rules/Rule")] 2

def k9c0 : Code := { maxStack := 1, maxLocals := 0, code := prog_19_method_1_code, exceptionTable := #[], attributes := #[] }
def k9m0 : Method := { name := "values", desc := "()[Lcom/example/tempogate/tempogate/rules/Rule$Kind;", sig := { parameters := [], returnType := some (.array (.object "com/example/tempogate/tempogate/rules/Rule$Kind")) }, accessFlags := 9, code := some k9c0 }
def k9c1 : Code := { maxStack := 2, maxLocals := 5, code := prog_19_method_5_code, exceptionTable := #[], attributes := #[] }
def k9m1 : Method := { name := "named", desc := "(Ljava/lang/String;)Lcom/example/tempogate/tempogate/rules/Rule$Kind;", sig := { parameters := [(.object "java/lang/String")], returnType := some (.object "com/example/tempogate/tempogate/rules/Rule$Kind") }, accessFlags := 9, code := some k9c1 }
/-- com/example/tempogate/tempogate/rules/Rule$Kind -/
def k9 : Class := { plain "com/example/tempogate/tempogate/rules/Rule$Kind" (some 8) with
  accessFlags := 16433
  interfaces := #[]
  cf := some (fileOf pool9 1 #[.nestHost 76] #[{ accessFlags := 9, nameIndex := 38, descriptorIndex := 39, attributes := #[] }, { accessFlags := 9, nameIndex := 68, descriptorIndex := 63, attributes := #[] }] 16433 23 #[] #[{ accessFlags := 16409, nameIndex := 5, descriptorIndex := 6, attributes := #[] }, { accessFlags := 16409, nameIndex := 9, descriptorIndex := 6, attributes := #[] }, { accessFlags := 16409, nameIndex := 12, descriptorIndex := 6, attributes := #[] }, { accessFlags := 18, nameIndex := 34, descriptorIndex := 35, attributes := #[] }, { accessFlags := 4122, nameIndex := 15, descriptorIndex := 16, attributes := #[] }])
  fields := #[{ name := "CAP", type := (.object "com/example/tempogate/tempogate/rules/Rule$Kind"), accessFlags := 16409, slot := 0, constantValue := 0 }, { name := "RATE", type := (.object "com/example/tempogate/tempogate/rules/Rule$Kind"), accessFlags := 16409, slot := 1, constantValue := 0 }, { name := "BUDGET", type := (.object "com/example/tempogate/tempogate/rules/Rule$Kind"), accessFlags := 16409, slot := 2, constantValue := 0 }, { name := "text", type := (.object "java/lang/String"), accessFlags := 18, slot := 3, constantValue := 0 }, { name := "$VALUES", type := (.array (.object "com/example/tempogate/tempogate/rules/Rule$Kind")), accessFlags := 4122, slot := 3, constantValue := 0 }]
  methods := #[k9m0, k9m1]
  instanceTypes := #[(.object "java/lang/String"), .int, .int, (.object "java/lang/String")]
  staticTypes := #[(.object "com/example/tempogate/tempogate/rules/Rule$Kind"), (.object "com/example/tempogate/tempogate/rules/Rule$Kind"), (.object "com/example/tempogate/tempogate/rules/Rule$Kind"), (.array (.object "com/example/tempogate/tempogate/rules/Rule$Kind"))]
  resolved := Array.replicate 80 none
  statics := some 1 }

def pool10 : Array CpInfo := pool [(1, .class_ 2), (0, u "java/lang/Cloneable"), (0, .class_ 4), (0, u "java/lang/Object")] 2

/-- java/lang/Cloneable -/
def k10 : Class := { plain "java/lang/Cloneable" (some 0) with
  accessFlags := 1537
  interfaces := #[]
  cf := some (fileOf pool10 1 #[] #[] 1537 3 #[] #[])
  fields := #[]
  methods := #[]
  instanceTypes := #[]
  staticTypes := #[]
  resolved := Array.replicate 7 none
  statics := none }

def pool11 : Array CpInfo := pool [(1, .class_ 2), (0, u "java/lang/String"), (1, .class_ 6), (1, u "java/lang/Object"), (0, u "<init>"), (0, u "()V"), (0, .methodref 1 10), (0, .nameAndType 11 12), (0, u "checkIndex"), (0, u "(II)V"), (1, .class_ 16), (1, u "java/lang/StringLatin1"), (36, u "([BI)C"), (67, u "$assertionsDisabled"), (0, u "Z"), (98, .class_ 223), (1, u "java/lang/StringLatin1$LinesSpliterator"), (28, u "charAt"), (28, u "equals"), (0, u "([B[B)Z"), (107, .class_ 391), (0, u "java/lang/StringLatin1$CharsSpliterator")] 3

def k11m0 : Method := { name := "<init>", desc := "()V", sig := { parameters := [], returnType := none }, accessFlags := 0, code := none }
def k11c1 : Code := { maxStack := 2, maxLocals := 2, code := jdk_43_method_2_code, exceptionTable := #[], attributes := #[] }
def k11m1 : Method := { name := "charAt", desc := "([BI)C", sig := { parameters := [(.array .byte), .int], returnType := some .char }, accessFlags := 9, code := some k11c1 }
def k11c2 : Code := { maxStack := 3, maxLocals := 3, code := jdk_43_method_13_code, exceptionTable := #[], attributes := #[] }
def k11m2 : Method := { name := "equals", desc := "([B[B)Z", sig := { parameters := [(.array .byte), (.array .byte)], returnType := some .boolean }, accessFlags := 9, code := some k11c2 }
/-- java/lang/StringLatin1 -/
def k11 : Class := { plain "java/lang/StringLatin1" (some 0) with
  accessFlags := 48
  interfaces := #[]
  cf := some (fileOf pool11 14 #[.nestMembers #[390, 221]] #[{ accessFlags := 0, nameIndex := 7, descriptorIndex := 8, attributes := #[] }, { accessFlags := 9, nameIndex := 252, descriptorIndex := 53, attributes := #[] }, { accessFlags := 9, nameIndex := 281, descriptorIndex := 282, attributes := #[] }] 48 4 #[] #[{ accessFlags := 4120, nameIndex := 121, descriptorIndex := 122, attributes := #[] }])
  fields := #[{ name := "$assertionsDisabled", type := .boolean, accessFlags := 4120, slot := 0, constantValue := 0 }]
  methods := #[k11m0, k11m1, k11m2]
  instanceTypes := #[]
  staticTypes := #[.boolean]
  resolved := Array.replicate 395 none
  statics := none }

def pool12 : Array CpInfo := pool [(2, .class_ 4), (1, u "java/lang/Object"), (0, u "<init>"), (0, u "()V"), (17, .class_ 26), (1, u "jdk/internal/util/Preconditions"), (6, u "checkIndex"), (21, .class_ 56), (0, u "jdk/internal/util/Preconditions$4"), (57, .class_ 115), (0, u "jdk/internal/util/Preconditions$1"), (7, u "SIOOBE_FORMATTER"), (0, u "Ljava/util/function/BiFunction;"), (0, .class_ 126), (0, u "jdk/internal/util/Preconditions$2"), (3, u "AIOOBE_FORMATTER"), (0, .class_ 132), (0, u "jdk/internal/util/Preconditions$3"), (3, u "IOOBE_FORMATTER"), (41, u "(IILjava/util/function/BiFunction;)I")] 15

def k12m0 : Method := { name := "<init>", desc := "()V", sig := { parameters := [], returnType := none }, accessFlags := 1, code := none }
def k12c1 : Code := { maxStack := 3, maxLocals := 3, code := jdk_41_method_11_code, exceptionTable := #[], attributes := #[] }
def k12m1 : Method := { name := "checkIndex", desc := "(IILjava/util/function/BiFunction;)I", sig := { parameters := [.int, .int, (.object "java/util/function/BiFunction")], returnType := some .int }, accessFlags := 9, code := some k12c1 }
/-- jdk/internal/util/Preconditions -/
def k12 : Class := { plain "jdk/internal/util/Preconditions" (some 0) with
  accessFlags := 33
  interfaces := #[]
  cf := some (fileOf pool12 24 #[.nestMembers #[55, 131, 125, 114]] #[{ accessFlags := 1, nameIndex := 5, descriptorIndex := 6, attributes := #[] }, { accessFlags := 9, nameIndex := 33, descriptorIndex := 178, attributes := #[] }] 33 2 #[] #[{ accessFlags := 25, nameIndex := 123, descriptorIndex := 124, attributes := #[] }, { accessFlags := 25, nameIndex := 130, descriptorIndex := 124, attributes := #[] }, { accessFlags := 25, nameIndex := 136, descriptorIndex := 124, attributes := #[] }])
  fields := #[{ name := "SIOOBE_FORMATTER", type := (.object "java/util/function/BiFunction"), accessFlags := 25, slot := 0, constantValue := 0 }, { name := "AIOOBE_FORMATTER", type := (.object "java/util/function/BiFunction"), accessFlags := 25, slot := 1, constantValue := 0 }, { name := "IOOBE_FORMATTER", type := (.object "java/util/function/BiFunction"), accessFlags := 25, slot := 2, constantValue := 0 }]
  methods := #[k12m0, k12m1]
  instanceTypes := #[]
  staticTypes := #[(.object "java/util/function/BiFunction"), (.object "java/util/function/BiFunction"), (.object "java/util/function/BiFunction")]
  resolved := Array.replicate 194 none
  statics := some 2 }

def pool13 : Array CpInfo := pool [(6, .class_ 8), (1, u "java/lang/Object"), (0, u "<init>"), (0, u "()V"), (1, .class_ 14), (1, u "java/lang/StringUTF16"), (31, u "$assertionsDisabled"), (0, u "Z"), (13, u "HI_BYTE_SHIFT"), (0, u "I"), (2, u "LO_BYTE_SHIFT"), (49, .methodref 12 116), (0, .nameAndType 117 118), (0, u "compress"), (0, u "([CI[BII)I"), (3, u "([CII)[B"), (138, u "coderFromArrayLen"), (0, u "([BI)B"), (106, .class_ 371), (1, u "java/lang/StringUTF16$LinesSpliterator"), (58, u "MAX_LENGTH"), (196, .class_ 628), (0, u "java/lang/StringUTF16$CodePointsSpliterator"), (0, .class_ 630), (0, u "java/lang/StringUTF16$CharsSpliterator")] 4

def k13m0 : Method := { name := "<init>", desc := "()V", sig := { parameters := [], returnType := none }, accessFlags := 0, code := none }
def k13c1 : Code := { maxStack := 2, maxLocals := 2, code := jdk_52_method_15_code, exceptionTable := #[], attributes := #[] }
def k13m1 : Method := { name := "coderFromArrayLen", desc := "([BI)B", sig := { parameters := [(.array .byte), .int], returnType := some .byte }, accessFlags := 8, code := some k13c1 }
def k13c2 : Code := { maxStack := 5, maxLocals := 6, code := jdk_52_method_16_code, exceptionTable := #[], attributes := #[] }
def k13m2 : Method := { name := "compress", desc := "([CII)[B", sig := { parameters := [(.array .char), .int, .int], returnType := some (.array .byte) }, accessFlags := 9, code := some k13c2 }
def k13c3 : Code := { maxStack := 3, maxLocals := 7, code := jdk_52_method_21_code, exceptionTable := #[], attributes := #[] }
def k13m3 : Method := { name := "compress", desc := "([CI[BII)I", sig := { parameters := [(.array .char), .int, (.array .byte), .int, .int], returnType := some .int }, accessFlags := 9, code := some k13c3 }
/-- java/lang/StringUTF16 -/
def k13 : Class := { plain "java/lang/StringUTF16" (some 0) with
  accessFlags := 48
  interfaces := #[]
  cf := some (fileOf pool13 12 #[.nestMembers #[627, 629, 369]] #[{ accessFlags := 0, nameIndex := 9, descriptorIndex := 10, attributes := #[] }, { accessFlags := 8, nameIndex := 261, descriptorIndex := 262, attributes := #[] }, { accessFlags := 9, nameIndex := 117, descriptorIndex := 122, attributes := #[] }, { accessFlags := 9, nameIndex := 117, descriptorIndex := 118, attributes := #[] }] 48 6 #[] #[{ accessFlags := 26, nameIndex := 61, descriptorIndex := 62, attributes := #[] }, { accessFlags := 26, nameIndex := 65, descriptorIndex := 62, attributes := #[] }, { accessFlags := 24, nameIndex := 430, descriptorIndex := 62, attributes := #[] }, { accessFlags := 4120, nameIndex := 46, descriptorIndex := 47, attributes := #[] }])
  fields := #[{ name := "HI_BYTE_SHIFT", type := .int, accessFlags := 26, slot := 0, constantValue := 0 }, { name := "LO_BYTE_SHIFT", type := .int, accessFlags := 26, slot := 1, constantValue := 0 }, { name := "MAX_LENGTH", type := .int, accessFlags := 24, slot := 2, constantValue := 0 }, { name := "$assertionsDisabled", type := .boolean, accessFlags := 4120, slot := 3, constantValue := 0 }]
  methods := #[k13m0, k13m1, k13m2, k13m3]
  instanceTypes := #[]
  staticTypes := #[.int, .int, .int, .boolean]
  resolved := Array.replicate 635 none
  statics := none }

def pool14 : Array CpInfo := pool [(1, .class_ 2), (0, u "java/lang/Math"), (1, .class_ 6), (1, u "java/lang/Object"), (0, u "<init>"), (0, u "()V"), (89, .class_ 100), (1, u "java/lang/Math$RandomNumberGeneratorHolder"), (71, u "negativeZeroFloatBits"), (0, u "J"), (2, u "negativeZeroDoubleBits"), (21, u "max"), (46, u "$assertionsDisabled"), (0, u "Z"), (88, u "(II)I"), (2, u "twoToTheDoubleScaleDown"), (0, u "D"), (4, u "twoToTheDoubleScaleUp"), (9, u "E"), (3, u "PI"), (2, u "TAU"), (2, u "DEGREES_TO_RADIANS"), (0, u "RADIANS_TO_DEGREES")] 94

def k14m0 : Method := { name := "<init>", desc := "()V", sig := { parameters := [], returnType := none }, accessFlags := 2, code := none }
def k14c1 : Code := { maxStack := 2, maxLocals := 2, code := jdk_29_method_65_code, exceptionTable := #[], attributes := #[] }
def k14m1 : Method := { name := "max", desc := "(II)I", sig := { parameters := [.int, .int], returnType := some .int }, accessFlags := 9, code := some k14c1 }
/-- java/lang/Math -/
def k14 : Class := { plain "java/lang/Math" (some 0) with
  accessFlags := 49
  interfaces := #[]
  cf := some (fileOf pool14 1 #[.nestMembers #[98]] #[{ accessFlags := 2, nameIndex := 7, descriptorIndex := 8, attributes := #[] }, { accessFlags := 9, nameIndex := 198, descriptorIndex := 335, attributes := #[] }] 49 4 #[] #[{ accessFlags := 25, nameIndex := 354, descriptorIndex := 339, attributes := #[] }, { accessFlags := 25, nameIndex := 358, descriptorIndex := 339, attributes := #[] }, { accessFlags := 25, nameIndex := 361, descriptorIndex := 339, attributes := #[] }, { accessFlags := 26, nameIndex := 364, descriptorIndex := 339, attributes := #[] }, { accessFlags := 26, nameIndex := 365, descriptorIndex := 339, attributes := #[] }, { accessFlags := 26, nameIndex := 172, descriptorIndex := 173, attributes := #[] }, { accessFlags := 26, nameIndex := 176, descriptorIndex := 173, attributes := #[] }, { accessFlags := 8, nameIndex := 344, descriptorIndex := 339, attributes := #[] }, { accessFlags := 8, nameIndex := 338, descriptorIndex := 339, attributes := #[] }, { accessFlags := 4120, nameIndex := 245, descriptorIndex := 246, attributes := #[] }])
  fields := #[{ name := "E", type := .double, accessFlags := 25, slot := 0, constantValue := 0 }, { name := "PI", type := .double, accessFlags := 25, slot := 1, constantValue := 0 }, { name := "TAU", type := .double, accessFlags := 25, slot := 2, constantValue := 0 }, { name := "DEGREES_TO_RADIANS", type := .double, accessFlags := 26, slot := 3, constantValue := 0 }, { name := "RADIANS_TO_DEGREES", type := .double, accessFlags := 26, slot := 4, constantValue := 0 }, { name := "negativeZeroFloatBits", type := .long, accessFlags := 26, slot := 5, constantValue := 0 }, { name := "negativeZeroDoubleBits", type := .long, accessFlags := 26, slot := 6, constantValue := 0 }, { name := "twoToTheDoubleScaleUp", type := .double, accessFlags := 8, slot := 7, constantValue := 0 }, { name := "twoToTheDoubleScaleDown", type := .double, accessFlags := 8, slot := 8, constantValue := 0 }, { name := "$assertionsDisabled", type := .boolean, accessFlags := 4120, slot := 9, constantValue := 0 }]
  methods := #[k14m0, k14m1]
  instanceTypes := #[]
  staticTypes := #[.double, .double, .double, .double, .double, .long, .long, .double, .double, .boolean]
  resolved := Array.replicate 460 none
  statics := none }

def pool15 : Array CpInfo := pool [(9, u "<init>"), (6, .class_ 18), (1, u "java/lang/Object"), (0, u "()V"), (1, .class_ 23), (1, u "jdk/internal/util/ArraysSupport"), (0, u "LOG2_ARRAY_LONG_INDEX_SCALE"), (0, u "I"), (2, u "U"), (0, u "Ljdk/internal/misc/Unsafe;"), (8, u "BIG_ENDIAN"), (0, u "Z"), (8, u "LOG2_BYTE_BIT_SIZE"), (4, u "LOG2_ARRAY_INT_INDEX_SCALE"), (54, u "JLA"), (0, u "Ljdk/internal/access/JavaLangAccess;"), (11, u "LOG2_ARRAY_BOOLEAN_INDEX_SCALE"), (9, u "LOG2_ARRAY_BYTE_INDEX_SCALE"), (5, u "LOG2_ARRAY_CHAR_INDEX_SCALE"), (5, u "LOG2_ARRAY_SHORT_INDEX_SCALE"), (18, u "LOG2_ARRAY_FLOAT_INDEX_SCALE"), (24, u "LOG2_ARRAY_DOUBLE_INDEX_SCALE"), (89, u "T_BOOLEAN"), (2, u "T_CHAR"), (1, u "T_FLOAT"), (1, u "T_DOUBLE"), (1, u "T_BYTE"), (1, u "T_SHORT"), (1, u "T_INT"), (1, u "T_LONG"), (1, u "SOFT_MAX_ARRAY_LENGTH")] 83

def k15m0 : Method := { name := "<init>", desc := "()V", sig := { parameters := [], returnType := none }, accessFlags := 2, code := none }
/-- jdk/internal/util/ArraysSupport -/
def k15 : Class := { plain "jdk/internal/util/ArraysSupport" (some 0) with
  accessFlags := 33
  interfaces := #[]
  cf := some (fileOf pool15 21 #[] #[{ accessFlags := 2, nameIndex := 9, descriptorIndex := 19, attributes := #[] }] 33 16 #[] #[{ accessFlags := 24, nameIndex := 28, descriptorIndex := 29, attributes := #[] }, { accessFlags := 26, nameIndex := 38, descriptorIndex := 39, attributes := #[] }, { accessFlags := 25, nameIndex := 121, descriptorIndex := 25, attributes := #[] }, { accessFlags := 25, nameIndex := 131, descriptorIndex := 25, attributes := #[] }, { accessFlags := 25, nameIndex := 137, descriptorIndex := 25, attributes := #[] }, { accessFlags := 25, nameIndex := 143, descriptorIndex := 25, attributes := #[] }, { accessFlags := 25, nameIndex := 53, descriptorIndex := 25, attributes := #[] }, { accessFlags := 25, nameIndex := 24, descriptorIndex := 25, attributes := #[] }, { accessFlags := 25, nameIndex := 162, descriptorIndex := 25, attributes := #[] }, { accessFlags := 25, nameIndex := 187, descriptorIndex := 25, attributes := #[] }, { accessFlags := 26, nameIndex := 48, descriptorIndex := 25, attributes := #[] }, { accessFlags := 25, nameIndex := 277, descriptorIndex := 25, attributes := #[] }, { accessFlags := 25, nameIndex := 280, descriptorIndex := 25, attributes := #[] }, { accessFlags := 25, nameIndex := 282, descriptorIndex := 25, attributes := #[] }, { accessFlags := 25, nameIndex := 284, descriptorIndex := 25, attributes := #[] }, { accessFlags := 25, nameIndex := 286, descriptorIndex := 25, attributes := #[] }, { accessFlags := 25, nameIndex := 288, descriptorIndex := 25, attributes := #[] }, { accessFlags := 25, nameIndex := 290, descriptorIndex := 25, attributes := #[] }, { accessFlags := 25, nameIndex := 292, descriptorIndex := 25, attributes := #[] }, { accessFlags := 26, nameIndex := 108, descriptorIndex := 109, attributes := #[] }, { accessFlags := 25, nameIndex := 294, descriptorIndex := 25, attributes := #[] }])
  fields := #[{ name := "U", type := (.object "jdk/internal/misc/Unsafe"), accessFlags := 24, slot := 0, constantValue := 0 }, { name := "BIG_ENDIAN", type := .boolean, accessFlags := 26, slot := 1, constantValue := 0 }, { name := "LOG2_ARRAY_BOOLEAN_INDEX_SCALE", type := .int, accessFlags := 25, slot := 2, constantValue := 0 }, { name := "LOG2_ARRAY_BYTE_INDEX_SCALE", type := .int, accessFlags := 25, slot := 3, constantValue := 0 }, { name := "LOG2_ARRAY_CHAR_INDEX_SCALE", type := .int, accessFlags := 25, slot := 4, constantValue := 0 }, { name := "LOG2_ARRAY_SHORT_INDEX_SCALE", type := .int, accessFlags := 25, slot := 5, constantValue := 0 }, { name := "LOG2_ARRAY_INT_INDEX_SCALE", type := .int, accessFlags := 25, slot := 6, constantValue := 0 }, { name := "LOG2_ARRAY_LONG_INDEX_SCALE", type := .int, accessFlags := 25, slot := 7, constantValue := 0 }, { name := "LOG2_ARRAY_FLOAT_INDEX_SCALE", type := .int, accessFlags := 25, slot := 8, constantValue := 0 }, { name := "LOG2_ARRAY_DOUBLE_INDEX_SCALE", type := .int, accessFlags := 25, slot := 9, constantValue := 0 }, { name := "LOG2_BYTE_BIT_SIZE", type := .int, accessFlags := 26, slot := 10, constantValue := 0 }, { name := "T_BOOLEAN", type := .int, accessFlags := 25, slot := 11, constantValue := 0 }, { name := "T_CHAR", type := .int, accessFlags := 25, slot := 12, constantValue := 0 }, { name := "T_FLOAT", type := .int, accessFlags := 25, slot := 13, constantValue := 0 }, { name := "T_DOUBLE", type := .int, accessFlags := 25, slot := 14, constantValue := 0 }, { name := "T_BYTE", type := .int, accessFlags := 25, slot := 15, constantValue := 0 }, { name := "T_SHORT", type := .int, accessFlags := 25, slot := 16, constantValue := 0 }, { name := "T_INT", type := .int, accessFlags := 25, slot := 17, constantValue := 0 }, { name := "T_LONG", type := .int, accessFlags := 25, slot := 18, constantValue := 0 }, { name := "JLA", type := (.object "jdk/internal/access/JavaLangAccess"), accessFlags := 26, slot := 19, constantValue := 0 }, { name := "SOFT_MAX_ARRAY_LENGTH", type := .int, accessFlags := 25, slot := 20, constantValue := 0 }]
  methods := #[k15m0]
  instanceTypes := #[]
  staticTypes := #[(.object "jdk/internal/misc/Unsafe"), .boolean, .int, .int, .int, .int, .int, .int, .int, .int, .int, .int, .int, .int, .int, .int, .int, .int, .int, (.object "jdk/internal/access/JavaLangAccess"), .int]
  resolved := Array.replicate 378 none
  statics := none }

/-- the primitive byte -/
def k16 : Class := { plain "byte" none with kind := .primitive 'B', accessFlags := 0x411 }
/-- [B -/
def k17 : Class := { plain "[B" (some 0) with kind := .array 16 .byte, interfaces := #[10, 2], accessFlags := 1041 }

/-- the primitive char -/
def k18 : Class := { plain "char" none with kind := .primitive 'C', accessFlags := 0x411 }
/-- [C -/
def k19 : Class := { plain "[C" (some 0) with kind := .array 18 .char, interfaces := #[10, 2], accessFlags := 1041 }

/-- the primitive int -/
def k20 : Class := { plain "int" none with kind := .primitive 'I', accessFlags := 0x411 }
/-- [I -/
def k21 : Class := { plain "[I" (some 0) with kind := .array 20 .int, interfaces := #[10, 2], accessFlags := 1041 }

/-- [Lcom/example/tempogate/tempogate/rules/Rule$Kind; -/
def k22 : Class := { plain "[Lcom/example/tempogate/tempogate/rules/Rule$Kind;" (some 0) with kind := .array 9 (.object "com/example/tempogate/tempogate/rules/Rule$Kind"), interfaces := #[10, 2], accessFlags := 1041 }

def heap : Heap := #[{ cls := 7, slots := #[.long 0, .int 1, .null, .int 0, .null, .int 0, .int 0], vm := .statics 7 },
  { cls := 9, slots := #[.ref 4, .ref 5, .ref 6, .ref 3], vm := .statics 9 },
  { cls := 12, slots := #[.null, .null, .null], vm := .statics 12 },
  { cls := 22, slots := #[.ref 4, .ref 5, .ref 6], vm := .none },
  { cls := 9, slots := #[.null, .int 0, .int 0, .ref 7], vm := .none },
  { cls := 9, slots := #[.null, .int 0, .int 0, .ref 8], vm := .none },
  { cls := 9, slots := #[.null, .int 0, .int 0, .ref 9], vm := .none },
  { cls := 7, slots := #[.ref 10, .int 0, .int 0, .int 0], vm := .none },
  { cls := 7, slots := #[.ref 11, .int 0, .int 0, .int 0], vm := .none },
  { cls := 7, slots := #[.ref 12, .int 0, .int 0, .int 0], vm := .none },
  { cls := 17, slots := #[.int 99, .int 97, .int 112], vm := .none },
  { cls := 17, slots := #[.int 114, .int 97, .int 116, .int 101], vm := .none },
  { cls := 17, slots := #[.int 98, .int 117, .int 100, .int 103, .int 101, .int 116], vm := .none }]
def classes : Array Class := #[k0, k1, k2, k3, k4, k5, k6, k7, k8, k9, k10, k11, k12, k13, k14, k15, k16, k17, k18, k19, k20, k21, k22]
def interned : List (Array UInt16 × Addr) := []
def slotsUsed : Nat := 54
def theMethod : MethodId := ⟨1, 4⟩
def args0 : Array Value := #[.int 0, .int 0, .int 0, .int 0, .int 0]
def aboutOver (below : List Frame) : State where
  vm := { classes := classes, interned := interned.toArray }
  heap := heap
  slotsUsed := slotsUsed
  threads := #[{ frames := .invoking theMethod args0 :: below }]
def below0 : List Frame := [.native { method := ⟨0, 0⟩, args := #[] }]
def about1 : State := aboutOver below0
def p0 : Program := .bare "" "" ""
def e0 : Env := launch0.env 0 0 0
theorem w_frames : about1.frames = Frame.invoking theMethod args0 :: below0 := rfl
set_option maxRecDepth 65536 in
theorem w_args : argsFit about1.vm theMethod args0 = true := by decide +kernel
set_option maxRecDepth 65536 in
theorem w_heap : heapFits about1 = true := by decide +kernel
set_option maxRecDepth 65536 in
theorem w_runnable : about1.curStatus? = some .runnable := by decide +kernel
set_option maxRecDepth 65536 in
theorem w_alone : about1.alone = true := by decide +kernel
set_option maxRecDepth 65536 in
theorem w_named : about1.methodNamed? x = some theMethod := by decide +kernel
set_option maxRecDepth 65536 in
theorem w_hears : about1.hears theMethod below0 = true := by decide +kernel
set_option maxRecDepth 65536 in
theorem w_ripe : about1.ripe theMethod args0 below0 = true := by decide +kernel
theorem w_running : about1.status = .running := rfl
set_option maxRecDepth 65536 in
theorem w_room : about1.hasRoom e0.platform room_1 = true :=
  launch0.hasRoom_least _ room_1 (by decide +kernel) (by decide +kernel) (by decide +kernel) (by decide +kernel) (by decide +kernel) (by decide +kernel)
theorem allAtoms_all (ts : List Jvm.Cond) (a : Array Jvm.Value) (st : Jvm.State) : (allAtoms ts).before a st = ts.all (fun c => c.before a st) := by
  induction ts with
  | nil => rfl
  | cons c t ih =>
    show (Jvm.Cond.and c (allAtoms t)).before a st = _
    rw [Jvm.Cond.before_and, ih, List.all_cons]
def words1 : List Jvm.Cond := Jvm.Cond.code x code maxLocals ret :: tables_1
/-- a 'code' word, met by the world's own term for the bytes: nothing is compared byte by byte -/
theorem code_word {y : MethodName} {bytes : ByteArray} {mx : Nat} {rt : Option FieldType} {a : Array Value} {s : State} {m : MethodId} {meth : Method} {c : Code} (h1 : s.methodNamed? y = some m) (h2 : s.vm.method? m = some meth) (h3 : meth.code = some c) (h4 : c.code = bytes)
    (h5 : (c.maxLocals == mx && c.exceptionTable.isEmpty && decide (c.maxStack ≤ mostOperands) && decide (meth.sig.returnType = rt) && !meth.locks && decide (parseMethodDescriptor y.desc = some meth.sig)) = true) : (Jvm.Cond.code y bytes mx rt).before a s = true := by
  simp only [Bool.and_eq_true, beq_iff_eq, Bool.not_eq_true', decide_eq_true_eq] at h5
  obtain ⟨⟨⟨⟨⟨g1, g2⟩, g3⟩, g4⟩, g5⟩, g6⟩ := h5
  simp [Cond.before, Cond.holds, Cond.value, h1, h2, h3, h4, g1, g2, g3, g4, g5, g6]
def isCode : Jvm.Cond → Bool
  | .code _ _ _ _ => true
  | _ => false
theorem all_split {L : List Jvm.Cond} {P : Jvm.Cond → Bool} (h1 : L.all (fun c => isCode c || P c) = true) (h2 : ∀ c ∈ L.filter isCode, P c = true) : L.all P = true := by
  refine List.all_eq_true.mpr fun c hc => ?_
  have h := List.all_eq_true.mp h1 c hc
  rcases Bool.eq_false_or_eq_true (isCode c) with hi | hi
  · exact h2 c (List.mem_filter.mpr ⟨hc, hi⟩)
  · simpa [hi] using h
set_option maxRecDepth 65536 in
theorem w_c0 : (Jvm.Cond.code x code maxLocals ret).before args0 about1 = true := code_word (m := ⟨1, 4⟩) (meth := k1m4) (c := k1c4) (by decide +kernel) rfl rfl rfl (by decide +kernel)
set_option maxRecDepth 65536 in
theorem w_c1 : (Jvm.Cond.code ({ cls := "com/example/tempogate/tempogate/rules/KindNamedPinLaw", name := "base", desc := "(I)Ljava/lang/String;" } : Jvm.MethodName) method_2_code (1 : Nat) (Option.some (Jvm.ClassFile.FieldType.object "java/lang/String"))).before args0 about1 = true := code_word (m := ⟨1, 1⟩) (meth := k1m1) (c := k1c1) (by decide +kernel) rfl rfl rfl (by decide +kernel)
set_option maxRecDepth 65536 in
theorem w_c2 : (Jvm.Cond.code ({ cls := "java/lang/String", name := "length", desc := "()I" } : Jvm.MethodName) jdk_42_method_54_code (1 : Nat) (Option.some Jvm.ClassFile.FieldType.int)).before args0 about1 = true := code_word (m := ⟨7, 2⟩) (meth := k7m2) (c := k7c2) (by decide +kernel) rfl rfl rfl (by decide +kernel)
set_option maxRecDepth 65536 in
theorem w_c3 : (Jvm.Cond.code ({ cls := "java/lang/String", name := "coder", desc := "()B" } : Jvm.MethodName) jdk_42_method_152_code (1 : Nat) (Option.some Jvm.ClassFile.FieldType.byte)).before args0 about1 = true := code_word (m := ⟨7, 6⟩) (meth := k7m6) (c := k7c6) (by decide +kernel) rfl rfl rfl (by decide +kernel)
set_option maxRecDepth 65536 in
theorem w_c4 : (Jvm.Cond.code ({ cls := "com/example/tempogate/tempogate/rules/KindNamedPinLaw", name := "put", desc := "([CILjava/lang/String;IC)V" } : Jvm.MethodName) method_3_code (5 : Nat) (Option.none : Option Jvm.ClassFile.FieldType)).before args0 about1 = true := code_word (m := ⟨1, 2⟩) (meth := k1m2) (c := k1c2) (by decide +kernel) rfl rfl rfl (by decide +kernel)
set_option maxRecDepth 65536 in
theorem w_c5 : (Jvm.Cond.code ({ cls := "java/lang/String", name := "<init>", desc := "([C)V" } : Jvm.MethodName) jdk_42_method_3_code (2 : Nat) (Option.none : Option Jvm.ClassFile.FieldType)).before args0 about1 = true := code_word (m := ⟨7, 1⟩) (meth := k7m1) (c := k7c1) (by decide +kernel) rfl rfl rfl (by decide +kernel)
set_option maxRecDepth 65536 in
theorem w_c6 : (Jvm.Cond.code ({ cls := "java/lang/String", name := "<init>", desc := "([CIILjava/lang/Void;)V" } : Jvm.MethodName) jdk_42_method_149_code (6 : Nat) (Option.none : Option Jvm.ClassFile.FieldType)).before args0 about1 = true := code_word (m := ⟨7, 5⟩) (meth := k7m5) (c := k7c5) (by decide +kernel) rfl rfl rfl (by decide +kernel)
set_option maxRecDepth 65536 in
theorem w_c7 : (Jvm.Cond.code ({ cls := "java/lang/Object", name := "<init>", desc := "()V" } : Jvm.MethodName) object_method_1_code (1 : Nat) (Option.none : Option Jvm.ClassFile.FieldType)).before args0 about1 = true := code_word (m := ⟨0, 0⟩) (meth := k0m0) (c := k0c0) (by decide +kernel) rfl rfl rfl (by decide +kernel)
set_option maxRecDepth 65536 in
theorem w_c8 : (Jvm.Cond.code ({ cls := "com/example/tempogate/tempogate/rules/Rule$Kind", name := "named", desc := "(Ljava/lang/String;)Lcom/example/tempogate/tempogate/rules/Rule$Kind;" } : Jvm.MethodName) prog_19_method_5_code (5 : Nat) (Option.some (Jvm.ClassFile.FieldType.object "com/example/tempogate/tempogate/rules/Rule$Kind"))).before args0 about1 = true := code_word (m := ⟨9, 1⟩) (meth := k9m1) (c := k9c1) (by decide +kernel) rfl rfl rfl (by decide +kernel)
set_option maxRecDepth 65536 in
theorem w_c9 : (Jvm.Cond.code ({ cls := "com/example/tempogate/tempogate/rules/Rule$Kind", name := "values", desc := "()[Lcom/example/tempogate/tempogate/rules/Rule$Kind;" } : Jvm.MethodName) prog_19_method_1_code (0 : Nat) (Option.some (Jvm.ClassFile.FieldType.array (Jvm.ClassFile.FieldType.object "com/example/tempogate/tempogate/rules/Rule$Kind")))).before args0 about1 = true := code_word (m := ⟨9, 0⟩) (meth := k9m0) (c := k9c0) (by decide +kernel) rfl rfl rfl (by decide +kernel)
set_option maxRecDepth 65536 in
theorem w_c10 : (Jvm.Cond.code ({ cls := "java/lang/String", name := "equals", desc := "(Ljava/lang/Object;)Z" } : Jvm.MethodName) jdk_42_method_66_code (3 : Nat) (Option.some Jvm.ClassFile.FieldType.boolean)).before args0 about1 = true := code_word (m := ⟨7, 4⟩) (meth := k7m4) (c := k7c4) (by decide +kernel) rfl rfl rfl (by decide +kernel)
set_option maxRecDepth 65536 in
theorem w_c11 : (Jvm.Cond.code ({ cls := "java/lang/StringLatin1", name := "equals", desc := "([B[B)Z" } : Jvm.MethodName) jdk_43_method_13_code (3 : Nat) (Option.some Jvm.ClassFile.FieldType.boolean)).before args0 about1 = true := code_word (m := ⟨11, 2⟩) (meth := k11m2) (c := k11c2) (by decide +kernel) rfl rfl rfl (by decide +kernel)
set_option maxRecDepth 65536 in
theorem w_c12 : (Jvm.Cond.code ({ cls := "com/example/tempogate/tempogate/rules/KindNamedPinLaw", name := "expected", desc := "(Ljava/lang/String;)Lcom/example/tempogate/tempogate/rules/Rule$Kind;" } : Jvm.MethodName) method_4_code (1 : Nat) (Option.some (Jvm.ClassFile.FieldType.object "com/example/tempogate/tempogate/rules/Rule$Kind"))).before args0 about1 = true := code_word (m := ⟨1, 3⟩) (meth := k1m3) (c := k1c3) (by decide +kernel) rfl rfl rfl (by decide +kernel)
set_option maxRecDepth 65536 in
theorem w_c13 : (Jvm.Cond.code ({ cls := "java/lang/String", name := "charAt", desc := "(I)C" } : Jvm.MethodName) jdk_42_method_56_code (2 : Nat) (Option.some Jvm.ClassFile.FieldType.char)).before args0 about1 = true := code_word (m := ⟨7, 3⟩) (meth := k7m3) (c := k7c3) (by decide +kernel) rfl rfl rfl (by decide +kernel)
set_option maxRecDepth 65536 in
theorem w_c14 : (Jvm.Cond.code ({ cls := "java/lang/String", name := "isLatin1", desc := "()Z" } : Jvm.MethodName) jdk_42_method_154_code (1 : Nat) (Option.some Jvm.ClassFile.FieldType.boolean)).before args0 about1 = true := code_word (m := ⟨7, 7⟩) (meth := k7m7) (c := k7c7) (by decide +kernel) rfl rfl rfl (by decide +kernel)
set_option maxRecDepth 65536 in
theorem w_c15 : (Jvm.Cond.code ({ cls := "java/lang/StringLatin1", name := "charAt", desc := "([BI)C" } : Jvm.MethodName) jdk_43_method_2_code (2 : Nat) (Option.some Jvm.ClassFile.FieldType.char)).before args0 about1 = true := code_word (m := ⟨11, 1⟩) (meth := k11m1) (c := k11c1) (by decide +kernel) rfl rfl rfl (by decide +kernel)
set_option maxRecDepth 65536 in
theorem w_c16 : (Jvm.Cond.code ({ cls := "java/lang/String", name := "checkIndex", desc := "(II)V" } : Jvm.MethodName) jdk_42_method_155_code (2 : Nat) (Option.none : Option Jvm.ClassFile.FieldType)).before args0 about1 = true := code_word (m := ⟨7, 8⟩) (meth := k7m8) (c := k7c8) (by decide +kernel) rfl rfl rfl (by decide +kernel)
set_option maxRecDepth 65536 in
theorem w_c17 : (Jvm.Cond.code ({ cls := "jdk/internal/util/Preconditions", name := "checkIndex", desc := "(IILjava/util/function/BiFunction;)I" } : Jvm.MethodName) jdk_41_method_11_code (3 : Nat) (Option.some Jvm.ClassFile.FieldType.int)).before args0 about1 = true := code_word (m := ⟨12, 1⟩) (meth := k12m1) (c := k12c1) (by decide +kernel) rfl rfl rfl (by decide +kernel)
set_option maxRecDepth 65536 in
theorem w_c18 : (Jvm.Cond.code ({ cls := "java/lang/StringUTF16", name := "compress", desc := "([CII)[B" } : Jvm.MethodName) jdk_52_method_16_code (6 : Nat) (Option.some (Jvm.ClassFile.FieldType.array Jvm.ClassFile.FieldType.byte))).before args0 about1 = true := code_word (m := ⟨13, 2⟩) (meth := k13m2) (c := k13c2) (by decide +kernel) rfl rfl rfl (by decide +kernel)
set_option maxRecDepth 65536 in
theorem w_c19 : (Jvm.Cond.code ({ cls := "java/lang/StringUTF16", name := "compress", desc := "([CI[BII)I" } : Jvm.MethodName) jdk_52_method_21_code (7 : Nat) (Option.some Jvm.ClassFile.FieldType.int)).before args0 about1 = true := code_word (m := ⟨13, 3⟩) (meth := k13m3) (c := k13c3) (by decide +kernel) rfl rfl rfl (by decide +kernel)
set_option maxRecDepth 65536 in
theorem w_c20 : (Jvm.Cond.code ({ cls := "java/lang/StringUTF16", name := "coderFromArrayLen", desc := "([BI)B" } : Jvm.MethodName) jdk_52_method_15_code (2 : Nat) (Option.some Jvm.ClassFile.FieldType.byte)).before args0 about1 = true := code_word (m := ⟨13, 1⟩) (meth := k13m1) (c := k13c1) (by decide +kernel) rfl rfl rfl (by decide +kernel)
set_option maxRecDepth 65536 in
theorem w_c21 : (Jvm.Cond.code ({ cls := "java/lang/Math", name := "max", desc := "(II)I" } : Jvm.MethodName) jdk_29_method_65_code (2 : Nat) (Option.some Jvm.ClassFile.FieldType.int)).before args0 about1 = true := code_word (m := ⟨14, 1⟩) (meth := k14m1) (c := k14c1) (by decide +kernel) rfl rfl rfl (by decide +kernel)
def codes1 : List Jvm.Cond := [Jvm.Cond.code x code maxLocals ret, Jvm.Cond.code ({ cls := "com/example/tempogate/tempogate/rules/KindNamedPinLaw", name := "base", desc := "(I)Ljava/lang/String;" } : Jvm.MethodName) method_2_code (1 : Nat) (Option.some (Jvm.ClassFile.FieldType.object "java/lang/String")), Jvm.Cond.code ({ cls := "java/lang/String", name := "length", desc := "()I" } : Jvm.MethodName) jdk_42_method_54_code (1 : Nat) (Option.some Jvm.ClassFile.FieldType.int), Jvm.Cond.code ({ cls := "java/lang/String", name := "coder", desc := "()B" } : Jvm.MethodName) jdk_42_method_152_code (1 : Nat) (Option.some Jvm.ClassFile.FieldType.byte), Jvm.Cond.code ({ cls := "com/example/tempogate/tempogate/rules/KindNamedPinLaw", name := "put", desc := "([CILjava/lang/String;IC)V" } : Jvm.MethodName) method_3_code (5 : Nat) (Option.none : Option Jvm.ClassFile.FieldType), Jvm.Cond.code ({ cls := "java/lang/String", name := "<init>", desc := "([C)V" } : Jvm.MethodName) jdk_42_method_3_code (2 : Nat) (Option.none : Option Jvm.ClassFile.FieldType), Jvm.Cond.code ({ cls := "java/lang/String", name := "<init>", desc := "([CIILjava/lang/Void;)V" } : Jvm.MethodName) jdk_42_method_149_code (6 : Nat) (Option.none : Option Jvm.ClassFile.FieldType), Jvm.Cond.code ({ cls := "java/lang/Object", name := "<init>", desc := "()V" } : Jvm.MethodName) object_method_1_code (1 : Nat) (Option.none : Option Jvm.ClassFile.FieldType), Jvm.Cond.code ({ cls := "com/example/tempogate/tempogate/rules/Rule$Kind", name := "named", desc := "(Ljava/lang/String;)Lcom/example/tempogate/tempogate/rules/Rule$Kind;" } : Jvm.MethodName) prog_19_method_5_code (5 : Nat) (Option.some (Jvm.ClassFile.FieldType.object "com/example/tempogate/tempogate/rules/Rule$Kind")), Jvm.Cond.code ({ cls := "com/example/tempogate/tempogate/rules/Rule$Kind", name := "values", desc := "()[Lcom/example/tempogate/tempogate/rules/Rule$Kind;" } : Jvm.MethodName) prog_19_method_1_code (0 : Nat) (Option.some (Jvm.ClassFile.FieldType.array (Jvm.ClassFile.FieldType.object "com/example/tempogate/tempogate/rules/Rule$Kind"))), Jvm.Cond.code ({ cls := "java/lang/String", name := "equals", desc := "(Ljava/lang/Object;)Z" } : Jvm.MethodName) jdk_42_method_66_code (3 : Nat) (Option.some Jvm.ClassFile.FieldType.boolean), Jvm.Cond.code ({ cls := "java/lang/StringLatin1", name := "equals", desc := "([B[B)Z" } : Jvm.MethodName) jdk_43_method_13_code (3 : Nat) (Option.some Jvm.ClassFile.FieldType.boolean), Jvm.Cond.code ({ cls := "com/example/tempogate/tempogate/rules/KindNamedPinLaw", name := "expected", desc := "(Ljava/lang/String;)Lcom/example/tempogate/tempogate/rules/Rule$Kind;" } : Jvm.MethodName) method_4_code (1 : Nat) (Option.some (Jvm.ClassFile.FieldType.object "com/example/tempogate/tempogate/rules/Rule$Kind")), Jvm.Cond.code ({ cls := "java/lang/String", name := "charAt", desc := "(I)C" } : Jvm.MethodName) jdk_42_method_56_code (2 : Nat) (Option.some Jvm.ClassFile.FieldType.char), Jvm.Cond.code ({ cls := "java/lang/String", name := "isLatin1", desc := "()Z" } : Jvm.MethodName) jdk_42_method_154_code (1 : Nat) (Option.some Jvm.ClassFile.FieldType.boolean), Jvm.Cond.code ({ cls := "java/lang/StringLatin1", name := "charAt", desc := "([BI)C" } : Jvm.MethodName) jdk_43_method_2_code (2 : Nat) (Option.some Jvm.ClassFile.FieldType.char), Jvm.Cond.code ({ cls := "java/lang/String", name := "checkIndex", desc := "(II)V" } : Jvm.MethodName) jdk_42_method_155_code (2 : Nat) (Option.none : Option Jvm.ClassFile.FieldType), Jvm.Cond.code ({ cls := "jdk/internal/util/Preconditions", name := "checkIndex", desc := "(IILjava/util/function/BiFunction;)I" } : Jvm.MethodName) jdk_41_method_11_code (3 : Nat) (Option.some Jvm.ClassFile.FieldType.int), Jvm.Cond.code ({ cls := "java/lang/StringUTF16", name := "compress", desc := "([CII)[B" } : Jvm.MethodName) jdk_52_method_16_code (6 : Nat) (Option.some (Jvm.ClassFile.FieldType.array Jvm.ClassFile.FieldType.byte)), Jvm.Cond.code ({ cls := "java/lang/StringUTF16", name := "compress", desc := "([CI[BII)I" } : Jvm.MethodName) jdk_52_method_21_code (7 : Nat) (Option.some Jvm.ClassFile.FieldType.int), Jvm.Cond.code ({ cls := "java/lang/StringUTF16", name := "coderFromArrayLen", desc := "([BI)B" } : Jvm.MethodName) jdk_52_method_15_code (2 : Nat) (Option.some Jvm.ClassFile.FieldType.byte), Jvm.Cond.code ({ cls := "java/lang/Math", name := "max", desc := "(II)I" } : Jvm.MethodName) jdk_29_method_65_code (2 : Nat) (Option.some Jvm.ClassFile.FieldType.int)]
set_option maxRecDepth 65536 in
theorem codes_eq : words1.filter isCode = codes1 := rfl
theorem w_codes : ∀ c ∈ words1.filter isCode, c.before args0 about1 = true := by
  rw [codes_eq]
  intro c hc
  simp only [codes1, List.mem_cons, List.not_mem_nil, or_false] at hc
  rcases hc with rfl | rfl | rfl | rfl | rfl | rfl | rfl | rfl | rfl | rfl | rfl | rfl | rfl | rfl | rfl | rfl | rfl | rfl | rfl | rfl | rfl | rfl
  · exact w_c0
  · exact w_c1
  · exact w_c2
  · exact w_c3
  · exact w_c4
  · exact w_c5
  · exact w_c6
  · exact w_c7
  · exact w_c8
  · exact w_c9
  · exact w_c10
  · exact w_c11
  · exact w_c12
  · exact w_c13
  · exact w_c14
  · exact w_c15
  · exact w_c16
  · exact w_c17
  · exact w_c18
  · exact w_c19
  · exact w_c20
  · exact w_c21
set_option maxRecDepth 65536 in
theorem w_t1 : (words1.take 24).all (fun c => isCode c || c.before args0 about1) = true := by decide +kernel
set_option maxRecDepth 65536 in
theorem w_t2 : ((words1.drop 24).take 24).all (fun c => isCode c || c.before args0 about1) = true := by decide +kernel
set_option maxRecDepth 65536 in
theorem w_t3 : (((words1.drop 24).drop 24).take 24).all (fun c => isCode c || c.before args0 about1) = true := by decide +kernel
set_option maxRecDepth 65536 in
theorem w_t4 : ((((words1.drop 24).drop 24).drop 24).take 24).all (fun c => isCode c || c.before args0 about1) = true := by decide +kernel
set_option maxRecDepth 65536 in
theorem w_t5 : (((((words1.drop 24).drop 24).drop 24).drop 24).take 24).all (fun c => isCode c || c.before args0 about1) = true := by decide +kernel
set_option maxRecDepth 65536 in
theorem w_t6 : (((((words1.drop 24).drop 24).drop 24).drop 24).drop 24).all (fun c => isCode c || c.before args0 about1) = true := by decide +kernel
theorem w_tables : (allAtoms (Jvm.Cond.code x code maxLocals ret :: tables_1)).before args0 about1 = true := by
  rw [allAtoms_all]
  show words1.all (fun c => c.before args0 about1) = true
  refine all_split ?_ w_codes
  rw [← List.take_append_drop 24 words1, List.all_append, w_t1, ← List.take_append_drop 24 (words1.drop 24), List.all_append, w_t2, ← List.take_append_drop 24 ((words1.drop 24).drop 24), List.all_append, w_t3, ← List.take_append_drop 24 (((words1.drop 24).drop 24).drop 24), List.all_append, w_t4, ← List.take_append_drop 24 ((((words1.drop 24).drop 24).drop 24).drop 24), List.all_append, w_t5, w_t6]
  rfl
set_option maxRecDepth 65536 in
theorem w_rest : rest_1_c.before args0 about1 = true := by decide +kernel
set_option maxRecDepth 65536 in
theorem w_case : (Jvm.Cond.and given_1 narrow_1).before args0 about1 = true := by decide +kernel
set_option maxRecDepth 65536 in
theorem w_consts : constsHeld consts_1 about1 := Jvm.Lit.constsHeldB_iff.mp (by decide +kernel)
theorem w_applies : (headSpec (Jvm.Cond.code x code maxLocals ret :: tables_1) room_1).applies x e0.platform about1 = true :=
  (Spec.applies_iff w_frames).mpr ⟨w_running, w_runnable, w_alone, w_named, w_hears, w_ripe, w_room, w_tables⟩
theorem atStart : AtStart classFile x code maxLocals ret World_1 tables_1 room_1 Calls_1 rest_1 Pre_1 launch0 p0 e0 about1 theMethod args0 below0 :=
  ⟨lists_1, trivial, launch0.admits_env _ _ _, launch0.least_env, fairChoices_fair.cas, fairChoices_fair.clock, w_frames, w_args, w_heap, w_applies, ⟨w_consts, trivial⟩, w_rest, w_case⟩
end start1
theorem witness_1 : WitnessClaimed_1 := ⟨start1.p0, start1.e0, start1.about1, start1.theMethod, start1.args0, start1.below0, start1.atStart⟩
end Jvm.Pilot.@@N@@
