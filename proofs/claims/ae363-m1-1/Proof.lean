import JvmDerived
import JvmDerived.Pilot.@@N@@Statement
import JvmDerived.Pilot.@@N@@Code
set_option linter.unusedVariables false
set_option linter.unusedSimpArgs false
namespace Jvm.RoadKit
open Sem ClassFile Op Lib Jvm.Stand Jvm.Free Jvm.LawKit
section New
variable {p : Program} {l : Launch} {e : Env} {R : Room} {s : State} {m : MethodId} {args : Array Value} {below : List Frame} {meth : Method} {c : Code} {T : State} {locs : List Loc} {cells slots : Nat}
theorem retI (X : Stand p l e R s m args below meth c T locs cells slots) (hx : p.tables.exec = Jvm.exec) {pc : Nat} {Ls : Array Slot} {z : Int32} {rest : List Value} (hret : meth.sig.returnType = some .int) (hd : decode c.code pc = .ok (.ireturn, 1)) {fs : List Frame}
    (hl : ∀ (f : JFrame) (acts : List Action), f.method = m → f.locked = none → f.entered = [] → (doReturn e (T.setTop f) acts (some (.int z))).1 = T.setFrames fs) : Steps p.tables e below (T.setTop (mkF m pc Ls (.int z :: rest))) (T.setFrames fs) :=
  retOut X hx hret rfl (Or.inl ⟨rfl, Or.inl rfl, z, rfl⟩) hd hl
theorem retL (X : Stand p l e R s m args below meth c T locs cells slots) (hx : p.tables.exec = Jvm.exec) {pc : Nat} {Ls : Array Slot} {z : Int64} {rest : List Value} (hret : meth.sig.returnType = some .long) (hd : decode c.code pc = .ok (.lreturn, 1)) {fs : List Frame}
    (hl : ∀ (f : JFrame) (acts : List Action), f.method = m → f.locked = none → f.entered = [] → (doReturn e (T.setTop f) acts (some (.long z))).1 = T.setFrames fs) : Steps p.tables e below (T.setTop (mkF m pc Ls (.long z :: rest))) (T.setFrames fs) :=
  retOut X hx hret rfl (Or.inr (Or.inl ⟨rfl, rfl, z, rfl⟩)) hd hl
theorem own_retD (X : Stand p l e R s m args below meth c T locs cells slots) (hx : p.tables.exec = Jvm.exec) {pc : Nat} {Ls : Array Slot} {z : UInt64} {rest : List Value} (hret : meth.sig.returnType = some .double) (hd : decode c.code pc = .ok (.dreturn, 1)) {fs : List Frame}
    (hl : ∀ (f : JFrame) (acts : List Action), f.method = m → f.locked = none → f.entered = [] → (doReturn e (T.setTop f) acts (some (.double z))).1 = T.setFrames fs) : Steps p.tables e below (T.setTop (mkF m pc Ls (.double z :: rest))) (T.setFrames fs) :=
  retOut X hx hret rfl (Or.inr (Or.inr (Or.inl ⟨rfl, rfl, z, rfl⟩))) hd hl
theorem own_nar {t : FieldType} {w : Value} (ht : t.isReference = true) (hw : w.isRef = true) : narrow t w = w := by
  cases t <;> first | (cases ht; done) | (cases w <;> first | rfl | (cases hw; done))
theorem retA (X : Stand p l e R s m args below meth c T locs cells slots) (hx : p.tables.exec = Jvm.exec) {pc : Nat} {Ls : Array Slot} {w : Value} {t : FieldType} {rest : List Value} (hret : meth.sig.returnType = some t) (ht : t.isReference = true) (hw : w.isRef = true) (hd : decode c.code pc = .ok (.areturn, 1)) {fs : List Frame}
    (hl : ∀ (f : JFrame) (acts : List Action), f.method = m → f.locked = none → f.entered = [] → (doReturn e (T.setTop f) acts (some w)).1 = T.setFrames fs) : Steps p.tables e below (T.setTop (mkF m pc Ls (w :: rest))) (T.setFrames fs) :=
  retOut X hx hret (own_nar ht hw) (Or.inr (Or.inr (Or.inr (Or.inr ⟨rfl, ht, hw⟩)))) hd hl
/-- the rest of a walk, as a predicate on where it stands -/
theorem own_open (K N : Nat) (Q : Option Value → Heap → List Loc → Prop) (hlocks : meth.locks = false) :
    ∃ G : State → JFrame → Prop,
      (∀ {T T' : State} {g g' : JFrame}, (∀ t, Steps p.tables e below (T'.setTop g') t → Steps p.tables e below (T.setTop g) t) → G T' g' → G T g) ∧
      (∀ {T : State} {g : JFrame} {locs : List Loc} {cells slots : Nat} {v : Option Value} {h : Heap}, Stand p l e R s m args below meth c T locs cells slots → (meth.sig.returnType = none → v = none) →
        (∀ fs, (∀ (f : JFrame) (acts : List Action), f.method = m → f.locked = none → f.entered = [] → (doReturn e (T.setTop f) acts v).1 = T.setFrames fs) → Steps p.tables e below (T.setTop g) (T.setFrames fs)) → T.heap = h → Q v h locs → cells ≤ K → slots ≤ N → G T g) ∧
      (∀ {T : State} {g : JFrame}, G T g → ∃ t o, Steps p.tables e below (T.setTop g) t ∧ t.status = .running ∧ Ended t below o ∧ ∃ v L, o = .returned v ∧ Q v t.heap L ∧ FrameEnd s o t L K N) := by
  refine ⟨fun T g => ∃ t o, Steps p.tables e below (T.setTop g) t ∧ t.status = .running ∧ Ended t below o ∧ ∃ v L, o = .returned v ∧ Q v t.heap L ∧ FrameEnd s o t L K N, ?_, ?_, fun h => h⟩
  · intro T T' g g' hs hG
    obtain ⟨t, o, h1, h2⟩ := hG
    exact ⟨t, o, hs t h1, h2⟩
  · intro T g locs cells slots v h X hv hst hT hQ hk hn
    obtain ⟨fs, hr, hrun, hended, hW, hsame⟩ := X.leave hv hlocks
    exact ⟨_, _, hst fs hr, hrun, hended, v, locs, rfl, by show Q v T.heap locs; rw [hT]; exact hQ, ⟨_, rfl⟩, hW, hsame.mono hk hn⟩
theorem own_openW (K N : Nat) (Q : Option Value → Heap → List Loc → Prop) (hlocks : meth.locks = false) :
    ∃ G : State → JFrame → Prop,
      (∀ {T T' : State} {g g' : JFrame}, (∀ t, Steps p.tables e below (T'.setTop g') t → Steps p.tables e below (T.setTop g) t) → G T' g' → G T g) ∧
      (∀ {T : State} {g : JFrame} {locs : List Loc} {cells slots : Nat} {v : Option Value} {h : Heap} {vm0 : Vm} {k0 : Nat}, Stand p l e R (s.setVm vm0) m args below meth c T locs cells slots → s.Since vm0 k0 → k0 ≤ h.size → (meth.sig.returnType = none → v = none) →
        (∀ fs, (∀ (f : JFrame) (acts : List Action), f.method = m → f.locked = none → f.entered = [] → (doReturn e (T.setTop f) acts v).1 = T.setFrames fs) → Steps p.tables e below (T.setTop g) (T.setFrames fs)) → T.heap = h → Q v h locs → cells ≤ K → slots ≤ N → G T g) ∧
      (∀ {T : State} {g : JFrame}, G T g → ∃ t o, Steps p.tables e below (T.setTop g) t ∧ t.status = .running ∧ Ended t below o ∧ ∃ v L, o = .returned v ∧ Q v t.heap L ∧ ReturnedEndW s o t L K N) := by
  refine ⟨fun T g => ∃ t o, Steps p.tables e below (T.setTop g) t ∧ t.status = .running ∧ Ended t below o ∧ ∃ v L, o = .returned v ∧ Q v t.heap L ∧ ReturnedEndW s o t L K N, ?_, ?_, fun h => h⟩
  · intro T T' g g' hs hG
    obtain ⟨t, o, h1, h2⟩ := hG
    exact ⟨t, o, hs t h1, h2⟩
  · intro T g locs cells slots v h vm0 k0 X hS hk0 hv hst hT hQ hk hn
    obtain ⟨fs, hr, hrun, hended, hW⟩ := X.leaveW hS (by rw [hT]; exact hk0) hv hlocks
    exact ⟨_, _, hst fs hr, hrun, hended, v, locs, rfl, by show Q v T.heap locs; rw [hT]; exact hQ, hW.1, hW.2.1, hW.2.2.1, hW.2.2.2.mono hk hn⟩
theorem own_at {j : Int32} {i : Nat} {vs : List Value} {d v : Value} (hj : j.toNatClampNeg = i) (h : vs.getD i d = v) : vs.getD j.toNatClampNeg d = v := hj ▸ h
theorem own_gen {n0 : Nat} (X : Stand p l e R s m args below meth c T locs cells slots) (N : Fr n0 locs) : ∃ lc, Stand p l e R s m args below meth c T lc cells slots ∧ Fr n0 lc := ⟨_, X, N⟩
theorem own_sl (a : Array Slot) : ∃ z, z = a := ⟨_, rfl⟩
theorem own_xlt {x y : Int32} : x < y ↔ x.toInt < y.toInt := Int32.lt_iff_toInt_lt
theorem own_xeq {x y : Int32} : x = y ↔ x.toInt = y.toInt := Int32.toInt_inj.symm
theorem own_xltL {x y : Int64} : x < y ↔ x.toInt < y.toInt := Int64.lt_iff_toInt_lt
theorem own_xeqL {x y : Int64} : x = y ↔ x.toInt = y.toInt := Int64.toInt_inj.symm
theorem own_old_le {Z : State} {n0 : Nat} {h : Heap} (O : Old Z n0 h) : n0 ≤ h.size := O.1 ▸ O.2.1
theorem own_oldne {Z : State} {n0 : Nat} {h : Heap} {a b : Addr} (O : Old Z n0 h) (q : a < Z.heap.size) (r : n0 ≤ b) : a ≠ b := O.ne q r
theorem own_fldI {Z : State} {args : Array Value} {t : Term} {C f d : String} {a : Addr} {k : Int32} (ht : t.eval args Z none [] Z = some (.ref a)) (h : (Cond.eq (.field t C f d) (.int k)).value args Z none Z [] = some true) : Fld Z Z.heap a C f d (.int k) := by
  refine Fld.start ?_
  rw [← fld_at (C := C) (n := f) (dd := d) ht]
  obtain ⟨x, y, h1, h2, h3, h4⟩ := cmp_v (Or.inl h)
  have h5 : y = .int k := Option.some.inj (h2.symm.trans (Term.int_eval k))
  subst h5
  obtain ⟨z, rfl⟩ := h4
  have := gotT (P := z = k) (by simp [Cond.value, h1, h2]) h
  rw [h1, this]
theorem own_fldD {Z : State} {args : Array Value} {t : Term} {C f d : String} {a : Addr} {k : Int64} {b : UInt64} (hb : k.toUInt64 = b) (ht : t.eval args Z none [] Z = some (.ref a)) (h : (Cond.eq (.field t C f d) (.op1 .bitsD (.long k))).value args Z none Z [] = some true) : Fld Z Z.heap a C f d (.double b) := by
  refine Fld.start ?_
  rw [← fld_at (C := C) (n := f) (dd := d) ht]
  obtain ⟨x, y, h1, h2, h3, h4⟩ := cmp_v (Or.inl h)
  have h5 : y = .double k.toUInt64 := Option.some.inj (h2.symm.trans rfl)
  subst h5
  obtain ⟨z, rfl⟩ := h4
  have := gotT (P := z = k.toUInt64) (by simp [Cond.value, h1, h2]) h
  rw [h1, this, hb]
theorem own_dnn {a b : UInt64} (ha : Jvm.Free.Fl.NoNaN64 a) (hb : FP.Core.DFin b) (hz : ¬ FP.Core.DZero b) : Jvm.Free.Fl.NoNaN64 (FP.ddiv a b) := by
  refine Jvm.Free.Fl.val64_no.mpr fun q => ?_
  have q2 := (FP.Core.quotient_nan FP.Core.b64 _ _).mp ((FP.Core.val64_ddiv a b).symm.trans q)
  rcases q2 with h | h | ⟨s, t, h1, h2⟩ | ⟨s, t, q, r, h1, h2⟩
  · exact Jvm.Free.Fl.val64_no.mp ha h
  · exact hb.ne_nan h
  · exact hb.ne_inf t h2
  · exact hz ⟨t, r, h2⟩
theorem own_i2dn (x : Int32) : Jvm.Free.Fl.NoNaN64 (FP.i2d x) := Jvm.Free.Fl.noNaN64_no.mpr (FP.Core.i2d_fin x).notNaN
theorem own_i2dz {x : Int32} (h : x ≠ 0) : ¬ FP.Core.DZero (FP.i2d x) := fun q => FP.Core.i2d_ne_zero h ((FP.Core.zero_bits2 _).mp q)
theorem own_and255 (x : Int32) : ¬ (x &&& (255 : Int32)) < 0 ∧ ¬ (255 : Int32) < (x &&& (255 : Int32)) := by
  have c1 := c_mask x (255 : Int32) 8 (by decide) (by decide)
  have q0 : (0 : Int32).toInt = 0 := by decide
  have q1 : (255 : Int32).toInt = 255 := by decide
  rw [own_xlt, own_xlt]
  omega
theorem own_l255 (x : Int64) : ¬ (x &&& (255 : Int64)).toInt32 < 0 ∧ ¬ (255 : Int32) < (x &&& (255 : Int64)).toInt32 := by
  have c1 := c_maskL x (255 : Int64) 8 (by decide) (by decide)
  have c2 := c_l2i (x &&& (255 : Int64))
  have r := rng32 (x &&& (255 : Int64)).toInt32
  have q0 : (0 : Int32).toInt = 0 := by decide
  have q1 : (255 : Int32).toInt = 255 := by decide
  rw [own_xlt, own_xlt]
  omega
theorem own_i2c {x : Int32} (h : ¬ x < 0 ∧ ¬ (255 : Int32) < x) : x.toUInt32.toUInt16.toUInt32.toInt32 = x := by
  have c1 := c_i2c x
  have q0 : (0 : Int32).toInt = 0 := by decide
  have q1 : (255 : Int32).toInt = 255 := by decide
  rw [own_xlt, own_xlt] at h
  rw [own_xeq]
  omega
theorem own_narc {x : Int32} (h : ¬ x < 0 ∧ ¬ (255 : Int32) < x) : nar .char x = x := own_i2c h
theorem own_nz {Z : State} {args : Array Value} {t : Term} {z : Int32} (ht : t.eval args Z none [] Z = some (.int z)) (h : (Cond.not (Cond.eq t (.int 0))).value args Z none Z [] = some true) : ¬ z = (0 : Int32) :=
  gotF (P := z = (0 : Int32)) (by simp [Cond.value, ht, Term.int_eval]) (not_v h)
theorem own_evI {Z : State} {args : Array Value} {u : Term} {k : Int32} (h : (Cond.eq u (.int k)).value args Z none Z [] = some true) : u.eval args Z none [] Z = some (.int k) := by
  obtain ⟨x, y, h1, h2, h3, h4⟩ := cmp_v (Or.inl h)
  have h5 : y = .int k := Option.some.inj (h2.symm.trans (Term.int_eval k))
  subst h5
  obtain ⟨z, rfl⟩ := h4
  have := gotT (P := z = k) (by simp [Cond.value, h1, h2]) h
  rw [h1, this]
theorem own_slotI {Z : State} {args : Array Value} {t : Term} {a : Addr} {i k : Int32} {cl : Cell} (ht : t.eval args Z none [] Z = some (.ref a)) (hc : Z.heap[a]? = some cl) (h : (Cond.eq (.elem t (.int i)) (.int k)).value args Z none Z [] = some true) : cl.slots[i.toNatClampNeg]? = some (.int k) :=
  (elem_in (own_evI h) ht (Term.int_eval i) hc).2
theorem own_lenI {Z : State} {args : Array Value} {t : Term} {a : Addr} {n : Int32} {cl : Cell} {ty : FieldType} (ht : t.eval args Z none [] Z = some (.ref a)) (A : Arr Z Z.heap a cl ty) (h : (Cond.eq (.length t) (.int n)).value args Z none Z [] = some true) : cl.slots.size < 2 ^ 31 ∧ cl.slots.size.toInt32 = n := by
  have hh := A.fin (Vm.Alike.refl _)
  have q := own_evI h
  simp only [Term.eval, ht, hh, Option.bind_eq_bind, Option.bind_some] at q
  split at q
  · rename_i hlt
    exact ⟨hlt, Value.int.inj (Option.some.inj q)⟩
  · cases q
theorem own_fldN {Z : State} {args : Array Value} {t : Term} {C f d : String} {a : Addr} (ht : t.eval args Z none [] Z = some (.ref a)) (h : (Cond.eq (.field t C f d) .null).value args Z none Z [] = some true) : Fld Z Z.heap a C f d .null := by
  refine Fld.start ?_
  rw [← fld_at (C := C) (n := f) (dd := d) ht]
  exact null_v h
theorem own_selpriv {Z s : State} {a0 args : Array Value} {y : MethodName} {n : Nat} (hZ : Z.Warmed39 s.vm) (wp : (Cond.privateMethod y).before a0 Z = true) (wi : (Cond.instanceMethod y).before a0 Z = true) (wk : (Cond.instantiable y.cls n).before a0 Z = true) (hy : y.cls ≠ "java/lang/invoke/MethodHandle" ∧ y.cls ≠ "java/lang/invoke/VarHandle") : (Cond.selects y.cls y y).before args s = true := by
  obtain ⟨c, k, h1, h2, -, h3, -⟩ := Cond.instantiable_spec (mv (s := s) (args := args) hZ wk)
  exact selects_self_of_private h1 h2 (Bool.or_eq_false_iff.mp h3).1 (Cond.privateMethod_at (mvP hZ wp (args := args))) (mv hZ wi) hy
theorem own_ne_arv {Z : State} {h : Heap} {a b : Addr} {C : String} {a0 : Array Value} {i : Nat} {k : ClassId} {ty : FieldType} {n : Int32} {vs : List Value} {dv : Value} (F : Exa Z h a C) (wi : (Cond.instantiable C i).before a0 Z = true) (V : Arv Z h b k ty n vs dv) : a ≠ b := by
  obtain ⟨cl, A, -⟩ := V
  exact ne_arr F wi A
theorem own_arr_keep {Z : State} {h h' : Heap} {a : Addr} {cl : Cell} {ty : FieldType} {ws : List Addr} (F : Arr Z h a cl ty) (K : Keep h h' ws) (q : a ∉ ws) : Arr Z h' a cl ty := ⟨K.2.1 a cl F.1 q, F.2⟩
section Arrays
variable {Z : State} {h : Heap} {a : Addr} {k : ClassId} {n : Int32} {vs : List Value} {dv : Value} {g : JFrame} {rest : List Value} {j : Int32} {v : Value}
theorem own_len {ty : FieldType} (X : Stand p l e R s m args below meth c T locs cells slots) (hx : p.tables.exec = Jvm.exec) (hZ : Z.Warmed39 s.vm) (eT : T.heap = h) (V : Arv Z h a k ty n vs dv) (hg : g.method = m) (hs : g.stack = .ref a :: rest) (hd : decode c.code g.pc = .ok (.arraylength, 1)) (target : State)
    (hr : Steps p.tables e below (T.setTop { g with pc := g.pc + 1, stack := .int n :: rest }) target) : Steps p.tables e below (T.setTop g) target := by
  obtain ⟨cl, A, -, S, N, -, -⟩ := V
  refine X.arraylength hx (by rw [eT]; exact A.1) (State.isArrayOf_alike hZ.alike A.2.1) hg hs hd target ?_
  rw [len_of S N]; exact hr
theorem own_ldI (X : Stand p l e R s m args below meth c T locs cells slots) (hx : p.tables.exec = Jvm.exec) (hZ : Z.Warmed39 s.vm) (eT : T.heap = h) (V : Arv Z h a k .int n vs dv) (hj : ¬ j < 0 ∧ j < n) (hv : vs.getD j.toNatClampNeg dv = v) (hg : g.method = m) (hs : g.stack = .int j :: .ref a :: rest) (hd : decode c.code g.pc = .ok (.iaload, 1)) (target : State)
    (hr : Steps p.tables e below (T.setTop { g with pc := g.pc + 1, stack := v :: rest }) target) : Steps p.tables e below (T.setTop g) target := by
  obtain ⟨cl, A, -, S, N, H, -⟩ := V
  have hin := inb_of S hj
  exact X.iaload hx (by rw [eT]; exact A.1) (State.isArrayOf_alike hZ.alike A.2.1) A.2.2 hin (H.at hin hv) hg hs hd target hr
theorem own_ldJ (X : Stand p l e R s m args below meth c T locs cells slots) (hx : p.tables.exec = Jvm.exec) (hZ : Z.Warmed39 s.vm) (eT : T.heap = h) (V : Arv Z h a k .long n vs dv) (hj : ¬ j < 0 ∧ j < n) (hv : vs.getD j.toNatClampNeg dv = v) (hg : g.method = m) (hs : g.stack = .int j :: .ref a :: rest) (hd : decode c.code g.pc = .ok (.laload, 1)) (target : State)
    (hr : Steps p.tables e below (T.setTop { g with pc := g.pc + 1, stack := v :: rest }) target) : Steps p.tables e below (T.setTop g) target := by
  obtain ⟨cl, A, -, S, N, H, -⟩ := V
  have hin := inb_of S hj
  exact X.laload hx (by rw [eT]; exact A.1) (State.isArrayOf_alike hZ.alike A.2.1) A.2.2 hin (H.at hin hv) hg hs hd target hr
theorem own_ldC (X : Stand p l e R s m args below meth c T locs cells slots) (hx : p.tables.exec = Jvm.exec) (hZ : Z.Warmed39 s.vm) (eT : T.heap = h) (V : Arv Z h a k .char n vs dv) (hj : ¬ j < 0 ∧ j < n) (hv : vs.getD j.toNatClampNeg dv = v) (hg : g.method = m) (hs : g.stack = .int j :: .ref a :: rest) (hd : decode c.code g.pc = .ok (.caload, 1)) (target : State)
    (hr : Steps p.tables e below (T.setTop { g with pc := g.pc + 1, stack := v :: rest }) target) : Steps p.tables e below (T.setTop g) target := by
  obtain ⟨cl, A, -, S, N, H, -⟩ := V
  have hin := inb_of S hj
  exact X.caload hx (by rw [eT]; exact A.1) (State.isArrayOf_alike hZ.alike A.2.1) A.2.2 hin (H.at hin hv) hg hs hd target hr
theorem own_ldB (X : Stand p l e R s m args below meth c T locs cells slots) (hx : p.tables.exec = Jvm.exec) (hZ : Z.Warmed39 s.vm) (eT : T.heap = h) (V : Arv Z h a k .byte n vs dv) (hj : ¬ j < 0 ∧ j < n) (hv : vs.getD j.toNatClampNeg dv = v) (hg : g.method = m) (hs : g.stack = .int j :: .ref a :: rest) (hd : decode c.code g.pc = .ok (.baload, 1)) (target : State)
    (hr : Steps p.tables e below (T.setTop { g with pc := g.pc + 1, stack := v :: rest }) target) : Steps p.tables e below (T.setTop g) target := by
  obtain ⟨cl, A, -, S, N, H, -⟩ := V
  have hin := inb_of S hj
  exact X.baloadBytes hx (by rw [eT]; exact A.1) (State.isArrayOf_alike hZ.alike A.2.1) A.2.2 hin (H.at hin hv) hg hs hd target hr
theorem own_ldR {ty : FieldType} (X : Stand p l e R s m args below meth c T locs cells slots) (hx : p.tables.exec = Jvm.exec) (hZ : Z.Warmed39 s.vm) (eT : T.heap = h) (V : Arv Z h a k ty n vs dv) (hj : ¬ j < 0 ∧ j < n) (hv : vs.getD j.toNatClampNeg dv = v) (hty : ty.isReference = true) (hg : g.method = m) (hs : g.stack = .int j :: .ref a :: rest) (hd : decode c.code g.pc = .ok (.aaload, 1)) (target : State)
    (hr : Steps p.tables e below (T.setTop { g with pc := g.pc + 1, stack := v :: rest }) target) : Steps p.tables e below (T.setTop g) target := by
  obtain ⟨cl, A, -, S, N, H, -⟩ := V
  have hin := inb_of S hj
  exact X.aaload hx (by rw [eT]; exact A.1) (State.isArrayOf_alike hZ.alike A.2.1) hty A.2.2 hin (H.at hin hv) hg hs hd target hr
theorem own_stI {x : Int32} (X : Stand p l e R s m args below meth c T locs cells slots) (hx : p.tables.exec = Jvm.exec) (hZ : Z.Warmed39 s.vm) (eT : T.heap = h) (V : Arv Z h a k .int n vs dv) (hj : ¬ j < 0 ∧ j < n) {i : Nat} (hji : j.toNatClampNeg = i) (hi : i < vs.length) (hg : g.method = m) (hs : g.stack = .int x :: .int j :: .ref a :: rest) (hd : decode c.code g.pc = .ok (.iastore, 1)) :
    ∃ T' h', Stand p l e R s m args below meth c T' (locs ++ [⟨a, j.toNatClampNeg⟩]) cells slots ∧ T'.heap = h' ∧ Wr h h' a j.toNatClampNeg (.int x) ∧ Arv Z h' a k .int n (vs.set i (.int x)) dv ∧ ∀ target, Steps p.tables e below (T'.setTop { g with pc := g.pc + 1, stack := rest }) target → Steps p.tables e below (T.setTop g) target := by
  obtain ⟨cl, A, q, S, N, H, Gf⟩ := V
  obtain ⟨T', h', X', e', W', st⟩ := stI X hx hZ eT A (inb_of S hj) hg hs hd
  exact ⟨T', h', X', e', W', Arv.set A q S N H Gf rfl W' i hji hi, st⟩
theorem own_stJ {x : Int64} (X : Stand p l e R s m args below meth c T locs cells slots) (hx : p.tables.exec = Jvm.exec) (hZ : Z.Warmed39 s.vm) (eT : T.heap = h) (V : Arv Z h a k .long n vs dv) (hj : ¬ j < 0 ∧ j < n) {i : Nat} (hji : j.toNatClampNeg = i) (hi : i < vs.length) (hg : g.method = m) (hs : g.stack = .long x :: .int j :: .ref a :: rest) (hd : decode c.code g.pc = .ok (.lastore, 1)) :
    ∃ T' h', Stand p l e R s m args below meth c T' (locs ++ [⟨a, j.toNatClampNeg⟩]) cells slots ∧ T'.heap = h' ∧ Wr h h' a j.toNatClampNeg (.long x) ∧ Arv Z h' a k .long n (vs.set i (.long x)) dv ∧ ∀ target, Steps p.tables e below (T'.setTop { g with pc := g.pc + 1, stack := rest }) target → Steps p.tables e below (T.setTop g) target := by
  obtain ⟨cl, A, q, S, N, H, Gf⟩ := V
  obtain ⟨T', h', X', e', W', st⟩ := stJ X hx hZ eT A (inb_of S hj) hg hs hd
  exact ⟨T', h', X', e', W', Arv.set A q S N H Gf rfl W' i hji hi, st⟩
theorem own_stC {x : Int32} (X : Stand p l e R s m args below meth c T locs cells slots) (hx : p.tables.exec = Jvm.exec) (hZ : Z.Warmed39 s.vm) (eT : T.heap = h) (V : Arv Z h a k .char n vs dv) (hj : ¬ j < 0 ∧ j < n) {i : Nat} (hji : j.toNatClampNeg = i) (hi : i < vs.length) (hg : g.method = m) (hs : g.stack = .int x :: .int j :: .ref a :: rest) (hd : decode c.code g.pc = .ok (.castore, 1)) :
    ∃ T' h', Stand p l e R s m args below meth c T' (locs ++ [⟨a, j.toNatClampNeg⟩]) cells slots ∧ T'.heap = h' ∧ Wr h h' a j.toNatClampNeg (.int (nar .char x)) ∧ Arv Z h' a k .char n (vs.set i (.int (nar .char x))) dv ∧ ∀ target, Steps p.tables e below (T'.setTop { g with pc := g.pc + 1, stack := rest }) target → Steps p.tables e below (T.setTop g) target := by
  obtain ⟨cl, A, q, S, N, H, Gf⟩ := V
  obtain ⟨T', h', X', e', W', st⟩ := stC X hx hZ eT A (inb_of S hj) hg hs hd
  exact ⟨T', h', X', e', W', Arv.set A q S N H Gf (fits_nar_char _) W' i hji hi, st⟩
theorem own_stB {x : Int32} (X : Stand p l e R s m args below meth c T locs cells slots) (hx : p.tables.exec = Jvm.exec) (hZ : Z.Warmed39 s.vm) (eT : T.heap = h) (V : Arv Z h a k .byte n vs dv) (hj : ¬ j < 0 ∧ j < n) {i : Nat} (hji : j.toNatClampNeg = i) (hi : i < vs.length) (hg : g.method = m) (hs : g.stack = .int x :: .int j :: .ref a :: rest) (hd : decode c.code g.pc = .ok (.bastore, 1)) :
    ∃ T' h', Stand p l e R s m args below meth c T' (locs ++ [⟨a, j.toNatClampNeg⟩]) cells slots ∧ T'.heap = h' ∧ Wr h h' a j.toNatClampNeg (.int (nar .byte x)) ∧ Arv Z h' a k .byte n (vs.set i (.int (nar .byte x))) dv ∧ ∀ target, Steps p.tables e below (T'.setTop { g with pc := g.pc + 1, stack := rest }) target → Steps p.tables e below (T.setTop g) target := by
  obtain ⟨cl, A, q, S, N, H, Gf⟩ := V
  obtain ⟨T', h', X', e', W', st⟩ := stB X hx hZ eT A (inb_of S hj) hg hs hd
  exact ⟨T', h', X', e', W', Arv.set A q S N H Gf (fits_nar_byte _) W' i hji hi, st⟩
theorem own_stR {K : String} (X : Stand p l e R s m args below meth c T locs cells slots) (hx : p.tables.exec = Jvm.exec) (hZ : Z.Warmed39 s.vm) (eT : T.heap = h) (V : Arv Z h a k (.object K) n vs dv) (hj : ¬ j < 0 ∧ j < n) {i : Nat} (hji : j.toNatClampNeg = i) (hi : i < vs.length) (hS : ∀ {cl : Cell}, Arr Z h a cl (.object K) → cl.cls = k → Sto Z h a v) (hg : g.method = m) (hs : g.stack = v :: .int j :: .ref a :: rest) (hd : decode c.code g.pc = .ok (.aastore, 1)) (hf : fits (.object K) v = true := by rfl) :
    ∃ T' h', Stand p l e R s m args below meth c T' (locs ++ [⟨a, j.toNatClampNeg⟩]) cells slots ∧ T'.heap = h' ∧ Wr h h' a j.toNatClampNeg v ∧ Arv Z h' a k (.object K) n (vs.set i v) dv ∧ ∀ target, Steps p.tables e below (T'.setTop { g with pc := g.pc + 1, stack := rest }) target → Steps p.tables e below (T.setTop g) target := by
  obtain ⟨cl, A, q, S, N, H, Gf⟩ := V
  obtain ⟨T', h', X', e', W', st⟩ := stR X hx hZ eT A (inb_of S hj) rfl (hS A q) hg hs hd
  exact ⟨T', h', X', e', W', Arv.set A q S N H Gf hf W' i hji hi, st⟩
end Arrays
end New
end Jvm.RoadKit
namespace Jvm.Pilot.@@N@@
open Jvm Jvm.ClassFile Sem Op Lib Jvm.Free Jvm.Stand Jvm.LawKit Jvm.RoadKit Bundle Jvm.Pilot.@@N@@.Jvm.D
abbrev cn_0 : String := "com/example/gapstone/gapstone/ColumnType"
abbrev cn_1 : String := "com/example/gapstone/gapstone/ColumnType$Kind"
abbrev cn_2 : String := "java/lang/String"
abbrev cn_3 : String := "java/lang/Long"
abbrev cn_4 : String := "Lcom/example/gapstone/gapstone/ColumnType$Kind;"
abbrev cn_5 : String := "com/example/gapstone/gapstone/KindIntegerPinLaw"
abbrev cn_6 : String := "jdk/internal/util/Preconditions"
abbrev cn_7 : String := "java/lang/Enum"
abbrev cn_8 : String := "java/lang/Object"
abbrev cn_9 : String := "(Ljava/lang/Object;)Ljava/lang/Object;"
abbrev cn_10 : String := "(Lcom/example/gapstone/gapstone/ColumnType$Kind;I)V"
abbrev cn_11 : String := "(I)Lcom/example/gapstone/gapstone/ColumnType$Kind;"
abbrev cn_12 : String := "(Ljava/lang/Object;)Ljava/lang/String;"
abbrev cn_13 : String := "(IIILjava/util/function/BiFunction;)I"
abbrev cn_14 : String := "(J)Ljava/lang/Long;"
abbrev cn_15 : String := "(Ljava/lang/String;)Ljava/lang/String;"
abbrev cn_16 : String := "(IILjava/util/function/BiFunction;)I"
abbrev cn_17 : String := "()Ljava/lang/String;"
abbrev cn_18 : String := "java/lang/StringLatin1"
abbrev cn_19 : String := "(II)Ljava/lang/String;"
abbrev cn_20 : String := "java/util/Objects"
abbrev cn_21 : String := "java/lang/Record"
abbrev cn_22 : String := "java/lang/Number"
abbrev cn_23 : String := "java/lang/Integer"
abbrev cn_24 : String := "(Ljava/lang/Object;)J"
abbrev cn_25 : String := "(J)Ljava/lang/String;"
abbrev cn_26 : String := "[Ljava/lang/Long;"
set_option maxRecDepth 65536
set_option maxHeartbeats 40000000
abbrev u_ : Slot := Slot.unset
abbrev s_ : Slot := Slot.second
theorem own_openX {p : Program} {l : Launch} {e : Env} {R : Room} {s : State} {m : MethodId} {args : Array Value} {below : List Frame} {meth : Method} {c : Code} {T : State} {locs : List Loc} {cells slots : Nat} (_ : Stand p l e R s m args below meth c T locs cells slots) (K N : Nat) (Q : Option Value → Heap → List Loc → Prop) (hlocks : meth.locks = false) :
    ∃ G : State → JFrame → Prop,
      (∀ {T T' : State} {g g' : JFrame}, (∀ t, Steps p.tables e below (T'.setTop g') t → Steps p.tables e below (T.setTop g) t) → G T' g' → G T g) ∧
      (∀ {T : State} {g : JFrame} {locs : List Loc} {cells slots : Nat} {v : Option Value} {h : Heap}, Stand p l e R s m args below meth c T locs cells slots → (meth.sig.returnType = none → v = none) →
        (∀ fs, (∀ (f : JFrame) (acts : List Action), f.method = m → f.locked = none → f.entered = [] → (doReturn e (T.setTop f) acts v).1 = T.setFrames fs) → Steps p.tables e below (T.setTop g) (T.setFrames fs)) → T.heap = h → Q v h locs → cells ≤ K → slots ≤ N → G T g) ∧
      (∀ {T : State} {g : JFrame}, G T g → ∃ t o, Steps p.tables e below (T.setTop g) t ∧ t.status = .running ∧ Ended t below o ∧ ∃ v L, o = .returned v ∧ Q v t.heap L ∧ FrameEnd s o t L K N) :=
  own_open (p := p) (l := l) (e := e) (R := R) (s := s) (m := m) (args := args) (below := below) (meth := meth) (c := c) K N Q hlocks
abbrev HW (Z : State) (a0 : Array Value) : Prop := ∀ d ∈ tables_1, d.before a0 Z = true
theorem own_w {Z : State} {a0 : Array Value} (hw : HW Z a0) (i : Nat) {c : Cond} (h : tables_1[i]? = some c) : c.before a0 Z = true := hw _ (List.mem_of_getElem? h)
variable {Z : State} {a0 : Array Value}
abbrev qc0 : ByteArray := method_2_code
abbrev qc1 : ByteArray := prog_3_method_4_code
abbrev qc2 : ByteArray := jdk_30_method_1_code
abbrev qc3 : ByteArray := jdk_18_method_1_code
abbrev qc4 : ByteArray := prog_2_method_1_code
abbrev qc5 : ByteArray := jdk_35_method_26_code
abbrev qc6 : ByteArray := jdk_35_method_24_code
abbrev qc7 : ByteArray := jdk_35_method_31_code
abbrev qc8 : ByteArray := prog_2_method_3_code
abbrev qc9 : ByteArray := prog_2_method_4_code
abbrev qc10 : ByteArray := jdk_37_method_2_code
abbrev qc11 : ByteArray := jdk_35_method_15_code
abbrev qc12 : ByteArray := jdk_35_method_14_code
abbrev qc13 : ByteArray := jdk_42_method_151_code
abbrev qc14 : ByteArray := jdk_35_method_12_code
abbrev qc15 : ByteArray := jdk_42_method_152_code
abbrev qc16 : ByteArray := jdk_42_method_154_code
abbrev qc17 : ByteArray := jdk_42_method_54_code
abbrev qc18 : ByteArray := jdk_41_method_12_code
abbrev qc19 : ByteArray := jdk_31_method_18_code
abbrev qc20 : ByteArray := jdk_42_method_59_code
abbrev qc21 : ByteArray := jdk_41_method_11_code
abbrev qc22 : ByteArray := jdk_42_method_155_code
abbrev qc23 : ByteArray := jdk_43_method_2_code
abbrev qc24 : ByteArray := jdk_42_method_56_code
abbrev qc25 : ByteArray := jdk_42_method_158_code
abbrev qc26 : ByteArray := jdk_42_method_92_code
abbrev qc27 : ByteArray := prog_2_method_6_code
abbrev qc28 : ByteArray := jdk_35_method_34_code
abbrev qc29 : ByteArray := prog_2_method_5_code
abbrev qc30 : ByteArray := prog_2_method_2_code
abbrev vI (x : Int32) : Slot := Slot.val (Value.int x)
abbrev vL (x : Int64) : Slot := Slot.val (Value.long x)
abbrev vR (x : Addr) : Slot := Slot.val (Value.ref x)
def own_Dig (Z : State) (a : Addr) : Prop := ∃ c : Cell, Arr Z Z.heap a c .byte ∧ c.slots.size = (100 : Int32).toNatClampNeg ∧ ∀ j : Int32, ¬ j < 0 → j < (100 : Int32) → ∃ z : Int32, c.slots[j.toNatClampNeg]? = some (.int z) ∧ ¬ ((nar .byte z) &&& (255 : Int32)) = (32 : Int32)
theorem own_arrX {Z : State} {args : Array Value} {t : Term} {a : Addr} {n : Int32} (et : t.eval args Z none [] Z = some (.ref a)) (hE : (Cond.exactly t "[B").value args Z none Z [] = some true) (wa : (Cond.arrayClass .byte).before args Z = true) (hl : (Cond.eq (.length t) (.int n)).value args Z none Z [] = some true) : ∃ c, Arr Z Z.heap a c .byte := by
  obtain ⟨a3, c3, cell, k3, e1, e2, e3, e4, e5, e6, -⟩ := Cond.exactly_spec (Cond.before_iff.mpr hE : (Cond.exactly t "[B").before args Z = true)
  cases et.symm.trans e1
  obtain ⟨c4, k4, comp, f1, f2, f3⟩ := Cond.arrayClass_spec wa
  cases (show Z.vm.findClass "[B" = some c4 from f1).symm.trans e2
  have f2' : Z.vm.classes[cell.cls]? = some k4 := by rw [e6]; exact f2
  have q := own_evI hl
  refine ⟨cell, e3, ⟨(fun q r => by rw [r] at e5; cases e5), k4, f2', comp, f3⟩, fun hu => ?_⟩
  have hn : Z.arrayAt? a = none := by simp [State.arrayAt?, e3, f2', hu]
  simp [Term.eval, et, hn] at q
theorem own_digP (z : Int32) (h1 : ¬ z < (48 : Int32)) (h2 : ¬ (57 : Int32) < z) : ¬ ((nar .byte z) &&& (255 : Int32)) = (32 : Int32) := by
  have h : z = 48 ∨ z = 49 ∨ z = 50 ∨ z = 51 ∨ z = 52 ∨ z = 53 ∨ z = 54 ∨ z = 55 ∨ z = 56 ∨ z = 57 := by
    simp only [own_xlt, own_xeq] at *
    have q : (48 : Int32).toInt = 48 ∧ (49 : Int32).toInt = 49 ∧ (50 : Int32).toInt = 50 ∧ (51 : Int32).toInt = 51 ∧ (52 : Int32).toInt = 52 ∧ (53 : Int32).toInt = 53 ∧ (54 : Int32).toInt = 54 ∧ (55 : Int32).toInt = 55 ∧ (56 : Int32).toInt = 56 ∧ (57 : Int32).toInt = 57 := by decide
    omega
  rcases h with rfl | rfl | rfl | rfl | rfl | rfl | rfl | rfl | rfl | rfl <;> decide
theorem own_digS {Z : State} {args : Array Value} {t F : Term} {a : Addr} (et : ∀ idx, t.eval args Z none idx Z = some (.ref a)) (hE : (Cond.exactly t "[B").value args Z none Z [] = some true) (wa : (Cond.arrayClass .byte).before args Z = true) (hl : (Cond.eq (.length t) (.int 100)).value args Z none Z [] = some true)
    (hA : (Cond.all t (.eq (.elem t (.index 0)) F)).value args Z none Z [] = some true) (hF : ∀ j : Int32, ¬ j < 0 → j < (100 : Int32) → ∃ z, F.eval args Z none [j.toNatClampNeg] Z = some (.int z) ∧ ¬ z < (48 : Int32) ∧ ¬ (57 : Int32) < z) : own_Dig Z a := by
  obtain ⟨c, A⟩ := own_arrX (et []) hE wa hl
  obtain ⟨q1, q2⟩ := own_lenI (et []) A hl
  have S : c.slots.size = (100 : Int32).toNatClampNeg := by rw [← q2]; simp only [Int32.toNatClampNeg, len_toInt q1]; rfl
  refine ⟨c, A, S, fun j h0 h1 => ?_⟩
  have hin := inb_of S ⟨h0, h1⟩
  obtain ⟨z, e1, e2, e3⟩ := hF j h0 h1
  have u := Cond.all_elim (et []) (A.fin (Vm.Alike.refl _)) hA j.toNatClampNeg (Nat.lt_of_not_le fun x => hin (Or.inr x))
  exact ⟨z, (elem_f (et _) (idx_at h0) (A.fin (Vm.Alike.refl _)) h0).symm.trans (eqv_i e1 u), own_digP z e2 e3⟩
theorem own_remF {Z : State} {args : Array Value} (j : Int32) (h0 : ¬ j < 0) (h1 : j < (100 : Int32)) : ∃ z, (Term.add (.int 48) (.rem (.index 0) (.int 10))).eval args Z none [j.toNatClampNeg] Z = some (.int z) ∧ ¬ z < (48 : Int32) ∧ ¬ (57 : Int32) < z := by
  refine ⟨48 + j % 10, ?_, ?_⟩
  · simp [Term.eval]
    rw [(back32 h0).1]
  have c1 := c_irem j (10 : Int32) 10 (by decide)
  have c2 := c_iadd (48 : Int32) (j % 10)
  have r1 := rng32 (48 + j % 10)
  have q1 : (48 : Int32).toInt = 48 := by decide
  have q2 : (57 : Int32).toInt = 57 := by decide
  have q3 : (0 : Int32).toInt = 0 := by decide
  simp only [own_xlt] at *
  omega
theorem own_divF {Z : State} {args : Array Value} (j : Int32) (h0 : ¬ j < 0) (h1 : j < (100 : Int32)) : ∃ z, (Term.add (.int 48) (.div (.index 0) (.int 10))).eval args Z none [j.toNatClampNeg] Z = some (.int z) ∧ ¬ z < (48 : Int32) ∧ ¬ (57 : Int32) < z := by
  refine ⟨48 + j / 10, ?_, ?_⟩
  · simp [Term.eval]
    rw [(back32 h0).1]
  have c1 := c_idiv j (10 : Int32) 10 (by decide) (by decide)
  have c2 := c_iadd (48 : Int32) (j / 10)
  have r1 := rng32 (48 + j / 10)
  have q1 : (48 : Int32).toInt = 48 := by decide
  have q2 : (57 : Int32).toInt = 57 := by decide
  have q3 : (0 : Int32).toInt = 0 := by decide
  have q4 : (100 : Int32).toInt = 100 := by decide
  simp only [own_xlt] at *
  omega
section Dig
variable {p : Program} {l : Launch} {e : Env} {R : Room} {s : State} {m : MethodId} {args : Array Value} {below : List Frame} {meth : Method} {c : Code} {T : State} {locs : List Loc} {cells slots : Nat} {Z : State} {h : Heap} {a : Addr} {g : JFrame} {rest : List Value} {j n : Int32}
theorem own_ldDig (X : Stand p l e R s m args below meth c T locs cells slots) (hx : p.tables.exec = Jvm.exec) (hZ : Z.Warmed39 s.vm) (eT : T.heap = h) (F : own_Dig Z a) (E : Ext Z.heap h) (hj : ¬ j < 0 ∧ j < (100 : Int32)) (hg : g.method = m) (hs : g.stack = .int j :: .ref a :: rest) (hd : decode c.code g.pc = .ok (.baload, 1)) :
    ∃ z : Int32, ¬ ((nar .byte z) &&& (255 : Int32)) = (32 : Int32) ∧ ∀ target, Steps p.tables e below (T.setTop { g with pc := g.pc + 1, stack := .int z :: rest }) target → Steps p.tables e below (T.setTop g) target := by
  obtain ⟨cl, A, S, H⟩ := F
  obtain ⟨z, hz, hP⟩ := H j hj.1 hj.2
  exact ⟨z, hP, fun target hr => X.baloadBytes hx (by rw [eT]; exact (A.ext E).1) (State.isArrayOf_alike hZ.alike A.2.1) A.2.2 (inb_of S hj) hz hg hs hd target hr⟩
theorem own_ldBx {K d : String} {val : Int32 → Value} (X : Stand p l e R s m args below meth c T locs cells slots) (hx : p.tables.exec = Jvm.exec) (hZ : Z.Warmed39 s.vm) (eT : T.heap = h) (F : ∃ cl, Bxs Z a cl K d n val) (E : Ext Z.heap h) (hj : ¬ j < 0 ∧ j < n) (hg : g.method = m) (hs : g.stack = .int j :: .ref a :: rest) (hd : decode c.code g.pc = .ok (.aaload, 1)) :
    ∃ b : Addr, Exa Z h b K ∧ Fld Z h b K "value" d (val j) ∧ ∀ target, Steps p.tables e below (T.setTop { g with pc := g.pc + 1, stack := .ref b :: rest }) target → Steps p.tables e below (T.setTop g) target := by
  obtain ⟨cl, A, S, N, H⟩ := F
  have hin := inb_of S hj
  obtain ⟨b, e1, e2, e3⟩ := H j hin
  exact ⟨b, Exa.ext E e2, Fld.ext E e3, fun target hr => X.aaload hx (by rw [eT]; exact (A.ext E).1) (State.isArrayOf_alike hZ.alike A.2.1) rfl A.2.2 hin e1 hg hs hd target hr⟩
end Dig
theorem own_nosub {Z : State} {a0 : Array Value} {K O D : String} {n : Nat} (w : (Cond.superclass D O).before a0 Z = true) (wo : (Cond.noSuperclass O).before a0 Z = true) (wk : (Cond.instantiable K n).before a0 Z = true) (h1 : D ≠ K) (h2 : O ≠ K) : ∃ c t, Z.vm.findClass D = some c ∧ Z.vm.findClass K = some t ∧ Z.vm.assignable c t = false := by
  obtain ⟨t, k', g0, g2, g5, g6, -, -⟩ := Cond.instantiable_spec wk
  have g7 : k'.isInterface = false := (Bool.or_eq_false_iff.mp g6).1
  obtain ⟨c0, ko, u1, u2, u3, -, -⟩ := Cond.noSuperclass_spec wo
  obtain ⟨c, v0⟩ := found_sup w
  obtain ⟨p, k, kp, v1, v2, v3, v4, v5, -, v7⟩ := Cond.superclass_spec v0 w
  cases u1.symm.trans v1
  have ne1 := ids_ne v0 g0 h1
  have ne2 := ids_ne u1 g0 h2
  have n2 : ∀ fuel, Z.vm.isSubclassAux fuel c0 t = false := fun fuel => by
    cases fuel with
    | zero => rfl
    | succ f => simp [Vm.isSubclassAux, ne2, u2, u3]
  have n3 : ∀ fuel, Z.vm.isSubclassAux fuel c t = false := fun fuel => by
    cases fuel with
    | zero => rfl
    | succ f => simp [Vm.isSubclassAux, ne1, v2, v4, n2]
  refine ⟨c, t, v0, g0, ?_⟩
  show Z.vm.assignableAux (255 + 1) c t = false
  simp [Vm.assignableAux, ne1, v2, g2, v5, g5, g7, Vm.isSubclass, n3]
theorem own_shr0 (n : Int32) : n >>> ((0 : Int32) &&& 31) = n := by
  have c1 := c_ishr n (0 : Int32) 0 (by decide)
  rw [own_xeq, c1]
  simp
theorem own_val {q : Int64} (h1 : ¬ q < (-128 : Int64)) (h2 : ¬ (127 : Int64) < q) : (¬ (q.toInt32 + (128 : Int32)) < 0 ∧ (q.toInt32 + (128 : Int32)) < (256 : Int32)) ∧ ((q.toInt32 + (128 : Int32)) - (128 : Int32)).toInt64 = q := by
  have c1 := c_l2i q
  have c2 := c_iadd q.toInt32 (128 : Int32)
  have c3 := c_isub (q.toInt32 + (128 : Int32)) (128 : Int32)
  have c4 := c_i2l ((q.toInt32 + (128 : Int32)) - (128 : Int32))
  have r1 := rng32 q.toInt32
  have r2 := rng32 (q.toInt32 + (128 : Int32))
  have r3 := rng32 ((q.toInt32 + (128 : Int32)) - (128 : Int32))
  have q1 : (128 : Int32).toInt = 128 := by decide
  have q2 : (256 : Int32).toInt = 256 := by decide
  have q3 : (0 : Int32).toInt = 0 := by decide
  have q4 : (-128 : Int64).toInt = -128 := by decide
  have q5 : (127 : Int64).toInt = 127 := by decide
  simp only [own_xlt, own_xltL, own_xeqL] at *
  omega
theorem own_rt (x : Int32) : x.toInt64 = (x.toInt64.toInt32).toInt64 := by
  have c1 := c_i2l x
  have c2 := c_l2i x.toInt64
  have c3 := c_i2l x.toInt64.toInt32
  have r1 := rng32 x
  have r2 := rng32 x.toInt64.toInt32
  rw [own_xeqL]
  omega
theorem own_rg (x : Int32) : -2147483648 ≤ x.toInt64.toInt ∧ x.toInt64.toInt ≤ 2147483647 := by
  have c1 := c_i2l x
  have r1 := rng32 x
  omega
theorem own_and3 (k : Int32) : (k &&& (3 : Int32)) = (0 : Int32) ∨ (k &&& (3 : Int32)) = (1 : Int32) ∨ (k &&& (3 : Int32)) = (2 : Int32) ∨ (k &&& (3 : Int32)) = (3 : Int32) := by
  have c1 := c_mask k (3 : Int32) 2 (by decide) (by decide)
  have q0 : (0 : Int32).toInt = 0 := by decide
  have q1 : (1 : Int32).toInt = 1 := by decide
  have q2 : (2 : Int32).toInt = 2 := by decide
  have q3 : (3 : Int32).toInt = 3 := by decide
  simp only [own_xeq, q0, q1, q2, q3]
  omega
def own_last (n : Int32) (vs : List Value) (z : Int32) : Prop := (¬ n < (1 : Int32) ∧ ¬ (11 : Int32) < n) ∧ vs.getD (n - (1 : Int32)).toNatClampNeg (.int 0) = .int z ∧ ¬ (z &&& (255 : Int32)) = (32 : Int32)
theorem own_nb {n : Int32} {vs : List Value} {z : Int32} (h : own_last n vs z) : ¬ n < (0 : Int32) ∧ (0 : Int32) < n ∧ ¬ (n - (1 : Int32)) < (0 : Int32) ∧ (n - (1 : Int32)) < n ∧ ¬ (11 : Int32) < (n - (0 : Int32)) := by
  have h1 := h.1
  have c1 := c_isub n (1 : Int32)
  have c2 := c_isub n (0 : Int32)
  have r1 := rng32 n
  have r2 := rng32 (n - (1 : Int32))
  have r3 := rng32 (n - (0 : Int32))
  have q0 : (0 : Int32).toInt = 0 := by decide
  have q1 : (1 : Int32).toInt = 1 := by decide
  have q2 : (11 : Int32).toInt = 11 := by decide
  simp only [own_xlt] at *
  omega
theorem own_ex {α : Type} (a : α) : ∃ z : α, z = a := ⟨_, rfl⟩
theorem own_n {a b : Int32} {k : Int} (ha : a.toInt = k) (h : b.toInt ≤ k) : ¬ a < b := by
  rw [own_xlt, ha]
  omega
theorem own_y {a b : Int32} {k : Int} (ha : a.toInt = k) (h : k < b.toInt) : a < b := by
  rw [own_xlt, ha]
  omega
theorem own_nL {a b : Int64} {k : Int} (ha : a.toInt = k) (h : b.toInt ≤ k) : ¬ a < b := by
  rw [own_xltL, ha]
  omega
theorem own_yL {a b : Int64} {k : Int} (ha : a.toInt = k) (h : k < b.toInt) : a < b := by
  rw [own_xltL, ha]
  omega
theorem own_nr {a b : Int32} {k : Int} (ha : a.toInt = k) (h : k ≤ b.toInt) : ¬ b < a := by
  rw [own_xlt, ha]
  omega
theorem own_yr {a b : Int32} {k : Int} (ha : a.toInt = k) (h : b.toInt < k) : b < a := by
  rw [own_xlt, ha]
  omega
theorem own_hj {r : Int32} (h : 0 ≤ r.toInt ∧ r.toInt < 100) : ¬ r < 0 ∧ r < (100 : Int32) := by
  have k1 : (0 : Int32).toInt = 0 := by decide
  have k2 : (100 : Int32).toInt = 100 := by decide
  simp only [own_xlt]
  omega
theorem own_ng (y : Int32) (h : -100 < y.toInt ∧ y.toInt ≤ 0) : 0 ≤ (-y).toInt ∧ (-y).toInt < 100 := by
  have c1 := c_ineg y
  have r1 := rng32 (-y)
  omega
theorem own_bq {q v : Int32} (hq : q = v / (100 : Int32)) (h : v.toInt < 0) : q.toInt = -((-v.toInt) / 100) := by
  rw [hq]
  exact (c_idiv v (100 : Int32) 100 (by decide) (by decide)).2 h
theorem own_bqL {q v : Int64} (hq : q = v / (100 : Int64)) (h : v.toInt < 0) : q.toInt = -((-v.toInt) / 100) := by
  rw [hq]
  exact (c_ldiv v (100 : Int64) 100 (by decide) (by decide)).2 h
theorem own_br {q v r : Int32} (hq : q.toInt = -((-v.toInt) / 100)) (h : v.toInt < 0) (hr : r = (q * (100 : Int32)) - v) : 0 ≤ r.toInt ∧ r.toInt < 100 := by
  rw [hr]
  have c1 := c_imul q (100 : Int32)
  rw [(by decide : (100 : Int32).toInt = 100)] at c1
  have c2 := c_isub (q * (100 : Int32)) v
  have r0 := rng32 v
  have r1 := rng32 (q * (100 : Int32))
  have r2 := rng32 ((q * (100 : Int32)) - v)
  omega
theorem own_brL {q v : Int64} {r : Int32} (hq : q.toInt = -((-v.toInt) / 100)) (h : -4294967296 < v.toInt ∧ v.toInt < 0) (hr : r = ((q * (100 : Int64)) - v).toInt32) : 0 ≤ r.toInt ∧ r.toInt < 100 := by
  rw [hr]
  have c1 := c_lmul q (100 : Int64)
  rw [(by decide : (100 : Int64).toInt = 100)] at c1
  have c2 := c_lsub (q * (100 : Int64)) v
  have r1 := rng64 (q * (100 : Int64))
  have r2 := rng64 ((q * (100 : Int64)) - v)
  have c3 := c_l2i ((q * (100 : Int64)) - v)
  have r3 := rng32 ((q * (100 : Int64)) - v).toInt32
  omega
def own_St (Z : State) (w_0 : Addr) (w_1 : Addr) (w_2 : Addr) (w_3 : Addr) (w_4 : Addr) (w_5 : Addr) (w_6 : Addr) (w_7 : Int32) (w_8 : Value) : Prop := (Sta Z Z.heap cn_1 "INT" cn_4 (.ref w_0)) ∧ (Exa Z Z.heap w_0 cn_1) ∧ (Sta Z Z.heap cn_1 "CHAR" cn_4 (.ref w_1)) ∧ (Exa Z Z.heap w_1 cn_1) ∧ (Sta Z Z.heap cn_1 "BIGINT" cn_4 (.ref w_2)) ∧ (Exa Z Z.heap w_2 cn_1) ∧ (Sta Z Z.heap cn_1 "VARCHAR" cn_4 (.ref w_3)) ∧ (Exa Z Z.heap w_3 cn_1) ∧ (Sta Z Z.heap "java/lang/Long$LongCache" "cache" cn_26 (.ref w_4)) ∧ (Exa Z Z.heap w_4 cn_26) ∧ (Sta Z Z.heap cn_23 "DigitOnes" "[B" (.ref w_5)) ∧ (Exa Z Z.heap w_5 "[B") ∧ (Sta Z Z.heap cn_23 "DigitTens" "[B" (.ref w_6)) ∧ (Exa Z Z.heap w_6 "[B") ∧ (Fld Z Z.heap w_0 cn_7 "ordinal" "I" (.int 0)) ∧ (Fld Z Z.heap w_1 cn_7 "ordinal" "I" (.int 2)) ∧ (Fld Z Z.heap w_2 cn_7 "ordinal" "I" (.int 1)) ∧ (Fld Z Z.heap w_3 cn_7 "ordinal" "I" (.int 3)) ∧ (Sta Z Z.heap cn_2 "COMPACT_STRINGS" "Z" (.int w_7)) ∧ (Sta Z Z.heap cn_6 "SIOOBE_FORMATTER" "Ljava/util/function/BiFunction;" w_8) ∧ (w_8.isRef = true) ∧ (¬ w_7 = (0 : Int32)) ∧ (∃ cl, Bxs Z w_4 cl cn_3 "J" (256 : Int32) (fun j => .long (j - (128 : Int32)).toInt64)) ∧ (own_Dig Z w_5) ∧ (own_Dig Z w_6)
theorem own_St.k0 {Z : State} {w_0 : Addr} {w_1 : Addr} {w_2 : Addr} {w_3 : Addr} {w_4 : Addr} {w_5 : Addr} {w_6 : Addr} {w_7 : Int32} {w_8 : Value} (ST : own_St Z w_0 w_1 w_2 w_3 w_4 w_5 w_6 w_7 w_8) : Sta Z Z.heap cn_1 "INT" cn_4 (.ref w_0) := ST.1
theorem own_St.k1 {Z : State} {w_0 : Addr} {w_1 : Addr} {w_2 : Addr} {w_3 : Addr} {w_4 : Addr} {w_5 : Addr} {w_6 : Addr} {w_7 : Int32} {w_8 : Value} (ST : own_St Z w_0 w_1 w_2 w_3 w_4 w_5 w_6 w_7 w_8) : Exa Z Z.heap w_0 cn_1 := ST.2.1
theorem own_St.k2 {Z : State} {w_0 : Addr} {w_1 : Addr} {w_2 : Addr} {w_3 : Addr} {w_4 : Addr} {w_5 : Addr} {w_6 : Addr} {w_7 : Int32} {w_8 : Value} (ST : own_St Z w_0 w_1 w_2 w_3 w_4 w_5 w_6 w_7 w_8) : Sta Z Z.heap cn_1 "CHAR" cn_4 (.ref w_1) := ST.2.2.1
theorem own_St.k3 {Z : State} {w_0 : Addr} {w_1 : Addr} {w_2 : Addr} {w_3 : Addr} {w_4 : Addr} {w_5 : Addr} {w_6 : Addr} {w_7 : Int32} {w_8 : Value} (ST : own_St Z w_0 w_1 w_2 w_3 w_4 w_5 w_6 w_7 w_8) : Exa Z Z.heap w_1 cn_1 := ST.2.2.2.1
theorem own_St.k4 {Z : State} {w_0 : Addr} {w_1 : Addr} {w_2 : Addr} {w_3 : Addr} {w_4 : Addr} {w_5 : Addr} {w_6 : Addr} {w_7 : Int32} {w_8 : Value} (ST : own_St Z w_0 w_1 w_2 w_3 w_4 w_5 w_6 w_7 w_8) : Sta Z Z.heap cn_1 "BIGINT" cn_4 (.ref w_2) := ST.2.2.2.2.1
theorem own_St.k5 {Z : State} {w_0 : Addr} {w_1 : Addr} {w_2 : Addr} {w_3 : Addr} {w_4 : Addr} {w_5 : Addr} {w_6 : Addr} {w_7 : Int32} {w_8 : Value} (ST : own_St Z w_0 w_1 w_2 w_3 w_4 w_5 w_6 w_7 w_8) : Exa Z Z.heap w_2 cn_1 := ST.2.2.2.2.2.1
theorem own_St.k6 {Z : State} {w_0 : Addr} {w_1 : Addr} {w_2 : Addr} {w_3 : Addr} {w_4 : Addr} {w_5 : Addr} {w_6 : Addr} {w_7 : Int32} {w_8 : Value} (ST : own_St Z w_0 w_1 w_2 w_3 w_4 w_5 w_6 w_7 w_8) : Sta Z Z.heap cn_1 "VARCHAR" cn_4 (.ref w_3) := ST.2.2.2.2.2.2.1
theorem own_St.k7 {Z : State} {w_0 : Addr} {w_1 : Addr} {w_2 : Addr} {w_3 : Addr} {w_4 : Addr} {w_5 : Addr} {w_6 : Addr} {w_7 : Int32} {w_8 : Value} (ST : own_St Z w_0 w_1 w_2 w_3 w_4 w_5 w_6 w_7 w_8) : Exa Z Z.heap w_3 cn_1 := ST.2.2.2.2.2.2.2.1
theorem own_St.k8 {Z : State} {w_0 : Addr} {w_1 : Addr} {w_2 : Addr} {w_3 : Addr} {w_4 : Addr} {w_5 : Addr} {w_6 : Addr} {w_7 : Int32} {w_8 : Value} (ST : own_St Z w_0 w_1 w_2 w_3 w_4 w_5 w_6 w_7 w_8) : Sta Z Z.heap "java/lang/Long$LongCache" "cache" cn_26 (.ref w_4) := ST.2.2.2.2.2.2.2.2.1
theorem own_St.k9 {Z : State} {w_0 : Addr} {w_1 : Addr} {w_2 : Addr} {w_3 : Addr} {w_4 : Addr} {w_5 : Addr} {w_6 : Addr} {w_7 : Int32} {w_8 : Value} (ST : own_St Z w_0 w_1 w_2 w_3 w_4 w_5 w_6 w_7 w_8) : Exa Z Z.heap w_4 cn_26 := ST.2.2.2.2.2.2.2.2.2.1
theorem own_St.k10 {Z : State} {w_0 : Addr} {w_1 : Addr} {w_2 : Addr} {w_3 : Addr} {w_4 : Addr} {w_5 : Addr} {w_6 : Addr} {w_7 : Int32} {w_8 : Value} (ST : own_St Z w_0 w_1 w_2 w_3 w_4 w_5 w_6 w_7 w_8) : Sta Z Z.heap cn_23 "DigitOnes" "[B" (.ref w_5) := ST.2.2.2.2.2.2.2.2.2.2.1
theorem own_St.k11 {Z : State} {w_0 : Addr} {w_1 : Addr} {w_2 : Addr} {w_3 : Addr} {w_4 : Addr} {w_5 : Addr} {w_6 : Addr} {w_7 : Int32} {w_8 : Value} (ST : own_St Z w_0 w_1 w_2 w_3 w_4 w_5 w_6 w_7 w_8) : Exa Z Z.heap w_5 "[B" := ST.2.2.2.2.2.2.2.2.2.2.2.1
theorem own_St.k12 {Z : State} {w_0 : Addr} {w_1 : Addr} {w_2 : Addr} {w_3 : Addr} {w_4 : Addr} {w_5 : Addr} {w_6 : Addr} {w_7 : Int32} {w_8 : Value} (ST : own_St Z w_0 w_1 w_2 w_3 w_4 w_5 w_6 w_7 w_8) : Sta Z Z.heap cn_23 "DigitTens" "[B" (.ref w_6) := ST.2.2.2.2.2.2.2.2.2.2.2.2.1
theorem own_St.k13 {Z : State} {w_0 : Addr} {w_1 : Addr} {w_2 : Addr} {w_3 : Addr} {w_4 : Addr} {w_5 : Addr} {w_6 : Addr} {w_7 : Int32} {w_8 : Value} (ST : own_St Z w_0 w_1 w_2 w_3 w_4 w_5 w_6 w_7 w_8) : Exa Z Z.heap w_6 "[B" := ST.2.2.2.2.2.2.2.2.2.2.2.2.2.1
theorem own_St.k14 {Z : State} {w_0 : Addr} {w_1 : Addr} {w_2 : Addr} {w_3 : Addr} {w_4 : Addr} {w_5 : Addr} {w_6 : Addr} {w_7 : Int32} {w_8 : Value} (ST : own_St Z w_0 w_1 w_2 w_3 w_4 w_5 w_6 w_7 w_8) : Fld Z Z.heap w_0 cn_7 "ordinal" "I" (.int 0) := ST.2.2.2.2.2.2.2.2.2.2.2.2.2.2.1
theorem own_St.k15 {Z : State} {w_0 : Addr} {w_1 : Addr} {w_2 : Addr} {w_3 : Addr} {w_4 : Addr} {w_5 : Addr} {w_6 : Addr} {w_7 : Int32} {w_8 : Value} (ST : own_St Z w_0 w_1 w_2 w_3 w_4 w_5 w_6 w_7 w_8) : Fld Z Z.heap w_1 cn_7 "ordinal" "I" (.int 2) := ST.2.2.2.2.2.2.2.2.2.2.2.2.2.2.2.1
theorem own_St.k16 {Z : State} {w_0 : Addr} {w_1 : Addr} {w_2 : Addr} {w_3 : Addr} {w_4 : Addr} {w_5 : Addr} {w_6 : Addr} {w_7 : Int32} {w_8 : Value} (ST : own_St Z w_0 w_1 w_2 w_3 w_4 w_5 w_6 w_7 w_8) : Fld Z Z.heap w_2 cn_7 "ordinal" "I" (.int 1) := ST.2.2.2.2.2.2.2.2.2.2.2.2.2.2.2.2.1
theorem own_St.k17 {Z : State} {w_0 : Addr} {w_1 : Addr} {w_2 : Addr} {w_3 : Addr} {w_4 : Addr} {w_5 : Addr} {w_6 : Addr} {w_7 : Int32} {w_8 : Value} (ST : own_St Z w_0 w_1 w_2 w_3 w_4 w_5 w_6 w_7 w_8) : Fld Z Z.heap w_3 cn_7 "ordinal" "I" (.int 3) := ST.2.2.2.2.2.2.2.2.2.2.2.2.2.2.2.2.2.1
theorem own_St.k18 {Z : State} {w_0 : Addr} {w_1 : Addr} {w_2 : Addr} {w_3 : Addr} {w_4 : Addr} {w_5 : Addr} {w_6 : Addr} {w_7 : Int32} {w_8 : Value} (ST : own_St Z w_0 w_1 w_2 w_3 w_4 w_5 w_6 w_7 w_8) : Sta Z Z.heap cn_2 "COMPACT_STRINGS" "Z" (.int w_7) := ST.2.2.2.2.2.2.2.2.2.2.2.2.2.2.2.2.2.2.1
theorem own_St.k19 {Z : State} {w_0 : Addr} {w_1 : Addr} {w_2 : Addr} {w_3 : Addr} {w_4 : Addr} {w_5 : Addr} {w_6 : Addr} {w_7 : Int32} {w_8 : Value} (ST : own_St Z w_0 w_1 w_2 w_3 w_4 w_5 w_6 w_7 w_8) : Sta Z Z.heap cn_6 "SIOOBE_FORMATTER" "Ljava/util/function/BiFunction;" w_8 := ST.2.2.2.2.2.2.2.2.2.2.2.2.2.2.2.2.2.2.2.1
theorem own_St.k20 {Z : State} {w_0 : Addr} {w_1 : Addr} {w_2 : Addr} {w_3 : Addr} {w_4 : Addr} {w_5 : Addr} {w_6 : Addr} {w_7 : Int32} {w_8 : Value} (ST : own_St Z w_0 w_1 w_2 w_3 w_4 w_5 w_6 w_7 w_8) : w_8.isRef = true := ST.2.2.2.2.2.2.2.2.2.2.2.2.2.2.2.2.2.2.2.2.1
theorem own_St.k21 {Z : State} {w_0 : Addr} {w_1 : Addr} {w_2 : Addr} {w_3 : Addr} {w_4 : Addr} {w_5 : Addr} {w_6 : Addr} {w_7 : Int32} {w_8 : Value} (ST : own_St Z w_0 w_1 w_2 w_3 w_4 w_5 w_6 w_7 w_8) : ¬ w_7 = (0 : Int32) := ST.2.2.2.2.2.2.2.2.2.2.2.2.2.2.2.2.2.2.2.2.2.1
theorem own_St.k22 {Z : State} {w_0 : Addr} {w_1 : Addr} {w_2 : Addr} {w_3 : Addr} {w_4 : Addr} {w_5 : Addr} {w_6 : Addr} {w_7 : Int32} {w_8 : Value} (ST : own_St Z w_0 w_1 w_2 w_3 w_4 w_5 w_6 w_7 w_8) : ∃ cl, Bxs Z w_4 cl cn_3 "J" (256 : Int32) (fun j => .long (j - (128 : Int32)).toInt64) := ST.2.2.2.2.2.2.2.2.2.2.2.2.2.2.2.2.2.2.2.2.2.2.1
theorem own_St.k23 {Z : State} {w_0 : Addr} {w_1 : Addr} {w_2 : Addr} {w_3 : Addr} {w_4 : Addr} {w_5 : Addr} {w_6 : Addr} {w_7 : Int32} {w_8 : Value} (ST : own_St Z w_0 w_1 w_2 w_3 w_4 w_5 w_6 w_7 w_8) : own_Dig Z w_5 := ST.2.2.2.2.2.2.2.2.2.2.2.2.2.2.2.2.2.2.2.2.2.2.2.1
theorem own_St.k24 {Z : State} {w_0 : Addr} {w_1 : Addr} {w_2 : Addr} {w_3 : Addr} {w_4 : Addr} {w_5 : Addr} {w_6 : Addr} {w_7 : Int32} {w_8 : Value} (ST : own_St Z w_0 w_1 w_2 w_3 w_4 w_5 w_6 w_7 w_8) : own_Dig Z w_6 := ST.2.2.2.2.2.2.2.2.2.2.2.2.2.2.2.2.2.2.2.2.2.2.2.2
theorem ww6 (hw : HW Z a0) : Cond.before (Cond.laysStatic cn_1 "INT" cn_4) a0 Z = true := own_w hw 6 rfl
theorem ww5 (hw : HW Z a0) : Cond.before (Cond.initialized cn_1) a0 Z = true := own_w hw 5 rfl
theorem ww71 (hw : HW Z a0) : Cond.before (Cond.laysStatic cn_1 "CHAR" cn_4) a0 Z = true := own_w hw 71 rfl
theorem ww73 (hw : HW Z a0) : Cond.before (Cond.laysStatic cn_1 "BIGINT" cn_4) a0 Z = true := own_w hw 73 rfl
theorem ww187 (hw : HW Z a0) : Cond.before (Cond.laysStatic cn_1 "VARCHAR" cn_4) a0 Z = true := own_w hw 187 rfl
theorem ww38 (hw : HW Z a0) : Cond.before (Cond.initialized "java/lang/Long$LongCache") a0 Z = true := own_w hw 38 rfl
theorem ww99 (hw : HW Z a0) : Cond.before (Cond.initialized cn_23) a0 Z = true := own_w hw 99 rfl
theorem ww93 (hw : HW Z a0) : Cond.before (Cond.arrayClass FieldType.byte) a0 Z = true := own_w hw 93 rfl
theorem d0_0 : decode qc0 0 = .ok (.iload_n 0, 1) := by decide +kernel
theorem d0_1 : decode qc0 1 = .ok (.ifCond .ne 7, 3) := by decide +kernel
theorem d0_4 : decode qc0 4 = .ok (.getstatic 7, 3) := by decide +kernel
theorem ww4 (hw : HW Z a0) : Cond.before (Cond.fieldLink cn_5 7 cn_1 "INT" cn_4) a0 Z = true := own_w hw 4 rfl
theorem d0_7 : decode qc0 7 = .ok (.areturn, 1) := by decide +kernel
theorem d0_8 : decode qc0 8 = .ok (.iload_n 0, 1) := by decide +kernel
theorem d0_9 : decode qc0 9 = .ok (.iconst 1, 1) := by decide +kernel
theorem d0_10 : decode qc0 10 = .ok (.if_icmp .ne 7, 3) := by decide +kernel
theorem d0_13 : decode qc0 13 = .ok (.getstatic 13, 3) := by decide +kernel
theorem ww183 (hw : HW Z a0) : Cond.before (Cond.fieldLink cn_5 13 cn_1 "BIGINT" cn_4) a0 Z = true := own_w hw 183 rfl
theorem d0_16 : decode qc0 16 = .ok (.areturn, 1) := by decide +kernel
theorem d0_17 : decode qc0 17 = .ok (.iload_n 0, 1) := by decide +kernel
theorem d0_18 : decode qc0 18 = .ok (.iconst 2, 1) := by decide +kernel
theorem d0_19 : decode qc0 19 = .ok (.if_icmp .ne 7, 3) := by decide +kernel
theorem d0_22 : decode qc0 22 = .ok (.getstatic 16, 3) := by decide +kernel
theorem ww70 (hw : HW Z a0) : Cond.before (Cond.fieldLink cn_5 16 cn_1 "CHAR" cn_4) a0 Z = true := own_w hw 70 rfl
theorem d0_25 : decode qc0 25 = .ok (.areturn, 1) := by decide +kernel
theorem d0_26 : decode qc0 26 = .ok (.getstatic 19, 3) := by decide +kernel
theorem ww186 (hw : HW Z a0) : Cond.before (Cond.fieldLink cn_5 19 cn_1 "VARCHAR" cn_4) a0 Z = true := own_w hw 186 rfl
theorem d0_29 : decode qc0 29 = .ok (.areturn, 1) := by decide +kernel
abbrev rr_pick : Room := { frames := 0, cells := 0, slots := 0, locals := 0 }
abbrev y_0 : MethodName := ⟨cn_5, "pick", cn_11⟩
theorem pn_0 : plainName cn_5 = true := by first | (simp [plainName, overriddenIn]; done) | decide +kernel
theorem ef_pick (m : MethodId) (p0 : Int32) : entryFrame m #[(.int p0)] 1 = mkF m 0 #[vI p0] [] := by first | (simp [entryFrame, mkF, argsToLocals, Value.category]; done) | rfl
def f_pick (w_0 : Addr) (w_1 : Addr) (w_2 : Addr) (w_3 : Addr) (w_4 : Addr) (w_5 : Addr) (w_6 : Addr) (w_7 : Int32) (w_8 : Value) (p0 : Int32) : Addr := (if p0 = (0 : Int32) then w_0 else (if p0 = (1 : Int32) then w_2 else (if p0 = (2 : Int32) then w_1 else w_3)))
def Q_pick (Z : State) (w_0 : Addr) (w_1 : Addr) (w_2 : Addr) (w_3 : Addr) (w_4 : Addr) (w_5 : Addr) (w_6 : Addr) (w_7 : Int32) (w_8 : Value) (p0 : Int32) (h0 : Heap) (n0 : Nat) (v : Option Value) (h : Heap) (L : List Loc) : Prop := v = some (.ref (f_pick w_0 w_1 w_2 w_3 w_4 w_5 w_6 w_7 w_8 p0)) ∧ Fr n0 L ∧ h = h0
theorem rm_pick (l : Launch) (Z : State) (a0 : Array Value) (hw : HW Z a0) (ws : List Jvm.Cond) (w_0 : Addr) (w_1 : Addr) (w_2 : Addr) (w_3 : Addr) (w_4 : Addr) (w_5 : Addr) (w_6 : Addr) (w_7 : Int32) (w_8 : Value) (p0 : Int32) (h0 : Heap) (n0 : Nat) (Z0 : n0 ≤ h0.size) (ST : own_St Z w_0 w_1 w_2 w_3 w_4 w_5 w_6 w_7 w_8) (O0 : Old Z n0 h0) :
    MetFree l y_0 (head1 (Jvm.Cond.code y_0 method_2_code 1 (some (.object cn_1)) :: ws) rr_pick) (fun a U => a = #[(.int p0)] ∧ Z.Warmed39 U.vm ∧ U.heap = h0) (fun _ _ _ _ _ => True) (fun _ U o U' => ∃ v L, o = .returned v ∧ Q_pick Z w_0 w_1 w_2 w_3 w_4 w_5 w_6 w_7 w_8 p0 h0 n0 v U'.heap L ∧ FrameEnd U o U' L rr_pick.cells rr_pick.slots) := by
  refine MetFree.of_bodySF (plainFor_of_name pn_0) hisR ?_
  intro p e s m args below meth c s₁ Bd hml0 hP hK
  obtain ⟨rfl, hZ, hh⟩ := hP
  have hx := Bd.exec
  have hby := Bd.bytes
  have B := @hb _ _ hby
  have hml : c.maxLocals = 1 := hml0
  have hown : s.vm.findClass cn_5 = some m.cls := findClass_of_methodNamed Bd.named
  have X0 : Stand p l e rr_pick s m #[(.int p0)] below meth c s₁ [] 0 0 := Stand.of_body Bd
  have e0 : s₁.heap = h0 := by rw [← hh, Bd.state]; rfl
  have N0 := Fr.nil n0
  obtain ⟨G, step, ret, fin⟩ := own_openX X0 (rr_pick.cells) (rr_pick.slots) (Q_pick Z w_0 w_1 w_2 w_3 w_4 w_5 w_6 w_7 w_8 p0 h0 n0) Bd.notSynchronized
  refine fin (g := entryFrame m #[(.int p0)] 1) ?_
  rw [ef_pick m p0]
  refine step (fun t k => XS.iloadN X0.here hx rfl (B d0_0) rfl k) ?_
  by_cases hc1 : p0 = (0 : Int32)
  · skip
    refine step (fun t k => XS.ifNo X0.here hx rfl (B d0_1) rfl ((if0 _ _).trans (teq hc1).2) k) ?_
    obtain ⟨T2, X2, e2, st2⟩ := getS2 X0 hx hZ hown (host := "") (Or.inl (ww4 hw)) Via.refl e0 (Sta.ext O0.2 ST.k0) (g := (mkF m 4 #[vI p0] [])) rfl (B d0_4)
    refine step st2 ?_
    exact ret (v := some (.ref w_0)) X2 (fun h => by rw [Bd.returns] at h; cases h) (fun fs hr => retA X2 hx Bd.returns rfl rfl (B d0_7) hr) e2 ⟨by unfold f_pick; rw [if_pos hc1], N0, rfl⟩ (by decide) (by decide)
  · skip
    refine step (fun t k => XS.ifYes X0.here hx rfl (pc0 := 1) (pc' := 8) rfl (B d0_1) rfl ((if0 _ _).trans (feq hc1).2) (by decide) (by decide) k) ?_
    refine step (fun t k => XS.iloadN X0.here hx rfl (B d0_8) rfl k) ?_
    refine step (fun t k => XS.iconst X0.here hx rfl (B d0_9) k) ?_
    by_cases hc3 : p0 = (1 : Int32)
    · skip
      refine step (fun t k => XS.icmpNo X0.here hx rfl (B d0_10) rfl (teq hc3).2 k) ?_
      obtain ⟨T4, X4, e4, st4⟩ := getS2 X0 hx hZ hown (host := "") (Or.inl (ww183 hw)) Via.refl e0 (Sta.ext O0.2 ST.k4) (g := (mkF m 13 #[vI p0] [])) rfl (B d0_13)
      refine step st4 ?_
      exact ret (v := some (.ref w_2)) X4 (fun h => by rw [Bd.returns] at h; cases h) (fun fs hr => retA X4 hx Bd.returns rfl rfl (B d0_16) hr) e4 ⟨by unfold f_pick; rw [if_neg hc1, if_pos hc3], N0, rfl⟩ (by decide) (by decide)
    · skip
      refine step (fun t k => XS.icmpYes X0.here hx rfl (pc0 := 10) (pc' := 17) rfl (B d0_10) rfl (feq hc3).2 (by decide) (by decide) k) ?_
      refine step (fun t k => XS.iloadN X0.here hx rfl (B d0_17) rfl k) ?_
      refine step (fun t k => XS.iconst X0.here hx rfl (B d0_18) k) ?_
      by_cases hc5 : p0 = (2 : Int32)
      · skip
        refine step (fun t k => XS.icmpNo X0.here hx rfl (B d0_19) rfl (teq hc5).2 k) ?_
        obtain ⟨T6, X6, e6, st6⟩ := getS2 X0 hx hZ hown (host := "") (Or.inl (ww70 hw)) Via.refl e0 (Sta.ext O0.2 ST.k2) (g := (mkF m 22 #[vI p0] [])) rfl (B d0_22)
        refine step st6 ?_
        exact ret (v := some (.ref w_1)) X6 (fun h => by rw [Bd.returns] at h; cases h) (fun fs hr => retA X6 hx Bd.returns rfl rfl (B d0_25) hr) e6 ⟨by unfold f_pick; rw [if_neg hc1, if_neg hc3, if_pos hc5], N0, rfl⟩ (by decide) (by decide)
      · skip
        refine step (fun t k => XS.icmpYes X0.here hx rfl (pc0 := 19) (pc' := 26) rfl (B d0_19) rfl (feq hc5).2 (by decide) (by decide) k) ?_
        obtain ⟨T7, X7, e7, st7⟩ := getS2 X0 hx hZ hown (host := "") (Or.inl (ww186 hw)) Via.refl e0 (Sta.ext O0.2 ST.k6) (g := (mkF m 26 #[vI p0] [])) rfl (B d0_26)
        refine step st7 ?_
        exact ret (v := some (.ref w_3)) X7 (fun h => by rw [Bd.returns] at h; cases h) (fun fs hr => retA X7 hx Bd.returns rfl rfl (B d0_29) hr) e7 ⟨by unfold f_pick; rw [if_neg hc1, if_neg hc3, if_neg hc5], N0, rfl⟩ (by decide) (by decide)
theorem d1_0 : decode qc1 0 = .ok (.aload_n 0, 1) := by decide +kernel
theorem d1_1 : decode qc1 1 = .ok (.getstatic 3, 3) := by decide +kernel
theorem ww12 (hw : HW Z a0) : Cond.before (Cond.fieldLink cn_1 3 cn_1 "INT" cn_4) a0 Z = true := own_w hw 12 rfl
theorem d1_4 : decode qc1 4 = .ok (.if_acmp .eq 10, 3) := by decide +kernel
theorem d1_14 : decode qc1 14 = .ok (.iconst 1, 1) := by decide +kernel
theorem d1_15 : decode qc1 15 = .ok (.goto 4, 3) := by decide +kernel
theorem d1_19 : decode qc1 19 = .ok (.ireturn, 1) := by decide +kernel
theorem d1_7 : decode qc1 7 = .ok (.aload_n 0, 1) := by decide +kernel
theorem d1_8 : decode qc1 8 = .ok (.getstatic 7, 3) := by decide +kernel
theorem ww72 (hw : HW Z a0) : Cond.before (Cond.fieldLink cn_1 7 cn_1 "BIGINT" cn_4) a0 Z = true := own_w hw 72 rfl
theorem d1_11 : decode qc1 11 = .ok (.if_acmp .ne 7, 3) := by decide +kernel
theorem d1_18 : decode qc1 18 = .ok (.iconst 0, 1) := by decide +kernel
abbrev rr_int : Room := { frames := 0, cells := 0, slots := 0, locals := 0 }
abbrev y_1 : MethodName := ⟨cn_1, "integer", "()Z"⟩
theorem pn_1 : plainName cn_1 = true := by first | (simp [plainName, overriddenIn]; done) | decide +kernel
theorem ef_int (m : MethodId) (o0 : Addr) : entryFrame m #[(.ref o0)] 1 = mkF m 0 #[vR o0] [] := by first | (simp [entryFrame, mkF, argsToLocals, Value.category]; done) | rfl
def f_int (w_0 : Addr) (w_1 : Addr) (w_2 : Addr) (w_3 : Addr) (w_4 : Addr) (w_5 : Addr) (w_6 : Addr) (w_7 : Int32) (w_8 : Value) (o0 : Addr) : Int32 := (if o0 = w_0 then (1 : Int32) else (if o0 = w_2 then (1 : Int32) else (0 : Int32)))
def Q_int (Z : State) (w_0 : Addr) (w_1 : Addr) (w_2 : Addr) (w_3 : Addr) (w_4 : Addr) (w_5 : Addr) (w_6 : Addr) (w_7 : Int32) (w_8 : Value) (o0 : Addr) (h0 : Heap) (n0 : Nat) (v : Option Value) (h : Heap) (L : List Loc) : Prop := v = some (.int (f_int w_0 w_1 w_2 w_3 w_4 w_5 w_6 w_7 w_8 o0)) ∧ Fr n0 L ∧ h = h0
theorem rm_int (l : Launch) (Z : State) (a0 : Array Value) (hw : HW Z a0) (ws : List Jvm.Cond) (w_0 : Addr) (w_1 : Addr) (w_2 : Addr) (w_3 : Addr) (w_4 : Addr) (w_5 : Addr) (w_6 : Addr) (w_7 : Int32) (w_8 : Value) (o0 : Addr) (h0 : Heap) (n0 : Nat) (Z0 : n0 ≤ h0.size) (ST : own_St Z w_0 w_1 w_2 w_3 w_4 w_5 w_6 w_7 w_8) (O0 : Old Z n0 h0) :
    MetFree l y_1 (head1 (Jvm.Cond.code y_1 prog_3_method_4_code 1 (some .boolean) :: ws) rr_int) (fun a U => a = #[(.ref o0)] ∧ Z.Warmed39 U.vm ∧ U.heap = h0) (fun _ _ _ _ _ => True) (fun _ U o U' => ∃ v L, o = .returned v ∧ Q_int Z w_0 w_1 w_2 w_3 w_4 w_5 w_6 w_7 w_8 o0 h0 n0 v U'.heap L ∧ FrameEnd U o U' L rr_int.cells rr_int.slots) := by
  refine MetFree.of_bodySF (plainFor_of_name pn_1) hisR ?_
  intro p e s m args below meth c s₁ Bd hml0 hP hK
  obtain ⟨rfl, hZ, hh⟩ := hP
  have hx := Bd.exec
  have hby := Bd.bytes
  have B := @hb _ _ hby
  have hml : c.maxLocals = 1 := hml0
  have hown : s.vm.findClass cn_1 = some m.cls := findClass_of_methodNamed Bd.named
  have X0 : Stand p l e rr_int s m #[(.ref o0)] below meth c s₁ [] 0 0 := Stand.of_body Bd
  have e0 : s₁.heap = h0 := by rw [← hh, Bd.state]; rfl
  have N0 := Fr.nil n0
  obtain ⟨G, step, ret, fin⟩ := own_openX X0 (rr_int.cells) (rr_int.slots) (Q_int Z w_0 w_1 w_2 w_3 w_4 w_5 w_6 w_7 w_8 o0 h0 n0) Bd.notSynchronized
  refine fin (g := entryFrame m #[(.ref o0)] 1) ?_
  rw [ef_int m o0]
  refine step (fun t k => XS.aloadN X0.here hx rfl (B d1_0) rfl rfl k) ?_
  obtain ⟨T1, X1, e1, st1⟩ := getS2 X0 hx hZ hown (host := "") (Or.inl (ww12 hw)) Via.refl e0 (Sta.ext O0.2 ST.k0) (g := (mkF m 1 #[vR o0] [(.ref o0)])) rfl (B d1_1)
  refine step st1 ?_
  by_cases hc2 : o0 = w_0
  · skip
    refine step (fun t k => Jvm.RoadKit.acmp X1 hx rfl rfl rfl (pc0 := 4) (pc' := 14) (same := true) rfl (B d1_4) rfl (decide_eq_true (congrArg Value.ref hc2)) (by decide) (by decide) k) ?_
    refine step (fun t k => XS.iconst X1.here hx rfl (B d1_14) k) ?_
    refine step (fun t k => XS.goto X1.here hx rfl (pc0 := 15) (pc' := 19) rfl (B d1_15) (by decide) (by decide) k) ?_
    exact ret (v := some (.int 1)) X1 (fun h => by rw [Bd.returns] at h; cases h) (fun fs hr => retN X1 hx (t := .boolean) Bd.returns (by simp) (B d1_19) hr) e1 ⟨by unfold f_int; rw [if_pos hc2], N0, rfl⟩ (by decide) (by decide)
  · skip
    refine step (fun t k => Jvm.RoadKit.acmp X1 hx rfl rfl rfl (pc0 := 4) (pc' := 7) (same := false) rfl (B d1_4) rfl (decide_eq_false fun q => hc2 (Value.ref.inj q)) (by decide) (by decide) k) ?_
    refine step (fun t k => XS.aloadN X1.here hx rfl (B d1_7) rfl rfl k) ?_
    show G T1 (mkF m 8 #[vR o0] [(.ref o0)])
    obtain ⟨T3, X3, e3, st3⟩ := getS2 X1 hx hZ hown (host := "") (Or.inl (ww72 hw)) Via.refl e1 (Sta.ext O0.2 ST.k4) (g := (mkF m 8 #[vR o0] [(.ref o0)])) rfl (B d1_8)
    refine step st3 ?_
    by_cases hc4 : o0 = w_2
    · skip
      refine step (fun t k => Jvm.RoadKit.acmp X3 hx rfl rfl rfl (pc0 := 11) (pc' := 14) (same := true) rfl (B d1_11) rfl (decide_eq_true (congrArg Value.ref hc4)) (by decide) (by decide) k) ?_
      refine step (fun t k => XS.iconst X3.here hx rfl (B d1_14) k) ?_
      refine step (fun t k => XS.goto X3.here hx rfl (pc0 := 15) (pc' := 19) rfl (B d1_15) (by decide) (by decide) k) ?_
      exact ret (v := some (.int 1)) X3 (fun h => by rw [Bd.returns] at h; cases h) (fun fs hr => retN X3 hx (t := .boolean) Bd.returns (by simp) (B d1_19) hr) e3 ⟨by unfold f_int; rw [if_neg hc2, if_pos hc4], N0, rfl⟩ (by decide) (by decide)
    · skip
      refine step (fun t k => Jvm.RoadKit.acmp X3 hx rfl rfl rfl (pc0 := 11) (pc' := 18) (same := false) rfl (B d1_11) rfl (decide_eq_false fun q => hc4 (Value.ref.inj q)) (by decide) (by decide) k) ?_
      refine step (fun t k => XS.iconst X3.here hx rfl (B d1_18) k) ?_
      show G T3 (mkF m 19 #[vR o0] [(.int 0)])
      exact ret (v := some (.int 0)) X3 (fun h => by rw [Bd.returns] at h; cases h) (fun fs hr => retN X3 hx (t := .boolean) Bd.returns (by simp) (B d1_19) hr) e3 ⟨by unfold f_int; rw [if_neg hc2, if_neg hc4], N0, rfl⟩ (by decide) (by decide)
theorem d2_0 : decode qc2 0 = .ok (.aload_n 0, 1) := by decide +kernel
theorem d2_1 : decode qc2 1 = .ok (.invokespecial 1, 3) := by decide +kernel
theorem ww24 (hw : HW Z a0) : Cond.before (Cond.methodLink cn_21 1 ({ cls := cn_8, name := "<init>", desc := "()V" } : MethodName)) a0 Z = true := own_w hw 24 rfl
theorem ww25 (hw : HW Z a0) : Cond.before (Cond.instanceMethod ({ cls := cn_8, name := "<init>", desc := "()V" } : MethodName)) a0 Z = true := own_w hw 25 rfl
theorem ww26 (hw : HW Z a0) : Cond.before (Cond.code ({ cls := cn_8, name := "<init>", desc := "()V" } : MethodName) object_method_1_code 1 (Option.none : Option Jvm.ClassFile.FieldType)) a0 Z = true := own_w hw 26 rfl
theorem d2_4 : decode qc2 4 = .ok (.return_, 1) := by decide +kernel
abbrev rr_rec : Room := { frames := 1, cells := 0, slots := 0, locals := 12 }
abbrev y_2 : MethodName := ⟨cn_21, "<init>", "()V"⟩
theorem pn_2 : plainName cn_21 = true := by first | (simp [plainName, overriddenIn]; done) | decide +kernel
theorem ef_rec (m : MethodId) (o0 : Addr) : entryFrame m #[(.ref o0)] 1 = mkF m 0 #[vR o0] [] := by first | (simp [entryFrame, mkF, argsToLocals, Value.category]; done) | rfl
def Q_rec (Z : State) (w_0 : Addr) (w_1 : Addr) (w_2 : Addr) (w_3 : Addr) (w_4 : Addr) (w_5 : Addr) (w_6 : Addr) (w_7 : Int32) (w_8 : Value) (o0 : Addr) (h0 : Heap) (n0 : Nat) (v : Option Value) (h : Heap) (L : List Loc) : Prop := v = none ∧ Fr n0 L ∧ h = h0
theorem rm_rec (l : Launch) (Z : State) (a0 : Array Value) (hw : HW Z a0) (ws : List Jvm.Cond) (w_0 : Addr) (w_1 : Addr) (w_2 : Addr) (w_3 : Addr) (w_4 : Addr) (w_5 : Addr) (w_6 : Addr) (w_7 : Int32) (w_8 : Value) (o0 : Addr) (h0 : Heap) (n0 : Nat) (Z0 : n0 ≤ h0.size) (ST : own_St Z w_0 w_1 w_2 w_3 w_4 w_5 w_6 w_7 w_8) (O0 : Old Z n0 h0) :
    MetFree l y_2 (head1 (Jvm.Cond.code y_2 jdk_30_method_1_code 1 none :: ws) rr_rec) (fun a U => a = #[(.ref o0)] ∧ Z.Warmed39 U.vm ∧ U.heap = h0) (fun _ _ _ _ _ => True) (fun _ U o U' => ∃ v L, o = .returned v ∧ Q_rec Z w_0 w_1 w_2 w_3 w_4 w_5 w_6 w_7 w_8 o0 h0 n0 v U'.heap L ∧ FrameEnd U o U' L rr_rec.cells rr_rec.slots) := by
  refine MetFree.of_bodySF (plainFor_of_name pn_2) hisR ?_
  intro p e s m args below meth c s₁ Bd hml0 hP hK
  obtain ⟨rfl, hZ, hh⟩ := hP
  have hx := Bd.exec
  have hby := Bd.bytes
  have B := @hb _ _ hby
  have hml : c.maxLocals = 1 := hml0
  have hown : s.vm.findClass cn_21 = some m.cls := findClass_of_methodNamed Bd.named
  have X0 : Stand p l e rr_rec s m #[(.ref o0)] below meth c s₁ [] 0 0 := Stand.of_body Bd
  have e0 : s₁.heap = h0 := by rw [← hh, Bd.state]; rfl
  have N0 := Fr.nil n0
  obtain ⟨G, step, ret, fin⟩ := own_openX X0 (rr_rec.cells) (rr_rec.slots) (Q_rec Z w_0 w_1 w_2 w_3 w_4 w_5 w_6 w_7 w_8 o0 h0 n0) Bd.notSynchronized
  refine fin (g := entryFrame m #[(.ref o0)] 1) ?_
  rw [ef_rec m o0]
  refine step (fun t k => XS.aloadN X0.here hx rfl (B d2_0) rfl rfl k) ?_
  obtain ⟨T1, X1, e1, st1⟩ := initO X0 hx hZ hown (ww24 hw) (ww25 hw) (ww26 hw) e0 (g := (mkF m 1 #[vR o0] [(.ref o0)])) rfl (by rw [hml]; rfl) rfl (B d2_1) (by decide) (W := 0) (by show 2 * 0 + _ ≤ _; exact Nat.le_of_eq rfl) (by decide)
  refine step st1 ?_
  exact ret (v := none) X1 (fun _ => rfl) (fun fs hr => X1.returnOut hx Bd.returns (B d2_4) hr) e1 ⟨rfl, N0, rfl⟩ (by decide) (by decide)
theorem d3_0 : decode qc3 0 = .ok (.aload_n 0, 1) := by decide +kernel
theorem d3_1 : decode qc3 1 = .ok (.invokespecial 1, 3) := by decide +kernel
theorem ww182 (hw : HW Z a0) : Cond.before (Cond.methodLink cn_22 1 ({ cls := cn_8, name := "<init>", desc := "()V" } : MethodName)) a0 Z = true := own_w hw 182 rfl
theorem d3_4 : decode qc3 4 = .ok (.return_, 1) := by decide +kernel
abbrev rr_num : Room := { frames := 1, cells := 0, slots := 0, locals := 12 }
abbrev y_3 : MethodName := ⟨cn_22, "<init>", "()V"⟩
theorem pn_3 : plainName cn_22 = true := by first | (simp [plainName, overriddenIn]; done) | decide +kernel
theorem ef_num (m : MethodId) (o0 : Addr) : entryFrame m #[(.ref o0)] 1 = mkF m 0 #[vR o0] [] := by first | (simp [entryFrame, mkF, argsToLocals, Value.category]; done) | rfl
def Q_num (Z : State) (w_0 : Addr) (w_1 : Addr) (w_2 : Addr) (w_3 : Addr) (w_4 : Addr) (w_5 : Addr) (w_6 : Addr) (w_7 : Int32) (w_8 : Value) (o0 : Addr) (h0 : Heap) (n0 : Nat) (v : Option Value) (h : Heap) (L : List Loc) : Prop := v = none ∧ Fr n0 L ∧ h = h0
theorem rm_num (l : Launch) (Z : State) (a0 : Array Value) (hw : HW Z a0) (ws : List Jvm.Cond) (w_0 : Addr) (w_1 : Addr) (w_2 : Addr) (w_3 : Addr) (w_4 : Addr) (w_5 : Addr) (w_6 : Addr) (w_7 : Int32) (w_8 : Value) (o0 : Addr) (h0 : Heap) (n0 : Nat) (Z0 : n0 ≤ h0.size) (ST : own_St Z w_0 w_1 w_2 w_3 w_4 w_5 w_6 w_7 w_8) (O0 : Old Z n0 h0) :
    MetFree l y_3 (head1 (Jvm.Cond.code y_3 jdk_18_method_1_code 1 none :: ws) rr_num) (fun a U => a = #[(.ref o0)] ∧ Z.Warmed39 U.vm ∧ U.heap = h0) (fun _ _ _ _ _ => True) (fun _ U o U' => ∃ v L, o = .returned v ∧ Q_num Z w_0 w_1 w_2 w_3 w_4 w_5 w_6 w_7 w_8 o0 h0 n0 v U'.heap L ∧ FrameEnd U o U' L rr_num.cells rr_num.slots) := by
  refine MetFree.of_bodySF (plainFor_of_name pn_3) hisR ?_
  intro p e s m args below meth c s₁ Bd hml0 hP hK
  obtain ⟨rfl, hZ, hh⟩ := hP
  have hx := Bd.exec
  have hby := Bd.bytes
  have B := @hb _ _ hby
  have hml : c.maxLocals = 1 := hml0
  have hown : s.vm.findClass cn_22 = some m.cls := findClass_of_methodNamed Bd.named
  have X0 : Stand p l e rr_num s m #[(.ref o0)] below meth c s₁ [] 0 0 := Stand.of_body Bd
  have e0 : s₁.heap = h0 := by rw [← hh, Bd.state]; rfl
  have N0 := Fr.nil n0
  obtain ⟨G, step, ret, fin⟩ := own_openX X0 (rr_num.cells) (rr_num.slots) (Q_num Z w_0 w_1 w_2 w_3 w_4 w_5 w_6 w_7 w_8 o0 h0 n0) Bd.notSynchronized
  refine fin (g := entryFrame m #[(.ref o0)] 1) ?_
  rw [ef_num m o0]
  refine step (fun t k => XS.aloadN X0.here hx rfl (B d3_0) rfl rfl k) ?_
  obtain ⟨T1, X1, e1, st1⟩ := initO X0 hx hZ hown (ww182 hw) (ww25 hw) (ww26 hw) e0 (g := (mkF m 1 #[vR o0] [(.ref o0)])) rfl (by rw [hml]; rfl) rfl (B d3_1) (by decide) (W := 0) (by show 2 * 0 + _ ≤ _; exact Nat.le_of_eq rfl) (by decide)
  refine step st1 ?_
  exact ret (v := none) X1 (fun _ => rfl) (fun fs hr => X1.returnOut hx Bd.returns (B d3_4) hr) e1 ⟨rfl, N0, rfl⟩ (by decide) (by decide)
theorem d4_0 : decode qc4 0 = .ok (.aload_n 0, 1) := by decide +kernel
theorem d4_1 : decode qc4 1 = .ok (.invokespecial 1, 3) := by decide +kernel
theorem ww19 (hw : HW Z a0) : Cond.before (Cond.methodLink cn_0 1 ({ cls := cn_21, name := "<init>", desc := "()V" } : MethodName)) a0 Z = true := own_w hw 19 rfl
theorem ww23 (hw : HW Z a0) : Cond.before (Cond.code ({ cls := cn_21, name := "<init>", desc := "()V" } : MethodName) jdk_30_method_1_code 1 (Option.none : Option Jvm.ClassFile.FieldType)) a0 Z = true := own_w hw 23 rfl
theorem ww22 (hw : HW Z a0) : Cond.before (Cond.initialized cn_21) a0 Z = true := own_w hw 22 rfl
theorem pd_0 : parseMethodDescriptor "()V" = some ⟨[], none⟩ := by decide +kernel
theorem ww20 (hw : HW Z a0) : Cond.before (Cond.instanceMethod ({ cls := cn_21, name := "<init>", desc := "()V" } : MethodName)) a0 Z = true := own_w hw 20 rfl
theorem d4_4 : decode qc4 4 = .ok (.aload_n 0, 1) := by decide +kernel
theorem d4_5 : decode qc4 5 = .ok (.aload_n 1, 1) := by decide +kernel
theorem d4_6 : decode qc4 6 = .ok (.putfield 7, 3) := by decide +kernel
theorem ww27 (hw : HW Z a0) : Cond.before (Cond.fieldLink cn_0 7 cn_0 "kind" cn_4) a0 Z = true := own_w hw 27 rfl
theorem ww28 (hw : HW Z a0) : Cond.before (Cond.laysFinal cn_0 cn_0 "kind" cn_4) a0 Z = true := own_w hw 28 rfl
theorem ww14 (hw : HW Z a0) : Cond.before (Cond.instantiable cn_0 2) a0 Z = true := own_w hw 14 rfl
theorem d4_9 : decode qc4 9 = .ok (.aload_n 0, 1) := by decide +kernel
theorem d4_10 : decode qc4 10 = .ok (.iload_n 2, 1) := by decide +kernel
theorem d4_11 : decode qc4 11 = .ok (.putfield 13, 3) := by decide +kernel
theorem ww29 (hw : HW Z a0) : Cond.before (Cond.fieldLink cn_0 13 cn_0 "length" "I") a0 Z = true := own_w hw 29 rfl
theorem ww30 (hw : HW Z a0) : Cond.before (Cond.laysFinal cn_0 cn_0 "length" "I") a0 Z = true := own_w hw 30 rfl
theorem d4_14 : decode qc4 14 = .ok (.return_, 1) := by decide +kernel
abbrev rr_ct : Room := { frames := 2, cells := 0, slots := 0, locals := 24 }
abbrev y_4 : MethodName := ⟨cn_0, "<init>", cn_10⟩
theorem pn_4 : plainName cn_0 = true := by first | (simp [plainName, overriddenIn]; done) | decide +kernel
theorem ef_ct (m : MethodId) (o0 : Addr) (o1 : Addr) (p2 : Int32) : entryFrame m #[(.ref o0), (.ref o1), (.int p2)] 3 = mkF m 0 #[vR o0, vR o1, vI p2] [] := by first | (simp [entryFrame, mkF, argsToLocals, Value.category]; done) | rfl
def Q_ct (Z : State) (w_0 : Addr) (w_1 : Addr) (w_2 : Addr) (w_3 : Addr) (w_4 : Addr) (w_5 : Addr) (w_6 : Addr) (w_7 : Int32) (w_8 : Value) (o0 : Addr) (o1 : Addr) (p2 : Int32) (h0 : Heap) (n0 : Nat) (v : Option Value) (h : Heap) (L : List Loc) : Prop := v = none ∧ Fr n0 L ∧ Keep h0 h [o0] ∧ Exa Z h o0 cn_0 ∧ Fld Z h o0 cn_0 "kind" cn_4 (.ref o1) ∧ Fld Z h o0 cn_0 "length" "I" (.int p2)
theorem rm_ct (l : Launch) (Z : State) (a0 : Array Value) (hw : HW Z a0) (ws : List Jvm.Cond) (w_0 : Addr) (w_1 : Addr) (w_2 : Addr) (w_3 : Addr) (w_4 : Addr) (w_5 : Addr) (w_6 : Addr) (w_7 : Int32) (w_8 : Value) (o0 : Addr) (o1 : Addr) (p2 : Int32) (h0 : Heap) (n0 : Nat) (Z0 : n0 ≤ h0.size) (ST : own_St Z w_0 w_1 w_2 w_3 w_4 w_5 w_6 w_7 w_8) (O0 : Old Z n0 h0) (Ex : Exa Z h0 o0 cn_0) (geo : n0 ≤ o0) (Fa : Fld Z h0 o0 cn_0 "kind" cn_4 .null) (Fb : Fld Z h0 o0 cn_0 "length" "I" (.int 0)) :
    MetFree l y_4 (head1 (Jvm.Cond.code y_4 prog_2_method_1_code 3 none :: ws) rr_ct) (fun a U => a = #[(.ref o0), (.ref o1), (.int p2)] ∧ Z.Warmed39 U.vm ∧ U.heap = h0) (fun _ _ _ _ _ => True) (fun _ U o U' => ∃ v L, o = .returned v ∧ Q_ct Z w_0 w_1 w_2 w_3 w_4 w_5 w_6 w_7 w_8 o0 o1 p2 h0 n0 v U'.heap L ∧ FrameEnd U o U' L rr_ct.cells rr_ct.slots) := by
  refine MetFree.of_bodySF (plainFor_of_name pn_4) hisR ?_
  intro p e s m args below meth c s₁ Bd hml0 hP hK
  obtain ⟨rfl, hZ, hh⟩ := hP
  have hx := Bd.exec
  have hby := Bd.bytes
  have B := @hb _ _ hby
  have hml : c.maxLocals = 3 := hml0
  have hown : s.vm.findClass cn_0 = some m.cls := findClass_of_methodNamed Bd.named
  have hnm := (name_of_methodNamed Bd.named Bd.method).1
  have X0 : Stand p l e rr_ct s m #[(.ref o0), (.ref o1), (.int p2)] below meth c s₁ [] 0 0 := Stand.of_body Bd
  have e0 : s₁.heap = h0 := by rw [← hh, Bd.state]; rfl
  have N0 := Fr.nil n0
  have K0 : Keep h0 h0 [o0] := Keep.refl _ _
  obtain ⟨G, step, ret, fin⟩ := own_openX X0 (rr_ct.cells) (rr_ct.slots) (Q_ct Z w_0 w_1 w_2 w_3 w_4 w_5 w_6 w_7 w_8 o0 o1 p2 h0 n0) Bd.notSynchronized
  refine fin (g := entryFrame m #[(.ref o0), (.ref o1), (.int p2)] 3) ?_
  rw [ef_ct m o0 o1 p2]
  refine step (fun t k => XS.aloadN X0.here hx rfl (B d4_0) rfl rfl k) ?_
  have hK1 := (backOf (R := rr_ct) (p := p) (e := e) (below := below) (s := s) (args := #[(.ref o0), (.ref o1), (.int p2)]) (len := 3) (W := 0) (rm_rec l Z a0 hw [] w_0 w_1 w_2 w_3 w_4 w_5 w_6 w_7 w_8 o0 h0 n0 (own_old_le O0) ST O0) hZ (ww23 hw) (ww22 hw) (by decide) (by decide))
  obtain ⟨_, _, ⟨T1, L1, k1, n1⟩, -, X1, ⟨Lc1, hQ1, l1, y1, z1⟩, st1⟩ := X0.specialBack hx (y := y_2) rfl hown (mvT hZ (ww19 hw)) (mvT hZ (ww20 hw)) (mvT hZ (ww23 hw)) (by decide) hK1 (g := (mkF m 1 #[vR o0, vR o1, vI p2] [(.ref o0)])) rfl (by rw [hml]; rfl) (Steps.refl _) (a := o0) (argsL := []) (rest := []) (lenOf pd_0 rfl) rfl (by show 2 * 0 + _ ≤ _; exact Nat.le_of_eq rfl) (B d4_1) (fun _ _ => ⟨rfl, e0, (by decide : 0 + 0 ≤ _), (by decide : 0 + 0 ≤ _)⟩)
  dsimp only [Pt.U, Pt.locs, Pt.cells, Pt.slots] at X1 l1 y1 z1 st1 hQ1
  subst l1 y1 z1
  obtain ⟨rfl, N1q, e1⟩ := hQ1
  have N1 := Fr.app N0 N1q
  obtain ⟨lc1, X1, N1⟩ := own_gen X1 N1
  refine step (fun t k => st1.trans k) ?_
  refine step (fun t k => XS.aloadN X1.here hx rfl (B d4_4) rfl rfl k) ?_
  refine step (fun t k => XS.aloadN X1.here hx rfl (B d4_5) rfl rfl k) ?_
  obtain ⟨T2, h2, X2, e2, W2, st2⟩ := putF X1 hx hZ hown (host := "") (Or.inl (ww27 hw)) Via.refl e1 Fa Ex (Or.inr ⟨(ww28 hw), rfl, hnm⟩) (ww14 hw) (ty := (.object cn_1)) (by decide) rfl rfl (g := (mkF m 6 #[vR o0, vR o1, vI p2] [(.ref o1), (.ref o0)])) rfl rfl (B d4_6)
  have F2 : Fld Z h2 o0 cn_0 "kind" cn_4 (.ref o1) := Fld.same W2 Fa
  have N2 := Fr.snoc X2 N1 geo
  obtain ⟨lc2, X2, N2⟩ := own_gen X2 N2
  have K2 : Keep h0 h2 [o0] := K0.wr W2 (Or.inl (List.mem_of_getElem? (i := 0) rfl))
  refine step st2 ?_
  refine step (fun t k => XS.aloadN X2.here hx rfl (B d4_9) rfl rfl k) ?_
  refine step (fun t k => XS.iloadN X2.here hx rfl (B d4_10) rfl k) ?_
  have f4 := (Fld.other W2 Fb (Or.inr (slot_ne (Or.inr (ww30 hw)) (Or.inr (ww28 hw)) (by decide) (t := .int) (t' := (.object cn_1)) (by decide) (by decide))))
  have f5 := (Exa.wr W2 Ex)
  obtain ⟨T3, h3, X3, e3, W3, st3⟩ := putF X2 hx hZ hown (host := "") (Or.inl (ww29 hw)) Via.refl e2 f4 f5 (Or.inr ⟨(ww30 hw), rfl, hnm⟩) (ww14 hw) (ty := .int) (by decide) rfl rfl (g := (mkF m 11 #[vR o0, vR o1, vI p2] [(.int p2), (.ref o0)])) rfl rfl (B d4_11)
  have F3 : Fld Z h3 o0 cn_0 "length" "I" (.int p2) := Fld.same W3 f4
  have N3 := Fr.snoc X3 N2 geo
  obtain ⟨lc3, X3, N3⟩ := own_gen X3 N3
  have K3 : Keep h0 h3 [o0] := K2.wr W3 (Or.inl (List.mem_of_getElem? (i := 0) rfl))
  refine step st3 ?_
  have f6 := (Exa.wr W3 f5)
  have f7 := (Fld.other W3 F2 (Or.inr (slot_ne (Or.inr (ww28 hw)) (Or.inr (ww30 hw)) (by decide) (t := (.object cn_1)) (t' := .int) (by decide) (by decide))))
  exact ret (v := none) X3 (fun _ => rfl) (fun fs hr => X3.returnOut hx Bd.returns (B d4_14) hr) e3 ⟨rfl, N3, K3, f6, f7, F3⟩ (by decide) (by decide)
theorem d5_0 : decode qc5 0 = .ok (.aload_n 0, 1) := by decide +kernel
theorem d5_1 : decode qc5 1 = .ok (.invokespecial 270, 3) := by decide +kernel
theorem ww176 (hw : HW Z a0) : Cond.before (Cond.methodLink cn_3 270 ({ cls := cn_22, name := "<init>", desc := "()V" } : MethodName)) a0 Z = true := own_w hw 176 rfl
theorem ww181 (hw : HW Z a0) : Cond.before (Cond.code ({ cls := cn_22, name := "<init>", desc := "()V" } : MethodName) jdk_18_method_1_code 1 (Option.none : Option Jvm.ClassFile.FieldType)) a0 Z = true := own_w hw 181 rfl
theorem ww180 (hw : HW Z a0) : Cond.before (Cond.initialized cn_22) a0 Z = true := own_w hw 180 rfl
theorem ww177 (hw : HW Z a0) : Cond.before (Cond.instanceMethod ({ cls := cn_22, name := "<init>", desc := "()V" } : MethodName)) a0 Z = true := own_w hw 177 rfl
theorem d5_4 : decode qc5 4 = .ok (.aload_n 0, 1) := by decide +kernel
theorem d5_5 : decode qc5 5 = .ok (.lload_n 1, 1) := by decide +kernel
theorem d5_6 : decode qc5 6 = .ok (.putfield 273, 3) := by decide +kernel
theorem ww63 (hw : HW Z a0) : Cond.before (Cond.fieldLink cn_3 273 cn_3 "value" "J") a0 Z = true := own_w hw 63 rfl
theorem ww64 (hw : HW Z a0) : Cond.before (Cond.laysFinal cn_3 cn_3 "value" "J") a0 Z = true := own_w hw 64 rfl
theorem ww172 (hw : HW Z a0) : Cond.before (Cond.instantiable cn_3 1) a0 Z = true := own_w hw 172 rfl
theorem d5_9 : decode qc5 9 = .ok (.return_, 1) := by decide +kernel
abbrev rr_li : Room := { frames := 2, cells := 0, slots := 0, locals := 24 }
abbrev y_5 : MethodName := ⟨cn_3, "<init>", "(J)V"⟩
theorem pn_5 : plainName cn_3 = true := by first | (simp [plainName, overriddenIn]; done) | decide +kernel
theorem ef_li (m : MethodId) (o0 : Addr) (q1 : Int64) : entryFrame m #[(.ref o0), (.long q1)] 3 = mkF m 0 #[vR o0, vL q1, s_] [] := by first | (simp [entryFrame, mkF, argsToLocals, Value.category]; done) | rfl
def Q_li (Z : State) (w_0 : Addr) (w_1 : Addr) (w_2 : Addr) (w_3 : Addr) (w_4 : Addr) (w_5 : Addr) (w_6 : Addr) (w_7 : Int32) (w_8 : Value) (o0 : Addr) (q1 : Int64) (h0 : Heap) (n0 : Nat) (v : Option Value) (h : Heap) (L : List Loc) : Prop := v = none ∧ Fr n0 L ∧ Keep h0 h [o0] ∧ Exa Z h o0 cn_3 ∧ Fld Z h o0 cn_3 "value" "J" (.long q1)
theorem rm_li (l : Launch) (Z : State) (a0 : Array Value) (hw : HW Z a0) (ws : List Jvm.Cond) (w_0 : Addr) (w_1 : Addr) (w_2 : Addr) (w_3 : Addr) (w_4 : Addr) (w_5 : Addr) (w_6 : Addr) (w_7 : Int32) (w_8 : Value) (o0 : Addr) (q1 : Int64) (h0 : Heap) (n0 : Nat) (Z0 : n0 ≤ h0.size) (ST : own_St Z w_0 w_1 w_2 w_3 w_4 w_5 w_6 w_7 w_8) (O0 : Old Z n0 h0) (Ex : Exa Z h0 o0 cn_3) (geo : n0 ≤ o0) (Fa : Fld Z h0 o0 cn_3 "value" "J" (.long 0)) :
    MetFree l y_5 (head1 (Jvm.Cond.code y_5 jdk_35_method_26_code 3 none :: ws) rr_li) (fun a U => a = #[(.ref o0), (.long q1)] ∧ Z.Warmed39 U.vm ∧ U.heap = h0) (fun _ _ _ _ _ => True) (fun _ U o U' => ∃ v L, o = .returned v ∧ Q_li Z w_0 w_1 w_2 w_3 w_4 w_5 w_6 w_7 w_8 o0 q1 h0 n0 v U'.heap L ∧ FrameEnd U o U' L rr_li.cells rr_li.slots) := by
  refine MetFree.of_bodySF (plainFor_of_name pn_5) hisR ?_
  intro p e s m args below meth c s₁ Bd hml0 hP hK
  obtain ⟨rfl, hZ, hh⟩ := hP
  have hx := Bd.exec
  have hby := Bd.bytes
  have B := @hb _ _ hby
  have hml : c.maxLocals = 3 := hml0
  have hown : s.vm.findClass cn_3 = some m.cls := findClass_of_methodNamed Bd.named
  have hnm := (name_of_methodNamed Bd.named Bd.method).1
  have X0 : Stand p l e rr_li s m #[(.ref o0), (.long q1)] below meth c s₁ [] 0 0 := Stand.of_body Bd
  have e0 : s₁.heap = h0 := by rw [← hh, Bd.state]; rfl
  have N0 := Fr.nil n0
  have K0 : Keep h0 h0 [o0] := Keep.refl _ _
  obtain ⟨G, step, ret, fin⟩ := own_openX X0 (rr_li.cells) (rr_li.slots) (Q_li Z w_0 w_1 w_2 w_3 w_4 w_5 w_6 w_7 w_8 o0 q1 h0 n0) Bd.notSynchronized
  refine fin (g := entryFrame m #[(.ref o0), (.long q1)] 3) ?_
  rw [ef_li m o0 q1]
  refine step (fun t k => XS.aloadN X0.here hx rfl (B d5_0) rfl rfl k) ?_
  have hK1 := (backOf (R := rr_li) (p := p) (e := e) (below := below) (s := s) (args := #[(.ref o0), (.long q1)]) (len := 3) (W := 0) (rm_num l Z a0 hw [] w_0 w_1 w_2 w_3 w_4 w_5 w_6 w_7 w_8 o0 h0 n0 (own_old_le O0) ST O0) hZ (ww181 hw) (ww180 hw) (by decide) (by decide))
  obtain ⟨_, _, ⟨T1, L1, k1, n1⟩, -, X1, ⟨Lc1, hQ1, l1, y1, z1⟩, st1⟩ := X0.specialBack hx (y := y_3) rfl hown (mvT hZ (ww176 hw)) (mvT hZ (ww177 hw)) (mvT hZ (ww181 hw)) (by decide) hK1 (g := (mkF m 1 #[vR o0, vL q1, s_] [(.ref o0)])) rfl (by rw [hml]; rfl) (Steps.refl _) (a := o0) (argsL := []) (rest := []) (lenOf pd_0 rfl) rfl (by show 2 * 0 + _ ≤ _; exact Nat.le_of_eq rfl) (B d5_1) (fun _ _ => ⟨rfl, e0, (by decide : 0 + 0 ≤ _), (by decide : 0 + 0 ≤ _)⟩)
  dsimp only [Pt.U, Pt.locs, Pt.cells, Pt.slots] at X1 l1 y1 z1 st1 hQ1
  subst l1 y1 z1
  obtain ⟨rfl, N1q, e1⟩ := hQ1
  have N1 := Fr.app N0 N1q
  obtain ⟨lc1, X1, N1⟩ := own_gen X1 N1
  refine step (fun t k => st1.trans k) ?_
  refine step (fun t k => XS.aloadN X1.here hx rfl (B d5_4) rfl rfl k) ?_
  refine step (fun t k => XS.lloadN X1.here hx rfl (B d5_5) rfl k) ?_
  obtain ⟨T2, h2, X2, e2, W2, st2⟩ := putF X1 hx hZ hown (host := "") (Or.inl (ww63 hw)) Via.refl e1 Fa Ex (Or.inr ⟨(ww64 hw), rfl, hnm⟩) (ww172 hw) (ty := .long) (by decide) rfl rfl (g := (mkF m 6 #[vR o0, vL q1, s_] [(.long q1), (.ref o0)])) rfl rfl (B d5_6)
  have F2 : Fld Z h2 o0 cn_3 "value" "J" (.long q1) := Fld.same W2 Fa
  have N2 := Fr.snoc X2 N1 geo
  obtain ⟨lc2, X2, N2⟩ := own_gen X2 N2
  have K2 : Keep h0 h2 [o0] := K0.wr W2 (Or.inl (List.mem_of_getElem? (i := 0) rfl))
  refine step st2 ?_
  have f3 := (Exa.wr W2 Ex)
  exact ret (v := none) X2 (fun _ => rfl) (fun fs hr => X2.returnOut hx Bd.returns (B d5_9) hr) e2 ⟨rfl, N2, K2, f3, F2⟩ (by decide) (by decide)
theorem d6_0 : decode qc6 0 = .ok (.sipush 128, 3) := by decide +kernel
theorem d6_3 : decode qc6 3 = .ok (.istore_n 2, 1) := by decide +kernel
theorem d6_4 : decode qc6 4 = .ok (.lload_n 0, 1) := by decide +kernel
theorem d6_5 : decode qc6 5 = .ok (.ldc2_w 230, 3) := by decide +kernel
theorem ww35 (hw : HW Z a0) : Cond.before (Cond.constantLong cn_3 230 (-128 : Int64)) a0 Z = true := own_w hw 35 rfl
theorem d6_8 : decode qc6 8 = .ok (.lcmp, 1) := by decide +kernel
theorem d6_9 : decode qc6 9 = .ok (.ifCond .lt 22, 3) := by decide +kernel
theorem d6_31 : decode qc6 31 = .ok (.new 1, 3) := by decide +kernel
theorem ww171 (hw : HW Z a0) : Cond.before (Cond.classLink cn_3 1 cn_3) a0 Z = true := own_w hw 171 rfl
theorem ww33 (hw : HW Z a0) : Cond.before (Cond.initialized cn_3) a0 Z = true := own_w hw 33 rfl
theorem d6_34 : decode qc6 34 = .ok (.dup, 1) := by decide +kernel
theorem d6_35 : decode qc6 35 = .ok (.lload_n 0, 1) := by decide +kernel
theorem d6_36 : decode qc6 36 = .ok (.invokespecial 240, 3) := by decide +kernel
theorem ww173 (hw : HW Z a0) : Cond.before (Cond.methodLink cn_3 240 ({ cls := cn_3, name := "<init>", desc := "(J)V" } : MethodName)) a0 Z = true := own_w hw 173 rfl
theorem ww175 (hw : HW Z a0) : Cond.before (Cond.code ({ cls := cn_3, name := "<init>", desc := "(J)V" } : MethodName) jdk_35_method_26_code 3 (Option.none : Option Jvm.ClassFile.FieldType)) a0 Z = true := own_w hw 175 rfl
theorem pd_1 : parseMethodDescriptor "(J)V" = some ⟨[.long], none⟩ := by decide +kernel
theorem ww174 (hw : HW Z a0) : Cond.before (Cond.instanceMethod ({ cls := cn_3, name := "<init>", desc := "(J)V" } : MethodName)) a0 Z = true := own_w hw 174 rfl
theorem d6_39 : decode qc6 39 = .ok (.areturn, 1) := by decide +kernel
theorem d6_12 : decode qc6 12 = .ok (.lload_n 0, 1) := by decide +kernel
theorem d6_13 : decode qc6 13 = .ok (.ldc2_w 232, 3) := by decide +kernel
theorem ww36 (hw : HW Z a0) : Cond.before (Cond.constantLong cn_3 232 (127 : Int64)) a0 Z = true := own_w hw 36 rfl
theorem d6_16 : decode qc6 16 = .ok (.lcmp, 1) := by decide +kernel
theorem d6_17 : decode qc6 17 = .ok (.ifCond .gt 14, 3) := by decide +kernel
theorem d6_20 : decode qc6 20 = .ok (.getstatic 234, 3) := by decide +kernel
theorem ww37 (hw : HW Z a0) : Cond.before (Cond.fieldLink cn_3 234 "java/lang/Long$LongCache" "cache" cn_26) a0 Z = true := own_w hw 37 rfl
theorem d6_23 : decode qc6 23 = .ok (.lload_n 0, 1) := by decide +kernel
theorem d6_24 : decode qc6 24 = .ok (.l2i, 1) := by decide +kernel
theorem d6_25 : decode qc6 25 = .ok (.sipush 128, 3) := by decide +kernel
theorem d6_28 : decode qc6 28 = .ok (.iadd, 1) := by decide +kernel
theorem d6_29 : decode qc6 29 = .ok (.aaload, 1) := by decide +kernel
theorem d6_30 : decode qc6 30 = .ok (.areturn, 1) := by decide +kernel
abbrev rr_vo : Room := { frames := 3, cells := 1, slots := 1, locals := 39 }
abbrev y_6 : MethodName := ⟨cn_3, "valueOf", cn_14⟩
theorem ef_vo (m : MethodId) (q0 : Int64) : entryFrame m #[(.long q0)] 3 = mkF m 0 #[vL q0, s_, u_] [] := by first | (simp [entryFrame, mkF, argsToLocals, Value.category]; done) | rfl
def Q_vo (Z : State) (w_0 : Addr) (w_1 : Addr) (w_2 : Addr) (w_3 : Addr) (w_4 : Addr) (w_5 : Addr) (w_6 : Addr) (w_7 : Int32) (w_8 : Value) (q0 : Int64) (h0 : Heap) (n0 : Nat) (v : Option Value) (h : Heap) (L : List Loc) : Prop := ∃ b : Addr, v = some (.ref b) ∧ Fr n0 L ∧ Keep h0 h [] ∧ Exa Z h b cn_3 ∧ Fld Z h b cn_3 "value" "J" (.long q0)
theorem rm_vo (l : Launch) (Z : State) (a0 : Array Value) (hw : HW Z a0) (ws : List Jvm.Cond) (w_0 : Addr) (w_1 : Addr) (w_2 : Addr) (w_3 : Addr) (w_4 : Addr) (w_5 : Addr) (w_6 : Addr) (w_7 : Int32) (w_8 : Value) (q0 : Int64) (h0 : Heap) (n0 : Nat) (Z0 : n0 ≤ h0.size) (ST : own_St Z w_0 w_1 w_2 w_3 w_4 w_5 w_6 w_7 w_8) (O0 : Old Z n0 h0) :
    MetFree l y_6 (head1 (Jvm.Cond.code y_6 jdk_35_method_24_code 3 (some (.object cn_3)) :: ws) rr_vo) (fun a U => a = #[(.long q0)] ∧ Z.Warmed39 U.vm ∧ U.heap = h0) (fun _ _ _ _ _ => True) (fun _ U o U' => ∃ v L, o = .returned v ∧ Q_vo Z w_0 w_1 w_2 w_3 w_4 w_5 w_6 w_7 w_8 q0 h0 n0 v U'.heap L ∧ FrameEnd U o U' L rr_vo.cells rr_vo.slots) := by
  refine MetFree.of_bodySF (plainFor_of_name pn_5) hisR ?_
  intro p e s m args below meth c s₁ Bd hml0 hP hK
  obtain ⟨rfl, hZ, hh⟩ := hP
  have hx := Bd.exec
  have hby := Bd.bytes
  have B := @hb _ _ hby
  have hml : c.maxLocals = 3 := hml0
  have hown : s.vm.findClass cn_3 = some m.cls := findClass_of_methodNamed Bd.named
  have X0 : Stand p l e rr_vo s m #[(.long q0)] below meth c s₁ [] 0 0 := Stand.of_body Bd
  have e0 : s₁.heap = h0 := by rw [← hh, Bd.state]; rfl
  have N0 := Fr.nil n0
  have K0 : Keep h0 h0 [] := Keep.refl _ _
  obtain ⟨G, step, ret, fin⟩ := own_openX X0 (rr_vo.cells) (rr_vo.slots) (Q_vo Z w_0 w_1 w_2 w_3 w_4 w_5 w_6 w_7 w_8 q0 h0 n0) Bd.notSynchronized
  refine fin (g := entryFrame m #[(.long q0)] 3) ?_
  rw [ef_vo m q0]
  refine step (fun t k => XS.sipush X0.here hx rfl (B d6_0) k) ?_
  refine step (fun t k => XS.istoreN X0.here hx rfl (B d6_3) rfl (l' := #[vL q0, s_, vI 128]) rfl k) ?_
  refine step (fun t k => XS.lloadN X0.here hx rfl (B d6_4) rfl k) ?_
  have q1 := X0.ldc2Long hx hown (mvT hZ (ww35 hw)) (g := (mkF m 5 #[vL q0, s_, vI 128] [(.long q0)])) rfl (B d6_5)
  refine step q1 ?_
  refine step (fun t k => XS.lcmp X0.here hx rfl (B d6_8) rfl k) ?_
  by_cases hc2 : q0 < (-128 : Int64)
  · skip
    refine step (fun t k => XS.ifYes X0.here hx rfl (pc0 := 9) (pc' := 31) rfl (B d6_9) rfl ((if0 _ _).trans (tlt ((lw_lt _ _).mpr hc2)).1) (by decide) (by decide) k) ?_
    obtain ⟨T3, h3, X3, e3, E3, A3, D3, -, st3⟩ := newO X0 hx hZ hown (ww171 hw) (ww172 hw) (ww33 hw) e0 (g := (mkF m 31 #[vL q0, s_, vI 128] [])) rfl (B d6_31) (by decide) (by decide)
    obtain ⟨b3, g3⟩ : ∃ z, z = h0.size := ⟨_, rfl⟩
    rw [← g3] at A3 D3 st3
    have ge_b3 : n0 ≤ b3 := Nat.le_trans (own_old_le O0) (Nat.le_of_eq g3.symm)
    have sz_b3 : h0.size ≤ b3 := Nat.le_trans K0.1 (Nat.le_of_eq g3.symm)
    have O3 := O0.ext E3
    have K3 : Keep h0 h3 [] := K0.ext E3
    have F3_value : Fld Z h3 b3 cn_3 "value" "J" (.long 0) := D3 (Or.inr (ww64 hw)) (ty := .long) (by decide)
    refine step st3 ?_
    refine step (fun t k => XS.dup X3.here hx rfl (B d6_34) rfl rfl k) ?_
    refine step (fun t k => XS.lloadN X3.here hx rfl (B d6_35) rfl k) ?_
    have hK4 := (backOf (R := rr_vo) (p := p) (e := e) (below := below) (s := s) (args := #[(.long q0)]) (len := 3) (W := 1) (rm_li l Z a0 hw [] w_0 w_1 w_2 w_3 w_4 w_5 w_6 w_7 w_8 b3 q0 h3 n0 (own_old_le O3) ST O3 A3 ge_b3 F3_value) hZ (ww175 hw) (ww33 hw) (by decide) (by decide))
    obtain ⟨_, _, ⟨T4, L4, k4, n4⟩, -, X4, ⟨Lc4, hQ4, l4, y4, z4⟩, st4⟩ := X3.specialBack hx (y := y_5) rfl hown (mvT hZ (ww173 hw)) (mvT hZ (ww174 hw)) (mvT hZ (ww175 hw)) (by decide) hK4 (g := (mkF m 36 #[vL q0, s_, vI 128] [(.long q0), (.ref b3), (.ref b3)])) rfl (by rw [hml]; rfl) (Steps.refl _) (a := b3) (argsL := [(.long q0)]) (rest := [(.ref b3)]) (lenOf pd_1 rfl) rfl (by show 2 * 0 + _ ≤ _; exact Nat.le_of_eq rfl) (B d6_36) (fun _ _ => ⟨rfl, e3, (by decide : 1 + 0 ≤ _), (by decide : 1 + 0 ≤ _)⟩)
    dsimp only [Pt.U, Pt.locs, Pt.cells, Pt.slots] at X4 l4 y4 z4 st4 hQ4
    subst l4 y4 z4
    obtain ⟨rfl, N4q, K4q, Y4_0, Y4_1⟩ := hQ4
    have N4 := Fr.app N0 N4q
    obtain ⟨lc4, X4, N4⟩ := own_gen X4 N4
    have K4 : Keep h0 T4.heap [] := K3.trans K4q (allS (Or.inr sz_b3) all0)
    refine step (fun t k => st4.trans k) ?_
    exact ret (v := some (.ref b3)) X4 (fun h => by rw [Bd.returns] at h; cases h) (fun fs hr => retA X4 hx Bd.returns rfl rfl (B d6_39) hr) rfl ⟨b3, rfl, N4, K4, Y4_0, Y4_1⟩ (by decide) (by decide)
  · skip
    refine step (fun t k => XS.ifNo X0.here hx rfl (B d6_9) rfl ((if0 _ _).trans (flt (fun q => hc2 ((lw_lt _ _).mp q))).1) k) ?_
    refine step (fun t k => XS.lloadN X0.here hx rfl (B d6_12) rfl k) ?_
    have q5 := X0.ldc2Long hx hown (mvT hZ (ww36 hw)) (g := (mkF m 13 #[vL q0, s_, vI 128] [(.long q0)])) rfl (B d6_13)
    refine step q5 ?_
    refine step (fun t k => XS.lcmp X0.here hx rfl (B d6_16) rfl k) ?_
    by_cases hc6 : (127 : Int64) < q0
    · skip
      refine step (fun t k => XS.ifYes X0.here hx rfl (pc0 := 17) (pc' := 31) rfl (B d6_17) rfl ((if0 _ _).trans (tlt ((lw_gt _ _).mpr hc6)).2.2.1) (by decide) (by decide) k) ?_
      obtain ⟨T7, h7, X7, e7, E7, A7, D7, -, st7⟩ := newO X0 hx hZ hown (ww171 hw) (ww172 hw) (ww33 hw) e0 (g := (mkF m 31 #[vL q0, s_, vI 128] [])) rfl (B d6_31) (by decide) (by decide)
      obtain ⟨b7, g7⟩ : ∃ z, z = h0.size := ⟨_, rfl⟩
      rw [← g7] at A7 D7 st7
      have ge_b7 : n0 ≤ b7 := Nat.le_trans (own_old_le O0) (Nat.le_of_eq g7.symm)
      have sz_b7 : h0.size ≤ b7 := Nat.le_trans K0.1 (Nat.le_of_eq g7.symm)
      have O7 := O0.ext E7
      have K7 : Keep h0 h7 [] := K0.ext E7
      have F7_value : Fld Z h7 b7 cn_3 "value" "J" (.long 0) := D7 (Or.inr (ww64 hw)) (ty := .long) (by decide)
      refine step st7 ?_
      refine step (fun t k => XS.dup X7.here hx rfl (B d6_34) rfl rfl k) ?_
      refine step (fun t k => XS.lloadN X7.here hx rfl (B d6_35) rfl k) ?_
      have hK8 := (backOf (R := rr_vo) (p := p) (e := e) (below := below) (s := s) (args := #[(.long q0)]) (len := 3) (W := 1) (rm_li l Z a0 hw [] w_0 w_1 w_2 w_3 w_4 w_5 w_6 w_7 w_8 b7 q0 h7 n0 (own_old_le O7) ST O7 A7 ge_b7 F7_value) hZ (ww175 hw) (ww33 hw) (by decide) (by decide))
      obtain ⟨_, _, ⟨T8, L8, k8, n8⟩, -, X8, ⟨Lc8, hQ8, l8, y8, z8⟩, st8⟩ := X7.specialBack hx (y := y_5) rfl hown (mvT hZ (ww173 hw)) (mvT hZ (ww174 hw)) (mvT hZ (ww175 hw)) (by decide) hK8 (g := (mkF m 36 #[vL q0, s_, vI 128] [(.long q0), (.ref b7), (.ref b7)])) rfl (by rw [hml]; rfl) (Steps.refl _) (a := b7) (argsL := [(.long q0)]) (rest := [(.ref b7)]) (lenOf pd_1 rfl) rfl (by show 2 * 0 + _ ≤ _; exact Nat.le_of_eq rfl) (B d6_36) (fun _ _ => ⟨rfl, e7, (by decide : 1 + 0 ≤ _), (by decide : 1 + 0 ≤ _)⟩)
      dsimp only [Pt.U, Pt.locs, Pt.cells, Pt.slots] at X8 l8 y8 z8 st8 hQ8
      subst l8 y8 z8
      obtain ⟨rfl, N8q, K8q, Y8_0, Y8_1⟩ := hQ8
      have N8 := Fr.app N0 N8q
      obtain ⟨lc8, X8, N8⟩ := own_gen X8 N8
      have K8 : Keep h0 T8.heap [] := K7.trans K8q (allS (Or.inr sz_b7) all0)
      refine step (fun t k => st8.trans k) ?_
      exact ret (v := some (.ref b7)) X8 (fun h => by rw [Bd.returns] at h; cases h) (fun fs hr => retA X8 hx Bd.returns rfl rfl (B d6_39) hr) rfl ⟨b7, rfl, N8, K8, Y8_0, Y8_1⟩ (by decide) (by decide)
    · skip
      refine step (fun t k => XS.ifNo X0.here hx rfl (B d6_17) rfl ((if0 _ _).trans (flt (fun q => hc6 ((lw_gt _ _).mp q))).2.2.1) k) ?_
      obtain ⟨T9, X9, e9, st9⟩ := getS2 X0 hx hZ hown (host := "") (Or.inl (ww37 hw)) Via.refl e0 (Sta.ext O0.2 ST.k8) (g := (mkF m 20 #[vL q0, s_, vI 128] [])) rfl (B d6_20)
      refine step st9 ?_
      refine step (fun t k => XS.lloadN X9.here hx rfl (B d6_23) rfl k) ?_
      refine step (fun t k => XS.l2i X9.here hx rfl (B d6_24) rfl k) ?_
      refine step (fun t k => XS.sipush X9.here hx rfl (B d6_25) k) ?_
      refine step (fun t k => XS.iadd X9.here hx rfl (B d6_28) rfl k) ?_
      obtain ⟨hj10, hv10⟩ := own_val hc2 hc6
      obtain ⟨b10, Eb10, Fb10, st10⟩ := own_ldBx X9 hx hZ e9 ST.k22 O0.2 hj10 (g := (mkF m 29 #[vL q0, s_, vI 128] [(.int ((q0.toInt32) + (128 : Int32))), (.ref w_4)])) rfl rfl (B d6_29)
      replace Fb10 : Fld Z h0 b10 cn_3 "value" "J" (.long q0) := by rw [hv10] at Fb10; exact Fb10
      refine step st10 ?_
      exact ret (v := some (.ref b10)) X9 (fun h => by rw [Bd.returns] at h; cases h) (fun fs hr => retA X9 hx Bd.returns rfl rfl (B d6_30) hr) e9 ⟨b10, rfl, N0, K0, Eb10, Fb10⟩ (by decide) (by decide)
theorem d7_0 : decode qc7 0 = .ok (.aload_n 0, 1) := by decide +kernel
theorem d7_1 : decode qc7 1 = .ok (.getfield 273, 3) := by decide +kernel
theorem d7_4 : decode qc7 4 = .ok (.lreturn, 1) := by decide +kernel
abbrev rr_lv : Room := { frames := 0, cells := 0, slots := 0, locals := 0 }
abbrev y_7 : MethodName := ⟨cn_3, "longValue", "()J"⟩
theorem ef_lv (m : MethodId) (o0 : Addr) : entryFrame m #[(.ref o0)] 1 = mkF m 0 #[vR o0] [] := by first | (simp [entryFrame, mkF, argsToLocals, Value.category]; done) | rfl
def f_lv (w_0 : Addr) (w_1 : Addr) (w_2 : Addr) (w_3 : Addr) (w_4 : Addr) (w_5 : Addr) (w_6 : Addr) (w_7 : Int32) (w_8 : Value) (o0 : Addr) (q1 : Int64) : Int64 := q1
def Q_lv (Z : State) (w_0 : Addr) (w_1 : Addr) (w_2 : Addr) (w_3 : Addr) (w_4 : Addr) (w_5 : Addr) (w_6 : Addr) (w_7 : Int32) (w_8 : Value) (o0 : Addr) (q1 : Int64) (h0 : Heap) (n0 : Nat) (v : Option Value) (h : Heap) (L : List Loc) : Prop := v = some (.long (f_lv w_0 w_1 w_2 w_3 w_4 w_5 w_6 w_7 w_8 o0 q1)) ∧ Fr n0 L ∧ h = h0
theorem rm_lv (l : Launch) (Z : State) (a0 : Array Value) (hw : HW Z a0) (ws : List Jvm.Cond) (w_0 : Addr) (w_1 : Addr) (w_2 : Addr) (w_3 : Addr) (w_4 : Addr) (w_5 : Addr) (w_6 : Addr) (w_7 : Int32) (w_8 : Value) (o0 : Addr) (q1 : Int64) (h0 : Heap) (n0 : Nat) (Z0 : n0 ≤ h0.size) (ST : own_St Z w_0 w_1 w_2 w_3 w_4 w_5 w_6 w_7 w_8) (O0 : Old Z n0 h0) (Fv : Fld Z h0 o0 cn_3 "value" "J" (.long q1)) :
    MetFree l y_7 (head1 (Jvm.Cond.code y_7 jdk_35_method_31_code 1 (some .long) :: ws) rr_lv) (fun a U => a = #[(.ref o0)] ∧ Z.Warmed39 U.vm ∧ U.heap = h0) (fun _ _ _ _ _ => True) (fun _ U o U' => ∃ v L, o = .returned v ∧ Q_lv Z w_0 w_1 w_2 w_3 w_4 w_5 w_6 w_7 w_8 o0 q1 h0 n0 v U'.heap L ∧ FrameEnd U o U' L rr_lv.cells rr_lv.slots) := by
  refine MetFree.of_bodySF (plainFor_of_name pn_5) hisR ?_
  intro p e s m args below meth c s₁ Bd hml0 hP hK
  obtain ⟨rfl, hZ, hh⟩ := hP
  have hx := Bd.exec
  have hby := Bd.bytes
  have B := @hb _ _ hby
  have hml : c.maxLocals = 1 := hml0
  have hown : s.vm.findClass cn_3 = some m.cls := findClass_of_methodNamed Bd.named
  have X0 : Stand p l e rr_lv s m #[(.ref o0)] below meth c s₁ [] 0 0 := Stand.of_body Bd
  have e0 : s₁.heap = h0 := by rw [← hh, Bd.state]; rfl
  have N0 := Fr.nil n0
  obtain ⟨G, step, ret, fin⟩ := own_openX X0 (rr_lv.cells) (rr_lv.slots) (Q_lv Z w_0 w_1 w_2 w_3 w_4 w_5 w_6 w_7 w_8 o0 q1 h0 n0) Bd.notSynchronized
  refine fin (g := entryFrame m #[(.ref o0)] 1) ?_
  rw [ef_lv m o0]
  refine step (fun t k => XS.aloadN X0.here hx rfl (B d7_0) rfl rfl k) ?_
  obtain ⟨T1, X1, e1, st1⟩ := getF X0 hx hZ hown (host := "") (Or.inl (ww63 hw)) Via.refl e0 Fv (g := (mkF m 1 #[vR o0] [(.ref o0)])) rfl rfl (B d7_1)
  refine step st1 ?_
  exact ret (v := some (.long q1)) X1 (fun h => by rw [Bd.returns] at h; cases h) (fun fs hr => retL X1 hx Bd.returns (B d7_4) hr) e1 ⟨rfl, N0, rfl⟩ (by decide) (by decide)
theorem d8_0 : decode qc8 0 = .ok (.aload_n 0, 1) := by decide +kernel
theorem d8_1 : decode qc8 1 = .ok (.instanceof 37, 3) := by decide +kernel
theorem ww56 (hw : HW Z a0) : Cond.before (Cond.classLink cn_0 37 cn_3) a0 Z = true := own_w hw 56 rfl
theorem d8_4 : decode qc8 4 = .ok (.ifCond .eq 11, 3) := by decide +kernel
theorem d8_7 : decode qc8 7 = .ok (.aload_n 0, 1) := by decide +kernel
theorem d8_8 : decode qc8 8 = .ok (.checkcast 37, 3) := by decide +kernel
theorem d8_11 : decode qc8 11 = .ok (.invokevirtual 49, 3) := by decide +kernel
theorem ww58 (hw : HW Z a0) : Cond.before (Cond.methodLink cn_0 49 ({ cls := cn_3, name := "longValue", desc := "()J" } : MethodName)) a0 Z = true := own_w hw 58 rfl
theorem ww61 (hw : HW Z a0) : Cond.before (Cond.selects cn_3 ({ cls := cn_3, name := "longValue", desc := "()J" } : MethodName) ({ cls := cn_3, name := "longValue", desc := "()J" } : MethodName)) a0 Z = true := own_w hw 61 rfl
theorem ww62 (hw : HW Z a0) : Cond.before (Cond.code ({ cls := cn_3, name := "longValue", desc := "()J" } : MethodName) jdk_35_method_31_code 1 (Option.some FieldType.long)) a0 Z = true := own_w hw 62 rfl
theorem pd_2 : parseMethodDescriptor "()J" = some ⟨[], some .long⟩ := by decide +kernel
theorem ww59 (hw : HW Z a0) : Cond.before (Cond.declares ({ cls := cn_3, name := "longValue", desc := "()J" } : MethodName)) a0 Z = true := own_w hw 59 rfl
theorem ww60 (hw : HW Z a0) : Cond.before (Cond.instanceMethod ({ cls := cn_3, name := "longValue", desc := "()J" } : MethodName)) a0 Z = true := own_w hw 60 rfl
theorem d8_14 : decode qc8 14 = .ok (.lreturn, 1) := by decide +kernel
abbrev rr_ig : Room := { frames := 1, cells := 0, slots := 0, locals := 12 }
abbrev y_8 : MethodName := ⟨cn_0, "integer", cn_24⟩
theorem ef_ig (m : MethodId) (o0 : Addr) : entryFrame m #[(.ref o0)] 1 = mkF m 0 #[vR o0] [] := by first | (simp [entryFrame, mkF, argsToLocals, Value.category]; done) | rfl
def f_ig (w_0 : Addr) (w_1 : Addr) (w_2 : Addr) (w_3 : Addr) (w_4 : Addr) (w_5 : Addr) (w_6 : Addr) (w_7 : Int32) (w_8 : Value) (o0 : Addr) (q1 : Int64) : Int64 := q1
def Q_ig (Z : State) (w_0 : Addr) (w_1 : Addr) (w_2 : Addr) (w_3 : Addr) (w_4 : Addr) (w_5 : Addr) (w_6 : Addr) (w_7 : Int32) (w_8 : Value) (o0 : Addr) (q1 : Int64) (h0 : Heap) (n0 : Nat) (v : Option Value) (h : Heap) (L : List Loc) : Prop := v = some (.long (f_ig w_0 w_1 w_2 w_3 w_4 w_5 w_6 w_7 w_8 o0 q1)) ∧ Fr n0 L ∧ h = h0
theorem rm_ig (l : Launch) (Z : State) (a0 : Array Value) (hw : HW Z a0) (ws : List Jvm.Cond) (w_0 : Addr) (w_1 : Addr) (w_2 : Addr) (w_3 : Addr) (w_4 : Addr) (w_5 : Addr) (w_6 : Addr) (w_7 : Int32) (w_8 : Value) (o0 : Addr) (q1 : Int64) (h0 : Heap) (n0 : Nat) (Z0 : n0 ≤ h0.size) (ST : own_St Z w_0 w_1 w_2 w_3 w_4 w_5 w_6 w_7 w_8) (O0 : Old Z n0 h0) (Ex : Exa Z h0 o0 cn_3) (Fv : Fld Z h0 o0 cn_3 "value" "J" (.long q1)) :
    MetFree l y_8 (head1 (Jvm.Cond.code y_8 prog_2_method_3_code 1 (some .long) :: ws) rr_ig) (fun a U => a = #[(.ref o0)] ∧ Z.Warmed39 U.vm ∧ U.heap = h0) (fun _ _ _ _ _ => True) (fun _ U o U' => ∃ v L, o = .returned v ∧ Q_ig Z w_0 w_1 w_2 w_3 w_4 w_5 w_6 w_7 w_8 o0 q1 h0 n0 v U'.heap L ∧ FrameEnd U o U' L rr_ig.cells rr_ig.slots) := by
  refine MetFree.of_bodySF (plainFor_of_name pn_4) hisR ?_
  intro p e s m args below meth c s₁ Bd hml0 hP hK
  obtain ⟨rfl, hZ, hh⟩ := hP
  have hx := Bd.exec
  have hby := Bd.bytes
  have B := @hb _ _ hby
  have hml : c.maxLocals = 1 := hml0
  have hown : s.vm.findClass cn_0 = some m.cls := findClass_of_methodNamed Bd.named
  have X0 : Stand p l e rr_ig s m #[(.ref o0)] below meth c s₁ [] 0 0 := Stand.of_body Bd
  have e0 : s₁.heap = h0 := by rw [← hh, Bd.state]; rfl
  have N0 := Fr.nil n0
  obtain ⟨G, step, ret, fin⟩ := own_openX X0 (rr_ig.cells) (rr_ig.slots) (Q_ig Z w_0 w_1 w_2 w_3 w_4 w_5 w_6 w_7 w_8 o0 q1 h0 n0) Bd.notSynchronized
  refine fin (g := entryFrame m #[(.ref o0)] 1) ?_
  rw [ef_ig m o0]
  refine step (fun t k => XS.aloadN X0.here hx rfl (B d8_0) rfl rfl k) ?_
  obtain ⟨T1, X1, e1, st1⟩ := instY X0 hx hZ hown (ww56 hw) e0 (Ins.self Ex) (g := (mkF m 1 #[vR o0] [(.ref o0)])) rfl rfl (B d8_1)
  refine step st1 ?_
  refine step (fun t k => XS.ifNo X1.here hx rfl (B d8_4) rfl ((if0 _ _).trans (feq (by decide : ¬ ((1 : Int32) = (0 : Int32)))).1) k) ?_
  refine step (fun t k => XS.aloadN X1.here hx rfl (B d8_7) rfl rfl k) ?_
  obtain ⟨T2, X2, e2, st2⟩ := castY X1 hx hZ hown (ww56 hw) e1 (Ins.self Ex) (g := (mkF m 8 #[vR o0] [(.ref o0)])) rfl rfl (B d8_8)
  refine step st2 ?_
  have hK3 := (backOf (R := rr_ig) (p := p) (e := e) (below := below) (s := s) (args := #[(.ref o0)]) (len := 3) (W := 0) (rm_lv l Z a0 hw [] w_0 w_1 w_2 w_3 w_4 w_5 w_6 w_7 w_8 o0 q1 h0 n0 (own_old_le O0) ST O0 Fv) hZ (ww62 hw) (ww33 hw) (by decide) (by decide))
  obtain ⟨cq3, kq3, q3a, q3b, q3c⟩ := isOf hZ e2 Ex
  obtain ⟨_, _, ⟨T3, L3, k3, n3⟩, -, X3, ⟨Lc3, hQ3, l3, y3, z3⟩, st3⟩ := X2.virtualBack hx (y := y_7) (z := y_7) hown (mvT hZ (ww58 hw)) (mvT hZ (ww59 hw)) (notFace_of_selects (args := #[]) (mvT hZ (ww61 hw))) (mvT hZ (ww61 hw)) (mvT hZ (ww60 hw)) (by decide) hK3 q3a q3c (g := (mkF m 11 #[vR o0] [(.ref o0)])) rfl (by rw [hml]; rfl) (Steps.refl _) (argsL := []) (rest := []) (lenOf pd_2 rfl) rfl (by show 2 * 0 + _ ≤ _; exact Nat.le_of_eq rfl) (B d8_11) (fun _ _ => ⟨rfl, e2, (by decide : 0 + 0 ≤ _), (by decide : 0 + 0 ≤ _)⟩)
  dsimp only [Pt.U, Pt.locs, Pt.cells, Pt.slots] at X3 l3 y3 z3 st3 hQ3
  subst l3 y3 z3
  obtain ⟨rfl, N3q, e3⟩ := hQ3
  have N3 := Fr.app N0 N3q
  obtain ⟨lc3, X3, N3⟩ := own_gen X3 N3
  refine step (fun t k => st3.trans k) ?_
  have r4 : (f_lv w_0 w_1 w_2 w_3 w_4 w_5 w_6 w_7 w_8 o0 q1) = q1 := rfl
  rw [r4]
  exact ret (v := some (.long q1)) X3 (fun h => by rw [Bd.returns] at h; cases h) (fun fs hr => retL X3 hx Bd.returns (B d8_14) hr) e3 ⟨rfl, N3, rfl⟩ (by decide) (by decide)
theorem d9_0 : decode qc9 0 = .ok (.lload_n 0, 1) := by decide +kernel
theorem d9_1 : decode qc9 1 = .ok (.lload_n 0, 1) := by decide +kernel
theorem d9_2 : decode qc9 2 = .ok (.l2i, 1) := by decide +kernel
theorem d9_3 : decode qc9 3 = .ok (.i2l, 1) := by decide +kernel
theorem d9_4 : decode qc9 4 = .ok (.lcmp, 1) := by decide +kernel
theorem d9_5 : decode qc9 5 = .ok (.ifCond .eq 20, 3) := by decide +kernel
theorem d9_25 : decode qc9 25 = .ok (.lload_n 0, 1) := by decide +kernel
theorem d9_26 : decode qc9 26 = .ok (.invokestatic 36, 3) := by decide +kernel
theorem ww68 (hw : HW Z a0) : Cond.before (Cond.methodLink cn_0 36 ({ cls := cn_3, name := "valueOf", desc := cn_14 } : MethodName)) a0 Z = true := own_w hw 68 rfl
theorem ww34 (hw : HW Z a0) : Cond.before (Cond.code ({ cls := cn_3, name := "valueOf", desc := cn_14 } : MethodName) jdk_35_method_24_code 3 (Option.some (FieldType.object cn_3))) a0 Z = true := own_w hw 34 rfl
theorem pd_3 : parseMethodDescriptor cn_14 = some ⟨[.long], some (.object cn_3)⟩ := by decide +kernel
theorem ww32 (hw : HW Z a0) : Cond.before (Cond.static ({ cls := cn_3, name := "valueOf", desc := cn_14 } : MethodName)) a0 Z = true := own_w hw 32 rfl
theorem d9_29 : decode qc9 29 = .ok (.areturn, 1) := by decide +kernel
abbrev rr_ai : Room := { frames := 4, cells := 1, slots := 1, locals := 53 }
abbrev y_9 : MethodName := ⟨cn_0, "asInt", cn_14⟩
theorem ef_ai (m : MethodId) (q0 : Int64) : entryFrame m #[(.long q0)] 2 = mkF m 0 #[vL q0, s_] [] := by first | (simp [entryFrame, mkF, argsToLocals, Value.category]; done) | rfl
def Q_ai (Z : State) (w_0 : Addr) (w_1 : Addr) (w_2 : Addr) (w_3 : Addr) (w_4 : Addr) (w_5 : Addr) (w_6 : Addr) (w_7 : Int32) (w_8 : Value) (q0 : Int64) (h0 : Heap) (n0 : Nat) (v : Option Value) (h : Heap) (L : List Loc) : Prop := ∃ b : Addr, v = some (.ref b) ∧ Fr n0 L ∧ Keep h0 h [] ∧ Exa Z h b cn_3 ∧ Fld Z h b cn_3 "value" "J" (.long q0)
theorem rm_ai (l : Launch) (Z : State) (a0 : Array Value) (hw : HW Z a0) (ws : List Jvm.Cond) (w_0 : Addr) (w_1 : Addr) (w_2 : Addr) (w_3 : Addr) (w_4 : Addr) (w_5 : Addr) (w_6 : Addr) (w_7 : Int32) (w_8 : Value) (q0 : Int64) (h0 : Heap) (n0 : Nat) (Z0 : n0 ≤ h0.size) (ST : own_St Z w_0 w_1 w_2 w_3 w_4 w_5 w_6 w_7 w_8) (O0 : Old Z n0 h0) (hrt : q0 = ((q0.toInt32).toInt64)) :
    MetFree l y_9 (head1 (Jvm.Cond.code y_9 prog_2_method_4_code 2 (some (.object cn_3)) :: ws) rr_ai) (fun a U => a = #[(.long q0)] ∧ Z.Warmed39 U.vm ∧ U.heap = h0) (fun _ _ _ _ _ => True) (fun _ U o U' => ∃ v L, o = .returned v ∧ Q_ai Z w_0 w_1 w_2 w_3 w_4 w_5 w_6 w_7 w_8 q0 h0 n0 v U'.heap L ∧ FrameEnd U o U' L rr_ai.cells rr_ai.slots) := by
  refine MetFree.of_bodySF (plainFor_of_name pn_4) hisR ?_
  intro p e s m args below meth c s₁ Bd hml0 hP hK
  obtain ⟨rfl, hZ, hh⟩ := hP
  have hx := Bd.exec
  have hby := Bd.bytes
  have B := @hb _ _ hby
  have hml : c.maxLocals = 2 := hml0
  have hown : s.vm.findClass cn_0 = some m.cls := findClass_of_methodNamed Bd.named
  have X0 : Stand p l e rr_ai s m #[(.long q0)] below meth c s₁ [] 0 0 := Stand.of_body Bd
  have e0 : s₁.heap = h0 := by rw [← hh, Bd.state]; rfl
  have N0 := Fr.nil n0
  have K0 : Keep h0 h0 [] := Keep.refl _ _
  obtain ⟨G, step, ret, fin⟩ := own_openX X0 (rr_ai.cells) (rr_ai.slots) (Q_ai Z w_0 w_1 w_2 w_3 w_4 w_5 w_6 w_7 w_8 q0 h0 n0) Bd.notSynchronized
  refine fin (g := entryFrame m #[(.long q0)] 2) ?_
  rw [ef_ai m q0]
  refine step (fun t k => XS.lloadN X0.here hx rfl (B d9_0) rfl k) ?_
  refine step (fun t k => XS.lloadN X0.here hx rfl (B d9_1) rfl k) ?_
  refine step (fun t k => XS.l2i X0.here hx rfl (B d9_2) rfl k) ?_
  refine step (fun t k => XS.i2l X0.here hx rfl (B d9_3) rfl k) ?_
  refine step (fun t k => XS.lcmp X0.here hx rfl (B d9_4) rfl k) ?_
  refine step (fun t k => XS.ifYes X0.here hx rfl (pc0 := 5) (pc' := 25) rfl (B d9_5) rfl ((if0 _ _).trans (teq ((lw_eq _ _).mpr hrt)).1) (by decide) (by decide) k) ?_
  show G s₁ (mkF m 25 #[vL q0, s_] [])
  refine step (fun t k => XS.lloadN X0.here hx rfl (B d9_25) rfl k) ?_
  have hK1 := (backOf (R := rr_ai) (p := p) (e := e) (below := below) (s := s) (args := #[(.long q0)]) (len := 3) (W := 0) (rm_vo l Z a0 hw [] w_0 w_1 w_2 w_3 w_4 w_5 w_6 w_7 w_8 q0 h0 n0 (own_old_le O0) ST O0) hZ (ww34 hw) (ww33 hw) (by decide) (by decide))
  obtain ⟨_, _, ⟨T1, L1, k1, n1⟩, -, X1, ⟨Lc1, hQ1, l1, y1, z1⟩, st1⟩ := Jvm.LawKit.callS X0 hx (y := y_6) hown (mvT hZ (ww68 hw)) (mvT hZ (ww32 hw)) (mvT hZ (ww33 hw)) (mvT hZ (ww34 hw)) (by decide) hK1 (g := (mkF m 26 #[vL q0, s_] [(.long q0)])) rfl (by rw [hml]; rfl) (argsL := [(.long q0)]) (rest := []) (lenOf pd_3 rfl) rfl (by show 2 * 0 + _ ≤ _; exact Nat.le_of_eq rfl) (B d9_26) (fun _ _ => ⟨rfl, e0, (by decide : 0 + 1 ≤ _), (by decide : 0 + 1 ≤ _)⟩)
  dsimp only [Pt.U, Pt.locs, Pt.cells, Pt.slots] at X1 l1 y1 z1 st1 hQ1
  subst l1 y1 z1
  obtain ⟨b1, rfl, N1q, K1q, Y1_0, Y1_1⟩ := hQ1
  have N1 := Fr.app N0 N1q
  obtain ⟨lc1, X1, N1⟩ := own_gen X1 N1
  have K1 : Keep h0 T1.heap [] := K0.trans K1q all0
  refine step (fun t k => st1 t k) ?_
  exact ret (v := some (.ref b1)) X1 (fun h => by rw [Bd.returns] at h; cases h) (fun fs hr => retA X1 hx Bd.returns rfl rfl (B d9_29) hr) rfl ⟨b1, rfl, N1, K1, Y1_0, Y1_1⟩ (by decide) (by decide)
theorem d10_0 : decode qc10 0 = .ok (.aload_n 0, 1) := by decide +kernel
theorem d10_1 : decode qc10 1 = .ok (.getfield 7, 3) := by decide +kernel
theorem ww51 (hw : HW Z a0) : Cond.before (Cond.fieldLink cn_7 7 cn_7 "ordinal" "I") a0 Z = true := own_w hw 51 rfl
theorem d10_4 : decode qc10 4 = .ok (.ireturn, 1) := by decide +kernel
abbrev rr_ord : Room := { frames := 0, cells := 0, slots := 0, locals := 0 }
abbrev y_10 : MethodName := ⟨cn_7, "ordinal", "()I"⟩
theorem pn_6 : plainName cn_7 = true := by first | (simp [plainName, overriddenIn]; done) | decide +kernel
theorem ef_ord (m : MethodId) (o0 : Addr) : entryFrame m #[(.ref o0)] 1 = mkF m 0 #[vR o0] [] := by first | (simp [entryFrame, mkF, argsToLocals, Value.category]; done) | rfl
def f_ord (w_0 : Addr) (w_1 : Addr) (w_2 : Addr) (w_3 : Addr) (w_4 : Addr) (w_5 : Addr) (w_6 : Addr) (w_7 : Int32) (w_8 : Value) (o0 : Addr) (p1 : Int32) : Int32 := p1
def Q_ord (Z : State) (w_0 : Addr) (w_1 : Addr) (w_2 : Addr) (w_3 : Addr) (w_4 : Addr) (w_5 : Addr) (w_6 : Addr) (w_7 : Int32) (w_8 : Value) (o0 : Addr) (p1 : Int32) (h0 : Heap) (n0 : Nat) (v : Option Value) (h : Heap) (L : List Loc) : Prop := v = some (.int (f_ord w_0 w_1 w_2 w_3 w_4 w_5 w_6 w_7 w_8 o0 p1)) ∧ Fr n0 L ∧ h = h0
theorem rm_ord (l : Launch) (Z : State) (a0 : Array Value) (hw : HW Z a0) (ws : List Jvm.Cond) (w_0 : Addr) (w_1 : Addr) (w_2 : Addr) (w_3 : Addr) (w_4 : Addr) (w_5 : Addr) (w_6 : Addr) (w_7 : Int32) (w_8 : Value) (o0 : Addr) (p1 : Int32) (h0 : Heap) (n0 : Nat) (Z0 : n0 ≤ h0.size) (ST : own_St Z w_0 w_1 w_2 w_3 w_4 w_5 w_6 w_7 w_8) (O0 : Old Z n0 h0) (Fo : Fld Z h0 o0 cn_7 "ordinal" "I" (.int p1)) :
    MetFree l y_10 (head1 (Jvm.Cond.code y_10 jdk_37_method_2_code 1 (some .int) :: ws) rr_ord) (fun a U => a = #[(.ref o0)] ∧ Z.Warmed39 U.vm ∧ U.heap = h0) (fun _ _ _ _ _ => True) (fun _ U o U' => ∃ v L, o = .returned v ∧ Q_ord Z w_0 w_1 w_2 w_3 w_4 w_5 w_6 w_7 w_8 o0 p1 h0 n0 v U'.heap L ∧ FrameEnd U o U' L rr_ord.cells rr_ord.slots) := by
  refine MetFree.of_bodySF (plainFor_of_name pn_6) hisR ?_
  intro p e s m args below meth c s₁ Bd hml0 hP hK
  obtain ⟨rfl, hZ, hh⟩ := hP
  have hx := Bd.exec
  have hby := Bd.bytes
  have B := @hb _ _ hby
  have hml : c.maxLocals = 1 := hml0
  have hown : s.vm.findClass cn_7 = some m.cls := findClass_of_methodNamed Bd.named
  have X0 : Stand p l e rr_ord s m #[(.ref o0)] below meth c s₁ [] 0 0 := Stand.of_body Bd
  have e0 : s₁.heap = h0 := by rw [← hh, Bd.state]; rfl
  have N0 := Fr.nil n0
  obtain ⟨G, step, ret, fin⟩ := own_openX X0 (rr_ord.cells) (rr_ord.slots) (Q_ord Z w_0 w_1 w_2 w_3 w_4 w_5 w_6 w_7 w_8 o0 p1 h0 n0) Bd.notSynchronized
  refine fin (g := entryFrame m #[(.ref o0)] 1) ?_
  rw [ef_ord m o0]
  refine step (fun t k => XS.aloadN X0.here hx rfl (B d10_0) rfl rfl k) ?_
  obtain ⟨T1, X1, e1, st1⟩ := getF X0 hx hZ hown (host := "") (Or.inl (ww51 hw)) Via.refl e0 Fo (g := (mkF m 1 #[vR o0] [(.ref o0)])) rfl rfl (B d10_1)
  refine step st1 ?_
  exact ret (v := some (.int p1)) X1 (fun h => by rw [Bd.returns] at h; cases h) (fun fs hr => retI X1 hx Bd.returns (B d10_4) hr) e1 ⟨rfl, N0, rfl⟩ (by decide) (by decide)
def own_size (q : Int64) (n : Int32) : Prop := (n = (1 : Int32) ∧ ¬ (q < (0 : Int64)) ∧ (-10 : Int64) < (-q)) ∨ (n = (2 : Int32) ∧ q < (0 : Int64) ∧ (-10 : Int64) < q) ∨ (n = (2 : Int32) ∧ ¬ (q < (0 : Int64)) ∧ (-100 : Int64) < (-q) ∧ ¬ ((-10 : Int64) < (-q))) ∨ (n = (3 : Int32) ∧ q < (0 : Int64) ∧ (-100 : Int64) < q ∧ ¬ ((-10 : Int64) < q)) ∨ (n = (3 : Int32) ∧ ¬ (q < (0 : Int64)) ∧ (-1000 : Int64) < (-q) ∧ ¬ ((-100 : Int64) < (-q))) ∨ (n = (4 : Int32) ∧ q < (0 : Int64) ∧ (-1000 : Int64) < q ∧ ¬ ((-100 : Int64) < q)) ∨ (n = (4 : Int32) ∧ ¬ (q < (0 : Int64)) ∧ (-10000 : Int64) < (-q) ∧ ¬ ((-1000 : Int64) < (-q))) ∨ (n = (5 : Int32) ∧ q < (0 : Int64) ∧ (-10000 : Int64) < q ∧ ¬ ((-1000 : Int64) < q)) ∨ (n = (5 : Int32) ∧ ¬ (q < (0 : Int64)) ∧ (-100000 : Int64) < (-q) ∧ ¬ ((-10000 : Int64) < (-q))) ∨ (n = (6 : Int32) ∧ q < (0 : Int64) ∧ (-100000 : Int64) < q ∧ ¬ ((-10000 : Int64) < q)) ∨ (n = (6 : Int32) ∧ ¬ (q < (0 : Int64)) ∧ (-1000000 : Int64) < (-q) ∧ ¬ ((-100000 : Int64) < (-q))) ∨ (n = (7 : Int32) ∧ q < (0 : Int64) ∧ (-1000000 : Int64) < q ∧ ¬ ((-100000 : Int64) < q)) ∨ (n = (7 : Int32) ∧ ¬ (q < (0 : Int64)) ∧ (-10000000 : Int64) < (-q) ∧ ¬ ((-1000000 : Int64) < (-q))) ∨ (n = (8 : Int32) ∧ q < (0 : Int64) ∧ (-10000000 : Int64) < q ∧ ¬ ((-1000000 : Int64) < q)) ∨ (n = (8 : Int32) ∧ ¬ (q < (0 : Int64)) ∧ (-100000000 : Int64) < (-q) ∧ ¬ ((-10000000 : Int64) < (-q))) ∨ (n = (9 : Int32) ∧ q < (0 : Int64) ∧ (-100000000 : Int64) < q ∧ ¬ ((-10000000 : Int64) < q)) ∨ (n = (9 : Int32) ∧ ¬ (q < (0 : Int64)) ∧ (-1000000000 : Int64) < (-q) ∧ ¬ ((-100000000 : Int64) < (-q))) ∨ (n = (10 : Int32) ∧ q < (0 : Int64) ∧ (-1000000000 : Int64) < q ∧ ¬ ((-100000000 : Int64) < q)) ∨ (n = (10 : Int32) ∧ ¬ (q < (0 : Int64)) ∧ ¬ ((-1000000000 : Int64) < (-q))) ∨ (n = (11 : Int32) ∧ q < (0 : Int64) ∧ ¬ ((-1000000000 : Int64) < q))
theorem own_szb {q : Int64} {n : Int32} (h : own_size q n) : ¬ n < 0 ∧ n.toNatClampNeg ≤ 11 := by
  unfold own_size at h
  rcases h with ⟨rfl, -⟩ | ⟨rfl, -⟩ | ⟨rfl, -⟩ | ⟨rfl, -⟩ | ⟨rfl, -⟩ | ⟨rfl, -⟩ | ⟨rfl, -⟩ | ⟨rfl, -⟩ | ⟨rfl, -⟩ | ⟨rfl, -⟩ | ⟨rfl, -⟩ | ⟨rfl, -⟩ | ⟨rfl, -⟩ | ⟨rfl, -⟩ | ⟨rfl, -⟩ | ⟨rfl, -⟩ | ⟨rfl, -⟩ | ⟨rfl, -⟩ | ⟨rfl, -⟩ | ⟨rfl, -⟩ <;> exact ⟨by decide, by decide⟩
theorem d11_0 : decode qc11 0 = .ok (.iconst 1, 1) := by decide +kernel
theorem d11_1 : decode qc11 1 = .ok (.istore_n 2, 1) := by decide +kernel
theorem d11_2 : decode qc11 2 = .ok (.lload_n 0, 1) := by decide +kernel
theorem d11_3 : decode qc11 3 = .ok (.lconst 0, 1) := by decide +kernel
theorem d11_4 : decode qc11 4 = .ok (.lcmp, 1) := by decide +kernel
theorem d11_5 : decode qc11 5 = .ok (.ifCond .lt 8, 3) := by decide +kernel
theorem d11_13 : decode qc11 13 = .ok (.ldc2_w 140, 3) := by decide +kernel
theorem ww90 (hw : HW Z a0) : Cond.before (Cond.constantLong cn_3 140 (-10 : Int64)) a0 Z = true := own_w hw 90 rfl
theorem d11_16 : decode qc11 16 = .ok (.lstore_n 3, 1) := by decide +kernel
theorem d11_17 : decode qc11 17 = .ok (.iconst 1, 1) := by decide +kernel
theorem d11_18 : decode qc11 18 = .ok (.istore 5, 2) := by decide +kernel
theorem d11_20 : decode qc11 20 = .ok (.iload 5, 2) := by decide +kernel
theorem d11_22 : decode qc11 22 = .ok (.bipush 19, 2) := by decide +kernel
theorem d11_24 : decode qc11 24 = .ok (.if_icmp .ge 26, 3) := by decide +kernel
theorem d11_27 : decode qc11 27 = .ok (.lload_n 0, 1) := by decide +kernel
theorem d11_28 : decode qc11 28 = .ok (.lload_n 3, 1) := by decide +kernel
theorem d11_29 : decode qc11 29 = .ok (.lcmp, 1) := by decide +kernel
theorem d11_30 : decode qc11 30 = .ok (.ifCond .le 8, 3) := by decide +kernel
theorem d11_33 : decode qc11 33 = .ok (.iload 5, 2) := by decide +kernel
theorem d11_35 : decode qc11 35 = .ok (.iload_n 2, 1) := by decide +kernel
theorem d11_36 : decode qc11 36 = .ok (.iadd, 1) := by decide +kernel
theorem d11_37 : decode qc11 37 = .ok (.ireturn, 1) := by decide +kernel
theorem d11_38 : decode qc11 38 = .ok (.ldc2_w 53, 3) := by decide +kernel
theorem ww184 (hw : HW Z a0) : Cond.before (Cond.constantLong cn_3 53 (10 : Int64)) a0 Z = true := own_w hw 184 rfl
theorem d11_41 : decode qc11 41 = .ok (.lload_n 3, 1) := by decide +kernel
theorem d11_42 : decode qc11 42 = .ok (.lmul, 1) := by decide +kernel
theorem d11_43 : decode qc11 43 = .ok (.lstore_n 3, 1) := by decide +kernel
theorem d11_44 : decode qc11 44 = .ok (.iinc 5 1, 3) := by decide +kernel
theorem d11_47 : decode qc11 47 = .ok (.goto (-27), 3) := by decide +kernel
theorem d11_8 : decode qc11 8 = .ok (.iconst 0, 1) := by decide +kernel
theorem d11_9 : decode qc11 9 = .ok (.istore_n 2, 1) := by decide +kernel
theorem d11_10 : decode qc11 10 = .ok (.lload_n 0, 1) := by decide +kernel
theorem d11_11 : decode qc11 11 = .ok (.lneg, 1) := by decide +kernel
theorem d11_12 : decode qc11 12 = .ok (.lstore_n 0, 1) := by decide +kernel
abbrev rr_ss : Room := { frames := 0, cells := 0, slots := 0, locals := 0 }
abbrev y_11 : MethodName := ⟨cn_3, "stringSize", "(J)I"⟩
theorem ef_ss (m : MethodId) (q0 : Int64) : entryFrame m #[(.long q0)] 6 = mkF m 0 #[vL q0, s_, u_, u_, u_, u_] [] := by first | (simp [entryFrame, mkF, argsToLocals, Value.category]; done) | rfl
def Q_ss (Z : State) (w_0 : Addr) (w_1 : Addr) (w_2 : Addr) (w_3 : Addr) (w_4 : Addr) (w_5 : Addr) (w_6 : Addr) (w_7 : Int32) (w_8 : Value) (q0 : Int64) (h0 : Heap) (n0 : Nat) (v : Option Value) (h : Heap) (L : List Loc) : Prop := ∃ n : Int32, v = some (.int n) ∧ Fr n0 L ∧ Keep h0 h [] ∧ own_size q0 n
theorem rm_ss (l : Launch) (Z : State) (a0 : Array Value) (hw : HW Z a0) (ws : List Jvm.Cond) (w_0 : Addr) (w_1 : Addr) (w_2 : Addr) (w_3 : Addr) (w_4 : Addr) (w_5 : Addr) (w_6 : Addr) (w_7 : Int32) (w_8 : Value) (q0 : Int64) (h0 : Heap) (n0 : Nat) (Z0 : n0 ≤ h0.size) (ST : own_St Z w_0 w_1 w_2 w_3 w_4 w_5 w_6 w_7 w_8) (O0 : Old Z n0 h0) (hrg : -2147483648 ≤ q0.toInt ∧ q0.toInt ≤ 2147483647) :
    MetFree l y_11 (head1 (Jvm.Cond.code y_11 jdk_35_method_15_code 6 (some .int) :: ws) rr_ss) (fun a U => a = #[(.long q0)] ∧ Z.Warmed39 U.vm ∧ U.heap = h0) (fun _ _ _ _ _ => True) (fun _ U o U' => ∃ v L, o = .returned v ∧ Q_ss Z w_0 w_1 w_2 w_3 w_4 w_5 w_6 w_7 w_8 q0 h0 n0 v U'.heap L ∧ FrameEnd U o U' L rr_ss.cells rr_ss.slots) := by
  refine MetFree.of_bodySF (plainFor_of_name pn_5) hisR ?_
  intro p e s m args below meth c s₁ Bd hml0 hP hK
  obtain ⟨rfl, hZ, hh⟩ := hP
  have hx := Bd.exec
  have hby := Bd.bytes
  have B := @hb _ _ hby
  have hml : c.maxLocals = 6 := hml0
  have hown : s.vm.findClass cn_3 = some m.cls := findClass_of_methodNamed Bd.named
  have X0 : Stand p l e rr_ss s m #[(.long q0)] below meth c s₁ [] 0 0 := Stand.of_body Bd
  have e0 : s₁.heap = h0 := by rw [← hh, Bd.state]; rfl
  have N0 := Fr.nil n0
  have K0 : Keep h0 h0 [] := Keep.refl _ _
  obtain ⟨G, step, ret, fin⟩ := own_openX X0 (rr_ss.cells) (rr_ss.slots) (Q_ss Z w_0 w_1 w_2 w_3 w_4 w_5 w_6 w_7 w_8 q0 h0 n0) Bd.notSynchronized
  refine fin (g := entryFrame m #[(.long q0)] 6) ?_
  rw [ef_ss m q0]
  refine step (fun t k => XS.iconst X0.here hx rfl (B d11_0) k) ?_
  refine step (fun t k => XS.istoreN X0.here hx rfl (B d11_1) rfl (l' := #[vL q0, s_, vI 1, u_, u_, u_]) rfl k) ?_
  refine step (fun t k => XS.lloadN X0.here hx rfl (B d11_2) rfl k) ?_
  refine step (fun t k => XS.lconst X0.here hx rfl (B d11_3) k) ?_
  refine step (fun t k => XS.lcmp X0.here hx rfl (B d11_4) rfl k) ?_
  by_cases hc1 : q0 < (0 : Int64)
  · skip
    refine step (fun t k => XS.ifYes X0.here hx rfl (pc0 := 5) (pc' := 13) rfl (B d11_5) rfl ((if0 _ _).trans (tlt ((lw_lt _ _).mpr hc1)).1) (by decide) (by decide) k) ?_
    show G s₁ (mkF m 13 #[vL q0, s_, vI 1, u_, u_, u_] [])
    have q2 := X0.ldc2Long hx hown (mvT hZ (ww90 hw)) (g := (mkF m 13 #[vL q0, s_, vI 1, u_, u_, u_] [])) rfl (B d11_13)
    refine step q2 ?_
    refine step (fun t k => XS.lstoreN X0.here hx rfl (B d11_16) rfl (l' := #[vL q0, s_, vI 1, vL ((-10)), s_, u_]) rfl k) ?_
    refine step (fun t k => XS.iconst X0.here hx rfl (B d11_17) k) ?_
    refine step (fun t k => XS.istore X0.here hx rfl (B d11_18) rfl (l' := #[vL q0, s_, vI 1, vL ((-10)), s_, vI 1]) rfl k) ?_
    refine step (fun t k => XS.iload X0.here hx rfl (B d11_20) rfl k) ?_
    refine step (fun t k => XS.bipush X0.here hx rfl (B d11_22) k) ?_
    show G s₁ (mkF m 24 #[vL q0, s_, vI 1, vL ((-10)), s_, vI 1] [(.int 19), (.int 1)])
    refine step (fun t k => XS.icmpNo X0.here hx rfl (B d11_24) rfl (tlt (by decide : (1 : Int32) < (19 : Int32))).2.1 k) ?_
    refine step (fun t k => XS.lloadN X0.here hx rfl (B d11_27) rfl k) ?_
    refine step (fun t k => XS.lloadN X0.here hx rfl (B d11_28) rfl k) ?_
    refine step (fun t k => XS.lcmp X0.here hx rfl (B d11_29) rfl k) ?_
    by_cases hc3 : (-10 : Int64) < q0
    · skip
      refine step (fun t k => XS.ifNo X0.here hx rfl (B d11_30) rfl ((if0 _ _).trans (tlt ((lw_gt _ _).mpr hc3)).2.2.2) k) ?_
      refine step (fun t k => XS.iload X0.here hx rfl (B d11_33) rfl k) ?_
      show G s₁ (mkF m 35 #[vL q0, s_, vI 1, vL ((-10)), s_, vI 1] [(.int 1)])
      refine step (fun t k => XS.iloadN X0.here hx rfl (B d11_35) rfl k) ?_
      refine step (fun t k => XS.iadd X0.here hx rfl (B d11_36) rfl k) ?_
      show G s₁ (mkF m 37 #[vL q0, s_, vI 1, vL ((-10)), s_, vI 1] [(.int ((1 : Int32) + (1 : Int32)))])
      rw [(by decide : ((1 : Int32) + (1 : Int32)) = (2 : Int32))]
      exact ret (v := some (.int 2)) X0 (fun h => by rw [Bd.returns] at h; cases h) (fun fs hr => retI X0 hx Bd.returns (B d11_37) hr) e0 ⟨(2 : Int32), rfl, N0, K0, (Or.inr (Or.inl ⟨rfl, hc1, hc3⟩))⟩ (by decide) (by decide)
    · skip
      refine step (fun t k => XS.ifYes X0.here hx rfl (pc0 := 30) (pc' := 38) rfl (B d11_30) rfl ((if0 _ _).trans (flt (fun q => hc3 ((lw_gt _ _).mp q))).2.2.2) (by decide) (by decide) k) ?_
      have q4 := X0.ldc2Long hx hown (mvT hZ (ww184 hw)) (g := (mkF m 38 #[vL q0, s_, vI 1, vL ((-10)), s_, vI 1] [])) rfl (B d11_38)
      refine step q4 ?_
      refine step (fun t k => XS.lloadN X0.here hx rfl (B d11_41) rfl k) ?_
      refine step (fun t k => XS.lmul X0.here hx rfl (B d11_42) rfl k) ?_
      show G s₁ (mkF m 43 #[vL q0, s_, vI 1, vL ((-10)), s_, vI 1] [(.long ((10 : Int64) * (-10 : Int64)))])
      rw [(by decide : ((10 : Int64) * (-10 : Int64)) = (-100 : Int64))]
      refine step (fun t k => XS.lstoreN X0.here hx rfl (B d11_43) rfl (l' := #[vL q0, s_, vI 1, vL ((-100)), s_, vI 1]) rfl k) ?_
      refine step (fun t k => XS.iinc X0.here hx rfl (B d11_44) rfl (l' := #[vL q0, s_, vI 1, vL ((-100)), s_, vI (((1 : Int32) + (1 : Int32)))]) rfl k) ?_
      show G s₁ (mkF m 47 #[vL q0, s_, vI 1, vL ((-100)), s_, vI (((1 : Int32) + (1 : Int32)))] [])
      rw [(by decide : ((1 : Int32) + (1 : Int32)) = (2 : Int32))]
      refine step (fun t k => XS.goto X0.here hx rfl (pc0 := 47) (pc' := 20) rfl (B d11_47) (by decide) (by decide) k) ?_
      refine step (fun t k => XS.iload X0.here hx rfl (B d11_20) rfl k) ?_
      refine step (fun t k => XS.bipush X0.here hx rfl (B d11_22) k) ?_
      refine step (fun t k => XS.icmpNo X0.here hx rfl (B d11_24) rfl (tlt (by decide : (2 : Int32) < (19 : Int32))).2.1 k) ?_
      refine step (fun t k => XS.lloadN X0.here hx rfl (B d11_27) rfl k) ?_
      refine step (fun t k => XS.lloadN X0.here hx rfl (B d11_28) rfl k) ?_
      show G s₁ (mkF m 29 #[vL q0, s_, vI 1, vL ((-100)), s_, vI 2] [(.long (-100)), (.long q0)])
      refine step (fun t k => XS.lcmp X0.here hx rfl (B d11_29) rfl k) ?_
      by_cases hc5 : (-100 : Int64) < q0
      · skip
        refine step (fun t k => XS.ifNo X0.here hx rfl (B d11_30) rfl ((if0 _ _).trans (tlt ((lw_gt _ _).mpr hc5)).2.2.2) k) ?_
        refine step (fun t k => XS.iload X0.here hx rfl (B d11_33) rfl k) ?_
        refine step (fun t k => XS.iloadN X0.here hx rfl (B d11_35) rfl k) ?_
        refine step (fun t k => XS.iadd X0.here hx rfl (B d11_36) rfl k) ?_
        show G s₁ (mkF m 37 #[vL q0, s_, vI 1, vL ((-100)), s_, vI 2] [(.int ((2 : Int32) + (1 : Int32)))])
        rw [(by decide : ((2 : Int32) + (1 : Int32)) = (3 : Int32))]
        exact ret (v := some (.int 3)) X0 (fun h => by rw [Bd.returns] at h; cases h) (fun fs hr => retI X0 hx Bd.returns (B d11_37) hr) e0 ⟨(3 : Int32), rfl, N0, K0, (Or.inr (Or.inr (Or.inr (Or.inl ⟨rfl, hc1, hc5, hc3⟩))))⟩ (by decide) (by decide)
      · skip
        refine step (fun t k => XS.ifYes X0.here hx rfl (pc0 := 30) (pc' := 38) rfl (B d11_30) rfl ((if0 _ _).trans (flt (fun q => hc5 ((lw_gt _ _).mp q))).2.2.2) (by decide) (by decide) k) ?_
        have q6 := X0.ldc2Long hx hown (mvT hZ (ww184 hw)) (g := (mkF m 38 #[vL q0, s_, vI 1, vL ((-100)), s_, vI 2] [])) rfl (B d11_38)
        refine step q6 ?_
        refine step (fun t k => XS.lloadN X0.here hx rfl (B d11_41) rfl k) ?_
        refine step (fun t k => XS.lmul X0.here hx rfl (B d11_42) rfl k) ?_
        show G s₁ (mkF m 43 #[vL q0, s_, vI 1, vL ((-100)), s_, vI 2] [(.long ((10 : Int64) * (-100 : Int64)))])
        rw [(by decide : ((10 : Int64) * (-100 : Int64)) = (-1000 : Int64))]
        refine step (fun t k => XS.lstoreN X0.here hx rfl (B d11_43) rfl (l' := #[vL q0, s_, vI 1, vL ((-1000)), s_, vI 2]) rfl k) ?_
        refine step (fun t k => XS.iinc X0.here hx rfl (B d11_44) rfl (l' := #[vL q0, s_, vI 1, vL ((-1000)), s_, vI (((2 : Int32) + (1 : Int32)))]) rfl k) ?_
        show G s₁ (mkF m 47 #[vL q0, s_, vI 1, vL ((-1000)), s_, vI (((2 : Int32) + (1 : Int32)))] [])
        rw [(by decide : ((2 : Int32) + (1 : Int32)) = (3 : Int32))]
        refine step (fun t k => XS.goto X0.here hx rfl (pc0 := 47) (pc' := 20) rfl (B d11_47) (by decide) (by decide) k) ?_
        refine step (fun t k => XS.iload X0.here hx rfl (B d11_20) rfl k) ?_
        refine step (fun t k => XS.bipush X0.here hx rfl (B d11_22) k) ?_
        refine step (fun t k => XS.icmpNo X0.here hx rfl (B d11_24) rfl (tlt (by decide : (3 : Int32) < (19 : Int32))).2.1 k) ?_
        refine step (fun t k => XS.lloadN X0.here hx rfl (B d11_27) rfl k) ?_
        refine step (fun t k => XS.lloadN X0.here hx rfl (B d11_28) rfl k) ?_
        show G s₁ (mkF m 29 #[vL q0, s_, vI 1, vL ((-1000)), s_, vI 3] [(.long (-1000)), (.long q0)])
        refine step (fun t k => XS.lcmp X0.here hx rfl (B d11_29) rfl k) ?_
        by_cases hc7 : (-1000 : Int64) < q0
        · skip
          refine step (fun t k => XS.ifNo X0.here hx rfl (B d11_30) rfl ((if0 _ _).trans (tlt ((lw_gt _ _).mpr hc7)).2.2.2) k) ?_
          refine step (fun t k => XS.iload X0.here hx rfl (B d11_33) rfl k) ?_
          refine step (fun t k => XS.iloadN X0.here hx rfl (B d11_35) rfl k) ?_
          refine step (fun t k => XS.iadd X0.here hx rfl (B d11_36) rfl k) ?_
          show G s₁ (mkF m 37 #[vL q0, s_, vI 1, vL ((-1000)), s_, vI 3] [(.int ((3 : Int32) + (1 : Int32)))])
          rw [(by decide : ((3 : Int32) + (1 : Int32)) = (4 : Int32))]
          exact ret (v := some (.int 4)) X0 (fun h => by rw [Bd.returns] at h; cases h) (fun fs hr => retI X0 hx Bd.returns (B d11_37) hr) e0 ⟨(4 : Int32), rfl, N0, K0, (Or.inr (Or.inr (Or.inr (Or.inr (Or.inr (Or.inl ⟨rfl, hc1, hc7, hc5⟩))))))⟩ (by decide) (by decide)
        · skip
          refine step (fun t k => XS.ifYes X0.here hx rfl (pc0 := 30) (pc' := 38) rfl (B d11_30) rfl ((if0 _ _).trans (flt (fun q => hc7 ((lw_gt _ _).mp q))).2.2.2) (by decide) (by decide) k) ?_
          have q8 := X0.ldc2Long hx hown (mvT hZ (ww184 hw)) (g := (mkF m 38 #[vL q0, s_, vI 1, vL ((-1000)), s_, vI 3] [])) rfl (B d11_38)
          refine step q8 ?_
          refine step (fun t k => XS.lloadN X0.here hx rfl (B d11_41) rfl k) ?_
          refine step (fun t k => XS.lmul X0.here hx rfl (B d11_42) rfl k) ?_
          show G s₁ (mkF m 43 #[vL q0, s_, vI 1, vL ((-1000)), s_, vI 3] [(.long ((10 : Int64) * (-1000 : Int64)))])
          rw [(by decide : ((10 : Int64) * (-1000 : Int64)) = (-10000 : Int64))]
          refine step (fun t k => XS.lstoreN X0.here hx rfl (B d11_43) rfl (l' := #[vL q0, s_, vI 1, vL ((-10000)), s_, vI 3]) rfl k) ?_
          refine step (fun t k => XS.iinc X0.here hx rfl (B d11_44) rfl (l' := #[vL q0, s_, vI 1, vL ((-10000)), s_, vI (((3 : Int32) + (1 : Int32)))]) rfl k) ?_
          show G s₁ (mkF m 47 #[vL q0, s_, vI 1, vL ((-10000)), s_, vI (((3 : Int32) + (1 : Int32)))] [])
          rw [(by decide : ((3 : Int32) + (1 : Int32)) = (4 : Int32))]
          refine step (fun t k => XS.goto X0.here hx rfl (pc0 := 47) (pc' := 20) rfl (B d11_47) (by decide) (by decide) k) ?_
          refine step (fun t k => XS.iload X0.here hx rfl (B d11_20) rfl k) ?_
          refine step (fun t k => XS.bipush X0.here hx rfl (B d11_22) k) ?_
          refine step (fun t k => XS.icmpNo X0.here hx rfl (B d11_24) rfl (tlt (by decide : (4 : Int32) < (19 : Int32))).2.1 k) ?_
          refine step (fun t k => XS.lloadN X0.here hx rfl (B d11_27) rfl k) ?_
          refine step (fun t k => XS.lloadN X0.here hx rfl (B d11_28) rfl k) ?_
          show G s₁ (mkF m 29 #[vL q0, s_, vI 1, vL ((-10000)), s_, vI 4] [(.long (-10000)), (.long q0)])
          refine step (fun t k => XS.lcmp X0.here hx rfl (B d11_29) rfl k) ?_
          by_cases hc9 : (-10000 : Int64) < q0
          · skip
            refine step (fun t k => XS.ifNo X0.here hx rfl (B d11_30) rfl ((if0 _ _).trans (tlt ((lw_gt _ _).mpr hc9)).2.2.2) k) ?_
            refine step (fun t k => XS.iload X0.here hx rfl (B d11_33) rfl k) ?_
            refine step (fun t k => XS.iloadN X0.here hx rfl (B d11_35) rfl k) ?_
            refine step (fun t k => XS.iadd X0.here hx rfl (B d11_36) rfl k) ?_
            show G s₁ (mkF m 37 #[vL q0, s_, vI 1, vL ((-10000)), s_, vI 4] [(.int ((4 : Int32) + (1 : Int32)))])
            rw [(by decide : ((4 : Int32) + (1 : Int32)) = (5 : Int32))]
            exact ret (v := some (.int 5)) X0 (fun h => by rw [Bd.returns] at h; cases h) (fun fs hr => retI X0 hx Bd.returns (B d11_37) hr) e0 ⟨(5 : Int32), rfl, N0, K0, (Or.inr (Or.inr (Or.inr (Or.inr (Or.inr (Or.inr (Or.inr (Or.inl ⟨rfl, hc1, hc9, hc7⟩))))))))⟩ (by decide) (by decide)
          · skip
            refine step (fun t k => XS.ifYes X0.here hx rfl (pc0 := 30) (pc' := 38) rfl (B d11_30) rfl ((if0 _ _).trans (flt (fun q => hc9 ((lw_gt _ _).mp q))).2.2.2) (by decide) (by decide) k) ?_
            have q10 := X0.ldc2Long hx hown (mvT hZ (ww184 hw)) (g := (mkF m 38 #[vL q0, s_, vI 1, vL ((-10000)), s_, vI 4] [])) rfl (B d11_38)
            refine step q10 ?_
            refine step (fun t k => XS.lloadN X0.here hx rfl (B d11_41) rfl k) ?_
            refine step (fun t k => XS.lmul X0.here hx rfl (B d11_42) rfl k) ?_
            show G s₁ (mkF m 43 #[vL q0, s_, vI 1, vL ((-10000)), s_, vI 4] [(.long ((10 : Int64) * (-10000 : Int64)))])
            rw [(by decide : ((10 : Int64) * (-10000 : Int64)) = (-100000 : Int64))]
            refine step (fun t k => XS.lstoreN X0.here hx rfl (B d11_43) rfl (l' := #[vL q0, s_, vI 1, vL ((-100000)), s_, vI 4]) rfl k) ?_
            refine step (fun t k => XS.iinc X0.here hx rfl (B d11_44) rfl (l' := #[vL q0, s_, vI 1, vL ((-100000)), s_, vI (((4 : Int32) + (1 : Int32)))]) rfl k) ?_
            show G s₁ (mkF m 47 #[vL q0, s_, vI 1, vL ((-100000)), s_, vI (((4 : Int32) + (1 : Int32)))] [])
            rw [(by decide : ((4 : Int32) + (1 : Int32)) = (5 : Int32))]
            refine step (fun t k => XS.goto X0.here hx rfl (pc0 := 47) (pc' := 20) rfl (B d11_47) (by decide) (by decide) k) ?_
            refine step (fun t k => XS.iload X0.here hx rfl (B d11_20) rfl k) ?_
            refine step (fun t k => XS.bipush X0.here hx rfl (B d11_22) k) ?_
            refine step (fun t k => XS.icmpNo X0.here hx rfl (B d11_24) rfl (tlt (by decide : (5 : Int32) < (19 : Int32))).2.1 k) ?_
            refine step (fun t k => XS.lloadN X0.here hx rfl (B d11_27) rfl k) ?_
            refine step (fun t k => XS.lloadN X0.here hx rfl (B d11_28) rfl k) ?_
            show G s₁ (mkF m 29 #[vL q0, s_, vI 1, vL ((-100000)), s_, vI 5] [(.long (-100000)), (.long q0)])
            refine step (fun t k => XS.lcmp X0.here hx rfl (B d11_29) rfl k) ?_
            by_cases hc11 : (-100000 : Int64) < q0
            · skip
              refine step (fun t k => XS.ifNo X0.here hx rfl (B d11_30) rfl ((if0 _ _).trans (tlt ((lw_gt _ _).mpr hc11)).2.2.2) k) ?_
              refine step (fun t k => XS.iload X0.here hx rfl (B d11_33) rfl k) ?_
              refine step (fun t k => XS.iloadN X0.here hx rfl (B d11_35) rfl k) ?_
              refine step (fun t k => XS.iadd X0.here hx rfl (B d11_36) rfl k) ?_
              show G s₁ (mkF m 37 #[vL q0, s_, vI 1, vL ((-100000)), s_, vI 5] [(.int ((5 : Int32) + (1 : Int32)))])
              rw [(by decide : ((5 : Int32) + (1 : Int32)) = (6 : Int32))]
              exact ret (v := some (.int 6)) X0 (fun h => by rw [Bd.returns] at h; cases h) (fun fs hr => retI X0 hx Bd.returns (B d11_37) hr) e0 ⟨(6 : Int32), rfl, N0, K0, (Or.inr (Or.inr (Or.inr (Or.inr (Or.inr (Or.inr (Or.inr (Or.inr (Or.inr (Or.inl ⟨rfl, hc1, hc11, hc9⟩))))))))))⟩ (by decide) (by decide)
            · skip
              refine step (fun t k => XS.ifYes X0.here hx rfl (pc0 := 30) (pc' := 38) rfl (B d11_30) rfl ((if0 _ _).trans (flt (fun q => hc11 ((lw_gt _ _).mp q))).2.2.2) (by decide) (by decide) k) ?_
              have q12 := X0.ldc2Long hx hown (mvT hZ (ww184 hw)) (g := (mkF m 38 #[vL q0, s_, vI 1, vL ((-100000)), s_, vI 5] [])) rfl (B d11_38)
              refine step q12 ?_
              refine step (fun t k => XS.lloadN X0.here hx rfl (B d11_41) rfl k) ?_
              refine step (fun t k => XS.lmul X0.here hx rfl (B d11_42) rfl k) ?_
              show G s₁ (mkF m 43 #[vL q0, s_, vI 1, vL ((-100000)), s_, vI 5] [(.long ((10 : Int64) * (-100000 : Int64)))])
              rw [(by decide : ((10 : Int64) * (-100000 : Int64)) = (-1000000 : Int64))]
              refine step (fun t k => XS.lstoreN X0.here hx rfl (B d11_43) rfl (l' := #[vL q0, s_, vI 1, vL ((-1000000)), s_, vI 5]) rfl k) ?_
              refine step (fun t k => XS.iinc X0.here hx rfl (B d11_44) rfl (l' := #[vL q0, s_, vI 1, vL ((-1000000)), s_, vI (((5 : Int32) + (1 : Int32)))]) rfl k) ?_
              show G s₁ (mkF m 47 #[vL q0, s_, vI 1, vL ((-1000000)), s_, vI (((5 : Int32) + (1 : Int32)))] [])
              rw [(by decide : ((5 : Int32) + (1 : Int32)) = (6 : Int32))]
              refine step (fun t k => XS.goto X0.here hx rfl (pc0 := 47) (pc' := 20) rfl (B d11_47) (by decide) (by decide) k) ?_
              refine step (fun t k => XS.iload X0.here hx rfl (B d11_20) rfl k) ?_
              refine step (fun t k => XS.bipush X0.here hx rfl (B d11_22) k) ?_
              refine step (fun t k => XS.icmpNo X0.here hx rfl (B d11_24) rfl (tlt (by decide : (6 : Int32) < (19 : Int32))).2.1 k) ?_
              refine step (fun t k => XS.lloadN X0.here hx rfl (B d11_27) rfl k) ?_
              refine step (fun t k => XS.lloadN X0.here hx rfl (B d11_28) rfl k) ?_
              show G s₁ (mkF m 29 #[vL q0, s_, vI 1, vL ((-1000000)), s_, vI 6] [(.long (-1000000)), (.long q0)])
              refine step (fun t k => XS.lcmp X0.here hx rfl (B d11_29) rfl k) ?_
              by_cases hc13 : (-1000000 : Int64) < q0
              · skip
                refine step (fun t k => XS.ifNo X0.here hx rfl (B d11_30) rfl ((if0 _ _).trans (tlt ((lw_gt _ _).mpr hc13)).2.2.2) k) ?_
                refine step (fun t k => XS.iload X0.here hx rfl (B d11_33) rfl k) ?_
                refine step (fun t k => XS.iloadN X0.here hx rfl (B d11_35) rfl k) ?_
                refine step (fun t k => XS.iadd X0.here hx rfl (B d11_36) rfl k) ?_
                show G s₁ (mkF m 37 #[vL q0, s_, vI 1, vL ((-1000000)), s_, vI 6] [(.int ((6 : Int32) + (1 : Int32)))])
                rw [(by decide : ((6 : Int32) + (1 : Int32)) = (7 : Int32))]
                exact ret (v := some (.int 7)) X0 (fun h => by rw [Bd.returns] at h; cases h) (fun fs hr => retI X0 hx Bd.returns (B d11_37) hr) e0 ⟨(7 : Int32), rfl, N0, K0, (Or.inr (Or.inr (Or.inr (Or.inr (Or.inr (Or.inr (Or.inr (Or.inr (Or.inr (Or.inr (Or.inr (Or.inl ⟨rfl, hc1, hc13, hc11⟩))))))))))))⟩ (by decide) (by decide)
              · skip
                refine step (fun t k => XS.ifYes X0.here hx rfl (pc0 := 30) (pc' := 38) rfl (B d11_30) rfl ((if0 _ _).trans (flt (fun q => hc13 ((lw_gt _ _).mp q))).2.2.2) (by decide) (by decide) k) ?_
                have q14 := X0.ldc2Long hx hown (mvT hZ (ww184 hw)) (g := (mkF m 38 #[vL q0, s_, vI 1, vL ((-1000000)), s_, vI 6] [])) rfl (B d11_38)
                refine step q14 ?_
                refine step (fun t k => XS.lloadN X0.here hx rfl (B d11_41) rfl k) ?_
                refine step (fun t k => XS.lmul X0.here hx rfl (B d11_42) rfl k) ?_
                show G s₁ (mkF m 43 #[vL q0, s_, vI 1, vL ((-1000000)), s_, vI 6] [(.long ((10 : Int64) * (-1000000 : Int64)))])
                rw [(by decide : ((10 : Int64) * (-1000000 : Int64)) = (-10000000 : Int64))]
                refine step (fun t k => XS.lstoreN X0.here hx rfl (B d11_43) rfl (l' := #[vL q0, s_, vI 1, vL ((-10000000)), s_, vI 6]) rfl k) ?_
                refine step (fun t k => XS.iinc X0.here hx rfl (B d11_44) rfl (l' := #[vL q0, s_, vI 1, vL ((-10000000)), s_, vI (((6 : Int32) + (1 : Int32)))]) rfl k) ?_
                show G s₁ (mkF m 47 #[vL q0, s_, vI 1, vL ((-10000000)), s_, vI (((6 : Int32) + (1 : Int32)))] [])
                rw [(by decide : ((6 : Int32) + (1 : Int32)) = (7 : Int32))]
                refine step (fun t k => XS.goto X0.here hx rfl (pc0 := 47) (pc' := 20) rfl (B d11_47) (by decide) (by decide) k) ?_
                refine step (fun t k => XS.iload X0.here hx rfl (B d11_20) rfl k) ?_
                refine step (fun t k => XS.bipush X0.here hx rfl (B d11_22) k) ?_
                refine step (fun t k => XS.icmpNo X0.here hx rfl (B d11_24) rfl (tlt (by decide : (7 : Int32) < (19 : Int32))).2.1 k) ?_
                refine step (fun t k => XS.lloadN X0.here hx rfl (B d11_27) rfl k) ?_
                refine step (fun t k => XS.lloadN X0.here hx rfl (B d11_28) rfl k) ?_
                show G s₁ (mkF m 29 #[vL q0, s_, vI 1, vL ((-10000000)), s_, vI 7] [(.long (-10000000)), (.long q0)])
                refine step (fun t k => XS.lcmp X0.here hx rfl (B d11_29) rfl k) ?_
                by_cases hc15 : (-10000000 : Int64) < q0
                · skip
                  refine step (fun t k => XS.ifNo X0.here hx rfl (B d11_30) rfl ((if0 _ _).trans (tlt ((lw_gt _ _).mpr hc15)).2.2.2) k) ?_
                  refine step (fun t k => XS.iload X0.here hx rfl (B d11_33) rfl k) ?_
                  refine step (fun t k => XS.iloadN X0.here hx rfl (B d11_35) rfl k) ?_
                  refine step (fun t k => XS.iadd X0.here hx rfl (B d11_36) rfl k) ?_
                  show G s₁ (mkF m 37 #[vL q0, s_, vI 1, vL ((-10000000)), s_, vI 7] [(.int ((7 : Int32) + (1 : Int32)))])
                  rw [(by decide : ((7 : Int32) + (1 : Int32)) = (8 : Int32))]
                  exact ret (v := some (.int 8)) X0 (fun h => by rw [Bd.returns] at h; cases h) (fun fs hr => retI X0 hx Bd.returns (B d11_37) hr) e0 ⟨(8 : Int32), rfl, N0, K0, (Or.inr (Or.inr (Or.inr (Or.inr (Or.inr (Or.inr (Or.inr (Or.inr (Or.inr (Or.inr (Or.inr (Or.inr (Or.inr (Or.inl ⟨rfl, hc1, hc15, hc13⟩))))))))))))))⟩ (by decide) (by decide)
                · skip
                  refine step (fun t k => XS.ifYes X0.here hx rfl (pc0 := 30) (pc' := 38) rfl (B d11_30) rfl ((if0 _ _).trans (flt (fun q => hc15 ((lw_gt _ _).mp q))).2.2.2) (by decide) (by decide) k) ?_
                  have q16 := X0.ldc2Long hx hown (mvT hZ (ww184 hw)) (g := (mkF m 38 #[vL q0, s_, vI 1, vL ((-10000000)), s_, vI 7] [])) rfl (B d11_38)
                  refine step q16 ?_
                  refine step (fun t k => XS.lloadN X0.here hx rfl (B d11_41) rfl k) ?_
                  refine step (fun t k => XS.lmul X0.here hx rfl (B d11_42) rfl k) ?_
                  show G s₁ (mkF m 43 #[vL q0, s_, vI 1, vL ((-10000000)), s_, vI 7] [(.long ((10 : Int64) * (-10000000 : Int64)))])
                  rw [(by decide : ((10 : Int64) * (-10000000 : Int64)) = (-100000000 : Int64))]
                  refine step (fun t k => XS.lstoreN X0.here hx rfl (B d11_43) rfl (l' := #[vL q0, s_, vI 1, vL ((-100000000)), s_, vI 7]) rfl k) ?_
                  refine step (fun t k => XS.iinc X0.here hx rfl (B d11_44) rfl (l' := #[vL q0, s_, vI 1, vL ((-100000000)), s_, vI (((7 : Int32) + (1 : Int32)))]) rfl k) ?_
                  show G s₁ (mkF m 47 #[vL q0, s_, vI 1, vL ((-100000000)), s_, vI (((7 : Int32) + (1 : Int32)))] [])
                  rw [(by decide : ((7 : Int32) + (1 : Int32)) = (8 : Int32))]
                  refine step (fun t k => XS.goto X0.here hx rfl (pc0 := 47) (pc' := 20) rfl (B d11_47) (by decide) (by decide) k) ?_
                  refine step (fun t k => XS.iload X0.here hx rfl (B d11_20) rfl k) ?_
                  refine step (fun t k => XS.bipush X0.here hx rfl (B d11_22) k) ?_
                  refine step (fun t k => XS.icmpNo X0.here hx rfl (B d11_24) rfl (tlt (by decide : (8 : Int32) < (19 : Int32))).2.1 k) ?_
                  refine step (fun t k => XS.lloadN X0.here hx rfl (B d11_27) rfl k) ?_
                  refine step (fun t k => XS.lloadN X0.here hx rfl (B d11_28) rfl k) ?_
                  show G s₁ (mkF m 29 #[vL q0, s_, vI 1, vL ((-100000000)), s_, vI 8] [(.long (-100000000)), (.long q0)])
                  refine step (fun t k => XS.lcmp X0.here hx rfl (B d11_29) rfl k) ?_
                  by_cases hc17 : (-100000000 : Int64) < q0
                  · skip
                    refine step (fun t k => XS.ifNo X0.here hx rfl (B d11_30) rfl ((if0 _ _).trans (tlt ((lw_gt _ _).mpr hc17)).2.2.2) k) ?_
                    refine step (fun t k => XS.iload X0.here hx rfl (B d11_33) rfl k) ?_
                    refine step (fun t k => XS.iloadN X0.here hx rfl (B d11_35) rfl k) ?_
                    refine step (fun t k => XS.iadd X0.here hx rfl (B d11_36) rfl k) ?_
                    show G s₁ (mkF m 37 #[vL q0, s_, vI 1, vL ((-100000000)), s_, vI 8] [(.int ((8 : Int32) + (1 : Int32)))])
                    rw [(by decide : ((8 : Int32) + (1 : Int32)) = (9 : Int32))]
                    exact ret (v := some (.int 9)) X0 (fun h => by rw [Bd.returns] at h; cases h) (fun fs hr => retI X0 hx Bd.returns (B d11_37) hr) e0 ⟨(9 : Int32), rfl, N0, K0, (Or.inr (Or.inr (Or.inr (Or.inr (Or.inr (Or.inr (Or.inr (Or.inr (Or.inr (Or.inr (Or.inr (Or.inr (Or.inr (Or.inr (Or.inr (Or.inl ⟨rfl, hc1, hc17, hc15⟩))))))))))))))))⟩ (by decide) (by decide)
                  · skip
                    refine step (fun t k => XS.ifYes X0.here hx rfl (pc0 := 30) (pc' := 38) rfl (B d11_30) rfl ((if0 _ _).trans (flt (fun q => hc17 ((lw_gt _ _).mp q))).2.2.2) (by decide) (by decide) k) ?_
                    have q18 := X0.ldc2Long hx hown (mvT hZ (ww184 hw)) (g := (mkF m 38 #[vL q0, s_, vI 1, vL ((-100000000)), s_, vI 8] [])) rfl (B d11_38)
                    refine step q18 ?_
                    refine step (fun t k => XS.lloadN X0.here hx rfl (B d11_41) rfl k) ?_
                    refine step (fun t k => XS.lmul X0.here hx rfl (B d11_42) rfl k) ?_
                    show G s₁ (mkF m 43 #[vL q0, s_, vI 1, vL ((-100000000)), s_, vI 8] [(.long ((10 : Int64) * (-100000000 : Int64)))])
                    rw [(by decide : ((10 : Int64) * (-100000000 : Int64)) = (-1000000000 : Int64))]
                    refine step (fun t k => XS.lstoreN X0.here hx rfl (B d11_43) rfl (l' := #[vL q0, s_, vI 1, vL ((-1000000000)), s_, vI 8]) rfl k) ?_
                    refine step (fun t k => XS.iinc X0.here hx rfl (B d11_44) rfl (l' := #[vL q0, s_, vI 1, vL ((-1000000000)), s_, vI (((8 : Int32) + (1 : Int32)))]) rfl k) ?_
                    show G s₁ (mkF m 47 #[vL q0, s_, vI 1, vL ((-1000000000)), s_, vI (((8 : Int32) + (1 : Int32)))] [])
                    rw [(by decide : ((8 : Int32) + (1 : Int32)) = (9 : Int32))]
                    refine step (fun t k => XS.goto X0.here hx rfl (pc0 := 47) (pc' := 20) rfl (B d11_47) (by decide) (by decide) k) ?_
                    refine step (fun t k => XS.iload X0.here hx rfl (B d11_20) rfl k) ?_
                    refine step (fun t k => XS.bipush X0.here hx rfl (B d11_22) k) ?_
                    refine step (fun t k => XS.icmpNo X0.here hx rfl (B d11_24) rfl (tlt (by decide : (9 : Int32) < (19 : Int32))).2.1 k) ?_
                    refine step (fun t k => XS.lloadN X0.here hx rfl (B d11_27) rfl k) ?_
                    refine step (fun t k => XS.lloadN X0.here hx rfl (B d11_28) rfl k) ?_
                    show G s₁ (mkF m 29 #[vL q0, s_, vI 1, vL ((-1000000000)), s_, vI 9] [(.long (-1000000000)), (.long q0)])
                    refine step (fun t k => XS.lcmp X0.here hx rfl (B d11_29) rfl k) ?_
                    by_cases hc19 : (-1000000000 : Int64) < q0
                    · skip
                      refine step (fun t k => XS.ifNo X0.here hx rfl (B d11_30) rfl ((if0 _ _).trans (tlt ((lw_gt _ _).mpr hc19)).2.2.2) k) ?_
                      refine step (fun t k => XS.iload X0.here hx rfl (B d11_33) rfl k) ?_
                      refine step (fun t k => XS.iloadN X0.here hx rfl (B d11_35) rfl k) ?_
                      refine step (fun t k => XS.iadd X0.here hx rfl (B d11_36) rfl k) ?_
                      show G s₁ (mkF m 37 #[vL q0, s_, vI 1, vL ((-1000000000)), s_, vI 9] [(.int ((9 : Int32) + (1 : Int32)))])
                      rw [(by decide : ((9 : Int32) + (1 : Int32)) = (10 : Int32))]
                      exact ret (v := some (.int 10)) X0 (fun h => by rw [Bd.returns] at h; cases h) (fun fs hr => retI X0 hx Bd.returns (B d11_37) hr) e0 ⟨(10 : Int32), rfl, N0, K0, (Or.inr (Or.inr (Or.inr (Or.inr (Or.inr (Or.inr (Or.inr (Or.inr (Or.inr (Or.inr (Or.inr (Or.inr (Or.inr (Or.inr (Or.inr (Or.inr (Or.inr (Or.inl ⟨rfl, hc1, hc19, hc17⟩))))))))))))))))))⟩ (by decide) (by decide)
                    · skip
                      refine step (fun t k => XS.ifYes X0.here hx rfl (pc0 := 30) (pc' := 38) rfl (B d11_30) rfl ((if0 _ _).trans (flt (fun q => hc19 ((lw_gt _ _).mp q))).2.2.2) (by decide) (by decide) k) ?_
                      have q20 := X0.ldc2Long hx hown (mvT hZ (ww184 hw)) (g := (mkF m 38 #[vL q0, s_, vI 1, vL ((-1000000000)), s_, vI 9] [])) rfl (B d11_38)
                      refine step q20 ?_
                      refine step (fun t k => XS.lloadN X0.here hx rfl (B d11_41) rfl k) ?_
                      refine step (fun t k => XS.lmul X0.here hx rfl (B d11_42) rfl k) ?_
                      show G s₁ (mkF m 43 #[vL q0, s_, vI 1, vL ((-1000000000)), s_, vI 9] [(.long ((10 : Int64) * (-1000000000 : Int64)))])
                      rw [(by decide : ((10 : Int64) * (-1000000000 : Int64)) = (-10000000000 : Int64))]
                      refine step (fun t k => XS.lstoreN X0.here hx rfl (B d11_43) rfl (l' := #[vL q0, s_, vI 1, vL ((-10000000000)), s_, vI 9]) rfl k) ?_
                      refine step (fun t k => XS.iinc X0.here hx rfl (B d11_44) rfl (l' := #[vL q0, s_, vI 1, vL ((-10000000000)), s_, vI (((9 : Int32) + (1 : Int32)))]) rfl k) ?_
                      show G s₁ (mkF m 47 #[vL q0, s_, vI 1, vL ((-10000000000)), s_, vI (((9 : Int32) + (1 : Int32)))] [])
                      rw [(by decide : ((9 : Int32) + (1 : Int32)) = (10 : Int32))]
                      refine step (fun t k => XS.goto X0.here hx rfl (pc0 := 47) (pc' := 20) rfl (B d11_47) (by decide) (by decide) k) ?_
                      refine step (fun t k => XS.iload X0.here hx rfl (B d11_20) rfl k) ?_
                      refine step (fun t k => XS.bipush X0.here hx rfl (B d11_22) k) ?_
                      refine step (fun t k => XS.icmpNo X0.here hx rfl (B d11_24) rfl (tlt (by decide : (10 : Int32) < (19 : Int32))).2.1 k) ?_
                      refine step (fun t k => XS.lloadN X0.here hx rfl (B d11_27) rfl k) ?_
                      refine step (fun t k => XS.lloadN X0.here hx rfl (B d11_28) rfl k) ?_
                      show G s₁ (mkF m 29 #[vL q0, s_, vI 1, vL ((-10000000000)), s_, vI 10] [(.long (-10000000000)), (.long q0)])
                      refine step (fun t k => XS.lcmp X0.here hx rfl (B d11_29) rfl k) ?_
                      have ho21 : (-10000000000 : Int64) < q0 := by
                        rw [own_xltL]
                        have c1 := c_lneg q0
                        have r1 := rng64 (-q0)
                        have k1 : (-10000000000 : Int64).toInt = -10000000000 := by decide
                        omega
                      refine step (fun t k => XS.ifNo X0.here hx rfl (B d11_30) rfl ((if0 _ _).trans (tlt ((lw_gt _ _).mpr ho21)).2.2.2) k) ?_
                      refine step (fun t k => XS.iload X0.here hx rfl (B d11_33) rfl k) ?_
                      refine step (fun t k => XS.iloadN X0.here hx rfl (B d11_35) rfl k) ?_
                      refine step (fun t k => XS.iadd X0.here hx rfl (B d11_36) rfl k) ?_
                      show G s₁ (mkF m 37 #[vL q0, s_, vI 1, vL ((-10000000000)), s_, vI 10] [(.int ((10 : Int32) + (1 : Int32)))])
                      rw [(by decide : ((10 : Int32) + (1 : Int32)) = (11 : Int32))]
                      exact ret (v := some (.int 11)) X0 (fun h => by rw [Bd.returns] at h; cases h) (fun fs hr => retI X0 hx Bd.returns (B d11_37) hr) e0 ⟨(11 : Int32), rfl, N0, K0, (Or.inr (Or.inr (Or.inr (Or.inr (Or.inr (Or.inr (Or.inr (Or.inr (Or.inr (Or.inr (Or.inr (Or.inr (Or.inr (Or.inr (Or.inr (Or.inr (Or.inr (Or.inr (Or.inr (⟨rfl, hc1, hc19⟩))))))))))))))))))))⟩ (by decide) (by decide)
  · skip
    refine step (fun t k => XS.ifNo X0.here hx rfl (B d11_5) rfl ((if0 _ _).trans (flt (fun q => hc1 ((lw_lt _ _).mp q))).1) k) ?_
    refine step (fun t k => XS.iconst X0.here hx rfl (B d11_8) k) ?_
    refine step (fun t k => XS.istoreN X0.here hx rfl (B d11_9) rfl (l' := #[vL q0, s_, vI 0, u_, u_, u_]) rfl k) ?_
    refine step (fun t k => XS.lloadN X0.here hx rfl (B d11_10) rfl k) ?_
    refine step (fun t k => XS.lneg X0.here hx rfl (B d11_11) rfl k) ?_
    refine step (fun t k => XS.lstoreN X0.here hx rfl (B d11_12) rfl (l' := #[vL ((-q0)), s_, vI 0, u_, u_, u_]) rfl k) ?_
    show G s₁ (mkF m 13 #[vL ((-q0)), s_, vI 0, u_, u_, u_] [])
    have q22 := X0.ldc2Long hx hown (mvT hZ (ww90 hw)) (g := (mkF m 13 #[vL ((-q0)), s_, vI 0, u_, u_, u_] [])) rfl (B d11_13)
    refine step q22 ?_
    refine step (fun t k => XS.lstoreN X0.here hx rfl (B d11_16) rfl (l' := #[vL ((-q0)), s_, vI 0, vL ((-10)), s_, u_]) rfl k) ?_
    refine step (fun t k => XS.iconst X0.here hx rfl (B d11_17) k) ?_
    refine step (fun t k => XS.istore X0.here hx rfl (B d11_18) rfl (l' := #[vL ((-q0)), s_, vI 0, vL ((-10)), s_, vI 1]) rfl k) ?_
    refine step (fun t k => XS.iload X0.here hx rfl (B d11_20) rfl k) ?_
    refine step (fun t k => XS.bipush X0.here hx rfl (B d11_22) k) ?_
    show G s₁ (mkF m 24 #[vL ((-q0)), s_, vI 0, vL ((-10)), s_, vI 1] [(.int 19), (.int 1)])
    refine step (fun t k => XS.icmpNo X0.here hx rfl (B d11_24) rfl (tlt (by decide : (1 : Int32) < (19 : Int32))).2.1 k) ?_
    refine step (fun t k => XS.lloadN X0.here hx rfl (B d11_27) rfl k) ?_
    refine step (fun t k => XS.lloadN X0.here hx rfl (B d11_28) rfl k) ?_
    refine step (fun t k => XS.lcmp X0.here hx rfl (B d11_29) rfl k) ?_
    by_cases hc23 : (-10 : Int64) < (-q0)
    · skip
      refine step (fun t k => XS.ifNo X0.here hx rfl (B d11_30) rfl ((if0 _ _).trans (tlt ((lw_gt _ _).mpr hc23)).2.2.2) k) ?_
      refine step (fun t k => XS.iload X0.here hx rfl (B d11_33) rfl k) ?_
      show G s₁ (mkF m 35 #[vL ((-q0)), s_, vI 0, vL ((-10)), s_, vI 1] [(.int 1)])
      refine step (fun t k => XS.iloadN X0.here hx rfl (B d11_35) rfl k) ?_
      refine step (fun t k => XS.iadd X0.here hx rfl (B d11_36) rfl k) ?_
      show G s₁ (mkF m 37 #[vL ((-q0)), s_, vI 0, vL ((-10)), s_, vI 1] [(.int ((1 : Int32) + (0 : Int32)))])
      rw [(by decide : ((1 : Int32) + (0 : Int32)) = (1 : Int32))]
      exact ret (v := some (.int 1)) X0 (fun h => by rw [Bd.returns] at h; cases h) (fun fs hr => retI X0 hx Bd.returns (B d11_37) hr) e0 ⟨(1 : Int32), rfl, N0, K0, (Or.inl ⟨rfl, hc1, hc23⟩)⟩ (by decide) (by decide)
    · skip
      refine step (fun t k => XS.ifYes X0.here hx rfl (pc0 := 30) (pc' := 38) rfl (B d11_30) rfl ((if0 _ _).trans (flt (fun q => hc23 ((lw_gt _ _).mp q))).2.2.2) (by decide) (by decide) k) ?_
      have q24 := X0.ldc2Long hx hown (mvT hZ (ww184 hw)) (g := (mkF m 38 #[vL ((-q0)), s_, vI 0, vL ((-10)), s_, vI 1] [])) rfl (B d11_38)
      refine step q24 ?_
      refine step (fun t k => XS.lloadN X0.here hx rfl (B d11_41) rfl k) ?_
      refine step (fun t k => XS.lmul X0.here hx rfl (B d11_42) rfl k) ?_
      show G s₁ (mkF m 43 #[vL ((-q0)), s_, vI 0, vL ((-10)), s_, vI 1] [(.long ((10 : Int64) * (-10 : Int64)))])
      rw [(by decide : ((10 : Int64) * (-10 : Int64)) = (-100 : Int64))]
      refine step (fun t k => XS.lstoreN X0.here hx rfl (B d11_43) rfl (l' := #[vL ((-q0)), s_, vI 0, vL ((-100)), s_, vI 1]) rfl k) ?_
      refine step (fun t k => XS.iinc X0.here hx rfl (B d11_44) rfl (l' := #[vL ((-q0)), s_, vI 0, vL ((-100)), s_, vI (((1 : Int32) + (1 : Int32)))]) rfl k) ?_
      show G s₁ (mkF m 47 #[vL ((-q0)), s_, vI 0, vL ((-100)), s_, vI (((1 : Int32) + (1 : Int32)))] [])
      rw [(by decide : ((1 : Int32) + (1 : Int32)) = (2 : Int32))]
      refine step (fun t k => XS.goto X0.here hx rfl (pc0 := 47) (pc' := 20) rfl (B d11_47) (by decide) (by decide) k) ?_
      refine step (fun t k => XS.iload X0.here hx rfl (B d11_20) rfl k) ?_
      refine step (fun t k => XS.bipush X0.here hx rfl (B d11_22) k) ?_
      refine step (fun t k => XS.icmpNo X0.here hx rfl (B d11_24) rfl (tlt (by decide : (2 : Int32) < (19 : Int32))).2.1 k) ?_
      refine step (fun t k => XS.lloadN X0.here hx rfl (B d11_27) rfl k) ?_
      refine step (fun t k => XS.lloadN X0.here hx rfl (B d11_28) rfl k) ?_
      show G s₁ (mkF m 29 #[vL ((-q0)), s_, vI 0, vL ((-100)), s_, vI 2] [(.long (-100)), (.long (-q0))])
      refine step (fun t k => XS.lcmp X0.here hx rfl (B d11_29) rfl k) ?_
      by_cases hc25 : (-100 : Int64) < (-q0)
      · skip
        refine step (fun t k => XS.ifNo X0.here hx rfl (B d11_30) rfl ((if0 _ _).trans (tlt ((lw_gt _ _).mpr hc25)).2.2.2) k) ?_
        refine step (fun t k => XS.iload X0.here hx rfl (B d11_33) rfl k) ?_
        refine step (fun t k => XS.iloadN X0.here hx rfl (B d11_35) rfl k) ?_
        refine step (fun t k => XS.iadd X0.here hx rfl (B d11_36) rfl k) ?_
        show G s₁ (mkF m 37 #[vL ((-q0)), s_, vI 0, vL ((-100)), s_, vI 2] [(.int ((2 : Int32) + (0 : Int32)))])
        rw [(by decide : ((2 : Int32) + (0 : Int32)) = (2 : Int32))]
        exact ret (v := some (.int 2)) X0 (fun h => by rw [Bd.returns] at h; cases h) (fun fs hr => retI X0 hx Bd.returns (B d11_37) hr) e0 ⟨(2 : Int32), rfl, N0, K0, (Or.inr (Or.inr (Or.inl ⟨rfl, hc1, hc25, hc23⟩)))⟩ (by decide) (by decide)
      · skip
        refine step (fun t k => XS.ifYes X0.here hx rfl (pc0 := 30) (pc' := 38) rfl (B d11_30) rfl ((if0 _ _).trans (flt (fun q => hc25 ((lw_gt _ _).mp q))).2.2.2) (by decide) (by decide) k) ?_
        have q26 := X0.ldc2Long hx hown (mvT hZ (ww184 hw)) (g := (mkF m 38 #[vL ((-q0)), s_, vI 0, vL ((-100)), s_, vI 2] [])) rfl (B d11_38)
        refine step q26 ?_
        refine step (fun t k => XS.lloadN X0.here hx rfl (B d11_41) rfl k) ?_
        refine step (fun t k => XS.lmul X0.here hx rfl (B d11_42) rfl k) ?_
        show G s₁ (mkF m 43 #[vL ((-q0)), s_, vI 0, vL ((-100)), s_, vI 2] [(.long ((10 : Int64) * (-100 : Int64)))])
        rw [(by decide : ((10 : Int64) * (-100 : Int64)) = (-1000 : Int64))]
        refine step (fun t k => XS.lstoreN X0.here hx rfl (B d11_43) rfl (l' := #[vL ((-q0)), s_, vI 0, vL ((-1000)), s_, vI 2]) rfl k) ?_
        refine step (fun t k => XS.iinc X0.here hx rfl (B d11_44) rfl (l' := #[vL ((-q0)), s_, vI 0, vL ((-1000)), s_, vI (((2 : Int32) + (1 : Int32)))]) rfl k) ?_
        show G s₁ (mkF m 47 #[vL ((-q0)), s_, vI 0, vL ((-1000)), s_, vI (((2 : Int32) + (1 : Int32)))] [])
        rw [(by decide : ((2 : Int32) + (1 : Int32)) = (3 : Int32))]
        refine step (fun t k => XS.goto X0.here hx rfl (pc0 := 47) (pc' := 20) rfl (B d11_47) (by decide) (by decide) k) ?_
        refine step (fun t k => XS.iload X0.here hx rfl (B d11_20) rfl k) ?_
        refine step (fun t k => XS.bipush X0.here hx rfl (B d11_22) k) ?_
        refine step (fun t k => XS.icmpNo X0.here hx rfl (B d11_24) rfl (tlt (by decide : (3 : Int32) < (19 : Int32))).2.1 k) ?_
        refine step (fun t k => XS.lloadN X0.here hx rfl (B d11_27) rfl k) ?_
        refine step (fun t k => XS.lloadN X0.here hx rfl (B d11_28) rfl k) ?_
        show G s₁ (mkF m 29 #[vL ((-q0)), s_, vI 0, vL ((-1000)), s_, vI 3] [(.long (-1000)), (.long (-q0))])
        refine step (fun t k => XS.lcmp X0.here hx rfl (B d11_29) rfl k) ?_
        by_cases hc27 : (-1000 : Int64) < (-q0)
        · skip
          refine step (fun t k => XS.ifNo X0.here hx rfl (B d11_30) rfl ((if0 _ _).trans (tlt ((lw_gt _ _).mpr hc27)).2.2.2) k) ?_
          refine step (fun t k => XS.iload X0.here hx rfl (B d11_33) rfl k) ?_
          refine step (fun t k => XS.iloadN X0.here hx rfl (B d11_35) rfl k) ?_
          refine step (fun t k => XS.iadd X0.here hx rfl (B d11_36) rfl k) ?_
          show G s₁ (mkF m 37 #[vL ((-q0)), s_, vI 0, vL ((-1000)), s_, vI 3] [(.int ((3 : Int32) + (0 : Int32)))])
          rw [(by decide : ((3 : Int32) + (0 : Int32)) = (3 : Int32))]
          exact ret (v := some (.int 3)) X0 (fun h => by rw [Bd.returns] at h; cases h) (fun fs hr => retI X0 hx Bd.returns (B d11_37) hr) e0 ⟨(3 : Int32), rfl, N0, K0, (Or.inr (Or.inr (Or.inr (Or.inr (Or.inl ⟨rfl, hc1, hc27, hc25⟩)))))⟩ (by decide) (by decide)
        · skip
          refine step (fun t k => XS.ifYes X0.here hx rfl (pc0 := 30) (pc' := 38) rfl (B d11_30) rfl ((if0 _ _).trans (flt (fun q => hc27 ((lw_gt _ _).mp q))).2.2.2) (by decide) (by decide) k) ?_
          have q28 := X0.ldc2Long hx hown (mvT hZ (ww184 hw)) (g := (mkF m 38 #[vL ((-q0)), s_, vI 0, vL ((-1000)), s_, vI 3] [])) rfl (B d11_38)
          refine step q28 ?_
          refine step (fun t k => XS.lloadN X0.here hx rfl (B d11_41) rfl k) ?_
          refine step (fun t k => XS.lmul X0.here hx rfl (B d11_42) rfl k) ?_
          show G s₁ (mkF m 43 #[vL ((-q0)), s_, vI 0, vL ((-1000)), s_, vI 3] [(.long ((10 : Int64) * (-1000 : Int64)))])
          rw [(by decide : ((10 : Int64) * (-1000 : Int64)) = (-10000 : Int64))]
          refine step (fun t k => XS.lstoreN X0.here hx rfl (B d11_43) rfl (l' := #[vL ((-q0)), s_, vI 0, vL ((-10000)), s_, vI 3]) rfl k) ?_
          refine step (fun t k => XS.iinc X0.here hx rfl (B d11_44) rfl (l' := #[vL ((-q0)), s_, vI 0, vL ((-10000)), s_, vI (((3 : Int32) + (1 : Int32)))]) rfl k) ?_
          show G s₁ (mkF m 47 #[vL ((-q0)), s_, vI 0, vL ((-10000)), s_, vI (((3 : Int32) + (1 : Int32)))] [])
          rw [(by decide : ((3 : Int32) + (1 : Int32)) = (4 : Int32))]
          refine step (fun t k => XS.goto X0.here hx rfl (pc0 := 47) (pc' := 20) rfl (B d11_47) (by decide) (by decide) k) ?_
          refine step (fun t k => XS.iload X0.here hx rfl (B d11_20) rfl k) ?_
          refine step (fun t k => XS.bipush X0.here hx rfl (B d11_22) k) ?_
          refine step (fun t k => XS.icmpNo X0.here hx rfl (B d11_24) rfl (tlt (by decide : (4 : Int32) < (19 : Int32))).2.1 k) ?_
          refine step (fun t k => XS.lloadN X0.here hx rfl (B d11_27) rfl k) ?_
          refine step (fun t k => XS.lloadN X0.here hx rfl (B d11_28) rfl k) ?_
          show G s₁ (mkF m 29 #[vL ((-q0)), s_, vI 0, vL ((-10000)), s_, vI 4] [(.long (-10000)), (.long (-q0))])
          refine step (fun t k => XS.lcmp X0.here hx rfl (B d11_29) rfl k) ?_
          by_cases hc29 : (-10000 : Int64) < (-q0)
          · skip
            refine step (fun t k => XS.ifNo X0.here hx rfl (B d11_30) rfl ((if0 _ _).trans (tlt ((lw_gt _ _).mpr hc29)).2.2.2) k) ?_
            refine step (fun t k => XS.iload X0.here hx rfl (B d11_33) rfl k) ?_
            refine step (fun t k => XS.iloadN X0.here hx rfl (B d11_35) rfl k) ?_
            refine step (fun t k => XS.iadd X0.here hx rfl (B d11_36) rfl k) ?_
            show G s₁ (mkF m 37 #[vL ((-q0)), s_, vI 0, vL ((-10000)), s_, vI 4] [(.int ((4 : Int32) + (0 : Int32)))])
            rw [(by decide : ((4 : Int32) + (0 : Int32)) = (4 : Int32))]
            exact ret (v := some (.int 4)) X0 (fun h => by rw [Bd.returns] at h; cases h) (fun fs hr => retI X0 hx Bd.returns (B d11_37) hr) e0 ⟨(4 : Int32), rfl, N0, K0, (Or.inr (Or.inr (Or.inr (Or.inr (Or.inr (Or.inr (Or.inl ⟨rfl, hc1, hc29, hc27⟩)))))))⟩ (by decide) (by decide)
          · skip
            refine step (fun t k => XS.ifYes X0.here hx rfl (pc0 := 30) (pc' := 38) rfl (B d11_30) rfl ((if0 _ _).trans (flt (fun q => hc29 ((lw_gt _ _).mp q))).2.2.2) (by decide) (by decide) k) ?_
            have q30 := X0.ldc2Long hx hown (mvT hZ (ww184 hw)) (g := (mkF m 38 #[vL ((-q0)), s_, vI 0, vL ((-10000)), s_, vI 4] [])) rfl (B d11_38)
            refine step q30 ?_
            refine step (fun t k => XS.lloadN X0.here hx rfl (B d11_41) rfl k) ?_
            refine step (fun t k => XS.lmul X0.here hx rfl (B d11_42) rfl k) ?_
            show G s₁ (mkF m 43 #[vL ((-q0)), s_, vI 0, vL ((-10000)), s_, vI 4] [(.long ((10 : Int64) * (-10000 : Int64)))])
            rw [(by decide : ((10 : Int64) * (-10000 : Int64)) = (-100000 : Int64))]
            refine step (fun t k => XS.lstoreN X0.here hx rfl (B d11_43) rfl (l' := #[vL ((-q0)), s_, vI 0, vL ((-100000)), s_, vI 4]) rfl k) ?_
            refine step (fun t k => XS.iinc X0.here hx rfl (B d11_44) rfl (l' := #[vL ((-q0)), s_, vI 0, vL ((-100000)), s_, vI (((4 : Int32) + (1 : Int32)))]) rfl k) ?_
            show G s₁ (mkF m 47 #[vL ((-q0)), s_, vI 0, vL ((-100000)), s_, vI (((4 : Int32) + (1 : Int32)))] [])
            rw [(by decide : ((4 : Int32) + (1 : Int32)) = (5 : Int32))]
            refine step (fun t k => XS.goto X0.here hx rfl (pc0 := 47) (pc' := 20) rfl (B d11_47) (by decide) (by decide) k) ?_
            refine step (fun t k => XS.iload X0.here hx rfl (B d11_20) rfl k) ?_
            refine step (fun t k => XS.bipush X0.here hx rfl (B d11_22) k) ?_
            refine step (fun t k => XS.icmpNo X0.here hx rfl (B d11_24) rfl (tlt (by decide : (5 : Int32) < (19 : Int32))).2.1 k) ?_
            refine step (fun t k => XS.lloadN X0.here hx rfl (B d11_27) rfl k) ?_
            refine step (fun t k => XS.lloadN X0.here hx rfl (B d11_28) rfl k) ?_
            show G s₁ (mkF m 29 #[vL ((-q0)), s_, vI 0, vL ((-100000)), s_, vI 5] [(.long (-100000)), (.long (-q0))])
            refine step (fun t k => XS.lcmp X0.here hx rfl (B d11_29) rfl k) ?_
            by_cases hc31 : (-100000 : Int64) < (-q0)
            · skip
              refine step (fun t k => XS.ifNo X0.here hx rfl (B d11_30) rfl ((if0 _ _).trans (tlt ((lw_gt _ _).mpr hc31)).2.2.2) k) ?_
              refine step (fun t k => XS.iload X0.here hx rfl (B d11_33) rfl k) ?_
              refine step (fun t k => XS.iloadN X0.here hx rfl (B d11_35) rfl k) ?_
              refine step (fun t k => XS.iadd X0.here hx rfl (B d11_36) rfl k) ?_
              show G s₁ (mkF m 37 #[vL ((-q0)), s_, vI 0, vL ((-100000)), s_, vI 5] [(.int ((5 : Int32) + (0 : Int32)))])
              rw [(by decide : ((5 : Int32) + (0 : Int32)) = (5 : Int32))]
              exact ret (v := some (.int 5)) X0 (fun h => by rw [Bd.returns] at h; cases h) (fun fs hr => retI X0 hx Bd.returns (B d11_37) hr) e0 ⟨(5 : Int32), rfl, N0, K0, (Or.inr (Or.inr (Or.inr (Or.inr (Or.inr (Or.inr (Or.inr (Or.inr (Or.inl ⟨rfl, hc1, hc31, hc29⟩)))))))))⟩ (by decide) (by decide)
            · skip
              refine step (fun t k => XS.ifYes X0.here hx rfl (pc0 := 30) (pc' := 38) rfl (B d11_30) rfl ((if0 _ _).trans (flt (fun q => hc31 ((lw_gt _ _).mp q))).2.2.2) (by decide) (by decide) k) ?_
              have q32 := X0.ldc2Long hx hown (mvT hZ (ww184 hw)) (g := (mkF m 38 #[vL ((-q0)), s_, vI 0, vL ((-100000)), s_, vI 5] [])) rfl (B d11_38)
              refine step q32 ?_
              refine step (fun t k => XS.lloadN X0.here hx rfl (B d11_41) rfl k) ?_
              refine step (fun t k => XS.lmul X0.here hx rfl (B d11_42) rfl k) ?_
              show G s₁ (mkF m 43 #[vL ((-q0)), s_, vI 0, vL ((-100000)), s_, vI 5] [(.long ((10 : Int64) * (-100000 : Int64)))])
              rw [(by decide : ((10 : Int64) * (-100000 : Int64)) = (-1000000 : Int64))]
              refine step (fun t k => XS.lstoreN X0.here hx rfl (B d11_43) rfl (l' := #[vL ((-q0)), s_, vI 0, vL ((-1000000)), s_, vI 5]) rfl k) ?_
              refine step (fun t k => XS.iinc X0.here hx rfl (B d11_44) rfl (l' := #[vL ((-q0)), s_, vI 0, vL ((-1000000)), s_, vI (((5 : Int32) + (1 : Int32)))]) rfl k) ?_
              show G s₁ (mkF m 47 #[vL ((-q0)), s_, vI 0, vL ((-1000000)), s_, vI (((5 : Int32) + (1 : Int32)))] [])
              rw [(by decide : ((5 : Int32) + (1 : Int32)) = (6 : Int32))]
              refine step (fun t k => XS.goto X0.here hx rfl (pc0 := 47) (pc' := 20) rfl (B d11_47) (by decide) (by decide) k) ?_
              refine step (fun t k => XS.iload X0.here hx rfl (B d11_20) rfl k) ?_
              refine step (fun t k => XS.bipush X0.here hx rfl (B d11_22) k) ?_
              refine step (fun t k => XS.icmpNo X0.here hx rfl (B d11_24) rfl (tlt (by decide : (6 : Int32) < (19 : Int32))).2.1 k) ?_
              refine step (fun t k => XS.lloadN X0.here hx rfl (B d11_27) rfl k) ?_
              refine step (fun t k => XS.lloadN X0.here hx rfl (B d11_28) rfl k) ?_
              show G s₁ (mkF m 29 #[vL ((-q0)), s_, vI 0, vL ((-1000000)), s_, vI 6] [(.long (-1000000)), (.long (-q0))])
              refine step (fun t k => XS.lcmp X0.here hx rfl (B d11_29) rfl k) ?_
              by_cases hc33 : (-1000000 : Int64) < (-q0)
              · skip
                refine step (fun t k => XS.ifNo X0.here hx rfl (B d11_30) rfl ((if0 _ _).trans (tlt ((lw_gt _ _).mpr hc33)).2.2.2) k) ?_
                refine step (fun t k => XS.iload X0.here hx rfl (B d11_33) rfl k) ?_
                refine step (fun t k => XS.iloadN X0.here hx rfl (B d11_35) rfl k) ?_
                refine step (fun t k => XS.iadd X0.here hx rfl (B d11_36) rfl k) ?_
                show G s₁ (mkF m 37 #[vL ((-q0)), s_, vI 0, vL ((-1000000)), s_, vI 6] [(.int ((6 : Int32) + (0 : Int32)))])
                rw [(by decide : ((6 : Int32) + (0 : Int32)) = (6 : Int32))]
                exact ret (v := some (.int 6)) X0 (fun h => by rw [Bd.returns] at h; cases h) (fun fs hr => retI X0 hx Bd.returns (B d11_37) hr) e0 ⟨(6 : Int32), rfl, N0, K0, (Or.inr (Or.inr (Or.inr (Or.inr (Or.inr (Or.inr (Or.inr (Or.inr (Or.inr (Or.inr (Or.inl ⟨rfl, hc1, hc33, hc31⟩)))))))))))⟩ (by decide) (by decide)
              · skip
                refine step (fun t k => XS.ifYes X0.here hx rfl (pc0 := 30) (pc' := 38) rfl (B d11_30) rfl ((if0 _ _).trans (flt (fun q => hc33 ((lw_gt _ _).mp q))).2.2.2) (by decide) (by decide) k) ?_
                have q34 := X0.ldc2Long hx hown (mvT hZ (ww184 hw)) (g := (mkF m 38 #[vL ((-q0)), s_, vI 0, vL ((-1000000)), s_, vI 6] [])) rfl (B d11_38)
                refine step q34 ?_
                refine step (fun t k => XS.lloadN X0.here hx rfl (B d11_41) rfl k) ?_
                refine step (fun t k => XS.lmul X0.here hx rfl (B d11_42) rfl k) ?_
                show G s₁ (mkF m 43 #[vL ((-q0)), s_, vI 0, vL ((-1000000)), s_, vI 6] [(.long ((10 : Int64) * (-1000000 : Int64)))])
                rw [(by decide : ((10 : Int64) * (-1000000 : Int64)) = (-10000000 : Int64))]
                refine step (fun t k => XS.lstoreN X0.here hx rfl (B d11_43) rfl (l' := #[vL ((-q0)), s_, vI 0, vL ((-10000000)), s_, vI 6]) rfl k) ?_
                refine step (fun t k => XS.iinc X0.here hx rfl (B d11_44) rfl (l' := #[vL ((-q0)), s_, vI 0, vL ((-10000000)), s_, vI (((6 : Int32) + (1 : Int32)))]) rfl k) ?_
                show G s₁ (mkF m 47 #[vL ((-q0)), s_, vI 0, vL ((-10000000)), s_, vI (((6 : Int32) + (1 : Int32)))] [])
                rw [(by decide : ((6 : Int32) + (1 : Int32)) = (7 : Int32))]
                refine step (fun t k => XS.goto X0.here hx rfl (pc0 := 47) (pc' := 20) rfl (B d11_47) (by decide) (by decide) k) ?_
                refine step (fun t k => XS.iload X0.here hx rfl (B d11_20) rfl k) ?_
                refine step (fun t k => XS.bipush X0.here hx rfl (B d11_22) k) ?_
                refine step (fun t k => XS.icmpNo X0.here hx rfl (B d11_24) rfl (tlt (by decide : (7 : Int32) < (19 : Int32))).2.1 k) ?_
                refine step (fun t k => XS.lloadN X0.here hx rfl (B d11_27) rfl k) ?_
                refine step (fun t k => XS.lloadN X0.here hx rfl (B d11_28) rfl k) ?_
                show G s₁ (mkF m 29 #[vL ((-q0)), s_, vI 0, vL ((-10000000)), s_, vI 7] [(.long (-10000000)), (.long (-q0))])
                refine step (fun t k => XS.lcmp X0.here hx rfl (B d11_29) rfl k) ?_
                by_cases hc35 : (-10000000 : Int64) < (-q0)
                · skip
                  refine step (fun t k => XS.ifNo X0.here hx rfl (B d11_30) rfl ((if0 _ _).trans (tlt ((lw_gt _ _).mpr hc35)).2.2.2) k) ?_
                  refine step (fun t k => XS.iload X0.here hx rfl (B d11_33) rfl k) ?_
                  refine step (fun t k => XS.iloadN X0.here hx rfl (B d11_35) rfl k) ?_
                  refine step (fun t k => XS.iadd X0.here hx rfl (B d11_36) rfl k) ?_
                  show G s₁ (mkF m 37 #[vL ((-q0)), s_, vI 0, vL ((-10000000)), s_, vI 7] [(.int ((7 : Int32) + (0 : Int32)))])
                  rw [(by decide : ((7 : Int32) + (0 : Int32)) = (7 : Int32))]
                  exact ret (v := some (.int 7)) X0 (fun h => by rw [Bd.returns] at h; cases h) (fun fs hr => retI X0 hx Bd.returns (B d11_37) hr) e0 ⟨(7 : Int32), rfl, N0, K0, (Or.inr (Or.inr (Or.inr (Or.inr (Or.inr (Or.inr (Or.inr (Or.inr (Or.inr (Or.inr (Or.inr (Or.inr (Or.inl ⟨rfl, hc1, hc35, hc33⟩)))))))))))))⟩ (by decide) (by decide)
                · skip
                  refine step (fun t k => XS.ifYes X0.here hx rfl (pc0 := 30) (pc' := 38) rfl (B d11_30) rfl ((if0 _ _).trans (flt (fun q => hc35 ((lw_gt _ _).mp q))).2.2.2) (by decide) (by decide) k) ?_
                  have q36 := X0.ldc2Long hx hown (mvT hZ (ww184 hw)) (g := (mkF m 38 #[vL ((-q0)), s_, vI 0, vL ((-10000000)), s_, vI 7] [])) rfl (B d11_38)
                  refine step q36 ?_
                  refine step (fun t k => XS.lloadN X0.here hx rfl (B d11_41) rfl k) ?_
                  refine step (fun t k => XS.lmul X0.here hx rfl (B d11_42) rfl k) ?_
                  show G s₁ (mkF m 43 #[vL ((-q0)), s_, vI 0, vL ((-10000000)), s_, vI 7] [(.long ((10 : Int64) * (-10000000 : Int64)))])
                  rw [(by decide : ((10 : Int64) * (-10000000 : Int64)) = (-100000000 : Int64))]
                  refine step (fun t k => XS.lstoreN X0.here hx rfl (B d11_43) rfl (l' := #[vL ((-q0)), s_, vI 0, vL ((-100000000)), s_, vI 7]) rfl k) ?_
                  refine step (fun t k => XS.iinc X0.here hx rfl (B d11_44) rfl (l' := #[vL ((-q0)), s_, vI 0, vL ((-100000000)), s_, vI (((7 : Int32) + (1 : Int32)))]) rfl k) ?_
                  show G s₁ (mkF m 47 #[vL ((-q0)), s_, vI 0, vL ((-100000000)), s_, vI (((7 : Int32) + (1 : Int32)))] [])
                  rw [(by decide : ((7 : Int32) + (1 : Int32)) = (8 : Int32))]
                  refine step (fun t k => XS.goto X0.here hx rfl (pc0 := 47) (pc' := 20) rfl (B d11_47) (by decide) (by decide) k) ?_
                  refine step (fun t k => XS.iload X0.here hx rfl (B d11_20) rfl k) ?_
                  refine step (fun t k => XS.bipush X0.here hx rfl (B d11_22) k) ?_
                  refine step (fun t k => XS.icmpNo X0.here hx rfl (B d11_24) rfl (tlt (by decide : (8 : Int32) < (19 : Int32))).2.1 k) ?_
                  refine step (fun t k => XS.lloadN X0.here hx rfl (B d11_27) rfl k) ?_
                  refine step (fun t k => XS.lloadN X0.here hx rfl (B d11_28) rfl k) ?_
                  show G s₁ (mkF m 29 #[vL ((-q0)), s_, vI 0, vL ((-100000000)), s_, vI 8] [(.long (-100000000)), (.long (-q0))])
                  refine step (fun t k => XS.lcmp X0.here hx rfl (B d11_29) rfl k) ?_
                  by_cases hc37 : (-100000000 : Int64) < (-q0)
                  · skip
                    refine step (fun t k => XS.ifNo X0.here hx rfl (B d11_30) rfl ((if0 _ _).trans (tlt ((lw_gt _ _).mpr hc37)).2.2.2) k) ?_
                    refine step (fun t k => XS.iload X0.here hx rfl (B d11_33) rfl k) ?_
                    refine step (fun t k => XS.iloadN X0.here hx rfl (B d11_35) rfl k) ?_
                    refine step (fun t k => XS.iadd X0.here hx rfl (B d11_36) rfl k) ?_
                    show G s₁ (mkF m 37 #[vL ((-q0)), s_, vI 0, vL ((-100000000)), s_, vI 8] [(.int ((8 : Int32) + (0 : Int32)))])
                    rw [(by decide : ((8 : Int32) + (0 : Int32)) = (8 : Int32))]
                    exact ret (v := some (.int 8)) X0 (fun h => by rw [Bd.returns] at h; cases h) (fun fs hr => retI X0 hx Bd.returns (B d11_37) hr) e0 ⟨(8 : Int32), rfl, N0, K0, (Or.inr (Or.inr (Or.inr (Or.inr (Or.inr (Or.inr (Or.inr (Or.inr (Or.inr (Or.inr (Or.inr (Or.inr (Or.inr (Or.inr (Or.inl ⟨rfl, hc1, hc37, hc35⟩)))))))))))))))⟩ (by decide) (by decide)
                  · skip
                    refine step (fun t k => XS.ifYes X0.here hx rfl (pc0 := 30) (pc' := 38) rfl (B d11_30) rfl ((if0 _ _).trans (flt (fun q => hc37 ((lw_gt _ _).mp q))).2.2.2) (by decide) (by decide) k) ?_
                    have q38 := X0.ldc2Long hx hown (mvT hZ (ww184 hw)) (g := (mkF m 38 #[vL ((-q0)), s_, vI 0, vL ((-100000000)), s_, vI 8] [])) rfl (B d11_38)
                    refine step q38 ?_
                    refine step (fun t k => XS.lloadN X0.here hx rfl (B d11_41) rfl k) ?_
                    refine step (fun t k => XS.lmul X0.here hx rfl (B d11_42) rfl k) ?_
                    show G s₁ (mkF m 43 #[vL ((-q0)), s_, vI 0, vL ((-100000000)), s_, vI 8] [(.long ((10 : Int64) * (-100000000 : Int64)))])
                    rw [(by decide : ((10 : Int64) * (-100000000 : Int64)) = (-1000000000 : Int64))]
                    refine step (fun t k => XS.lstoreN X0.here hx rfl (B d11_43) rfl (l' := #[vL ((-q0)), s_, vI 0, vL ((-1000000000)), s_, vI 8]) rfl k) ?_
                    refine step (fun t k => XS.iinc X0.here hx rfl (B d11_44) rfl (l' := #[vL ((-q0)), s_, vI 0, vL ((-1000000000)), s_, vI (((8 : Int32) + (1 : Int32)))]) rfl k) ?_
                    show G s₁ (mkF m 47 #[vL ((-q0)), s_, vI 0, vL ((-1000000000)), s_, vI (((8 : Int32) + (1 : Int32)))] [])
                    rw [(by decide : ((8 : Int32) + (1 : Int32)) = (9 : Int32))]
                    refine step (fun t k => XS.goto X0.here hx rfl (pc0 := 47) (pc' := 20) rfl (B d11_47) (by decide) (by decide) k) ?_
                    refine step (fun t k => XS.iload X0.here hx rfl (B d11_20) rfl k) ?_
                    refine step (fun t k => XS.bipush X0.here hx rfl (B d11_22) k) ?_
                    refine step (fun t k => XS.icmpNo X0.here hx rfl (B d11_24) rfl (tlt (by decide : (9 : Int32) < (19 : Int32))).2.1 k) ?_
                    refine step (fun t k => XS.lloadN X0.here hx rfl (B d11_27) rfl k) ?_
                    refine step (fun t k => XS.lloadN X0.here hx rfl (B d11_28) rfl k) ?_
                    show G s₁ (mkF m 29 #[vL ((-q0)), s_, vI 0, vL ((-1000000000)), s_, vI 9] [(.long (-1000000000)), (.long (-q0))])
                    refine step (fun t k => XS.lcmp X0.here hx rfl (B d11_29) rfl k) ?_
                    by_cases hc39 : (-1000000000 : Int64) < (-q0)
                    · skip
                      refine step (fun t k => XS.ifNo X0.here hx rfl (B d11_30) rfl ((if0 _ _).trans (tlt ((lw_gt _ _).mpr hc39)).2.2.2) k) ?_
                      refine step (fun t k => XS.iload X0.here hx rfl (B d11_33) rfl k) ?_
                      refine step (fun t k => XS.iloadN X0.here hx rfl (B d11_35) rfl k) ?_
                      refine step (fun t k => XS.iadd X0.here hx rfl (B d11_36) rfl k) ?_
                      show G s₁ (mkF m 37 #[vL ((-q0)), s_, vI 0, vL ((-1000000000)), s_, vI 9] [(.int ((9 : Int32) + (0 : Int32)))])
                      rw [(by decide : ((9 : Int32) + (0 : Int32)) = (9 : Int32))]
                      exact ret (v := some (.int 9)) X0 (fun h => by rw [Bd.returns] at h; cases h) (fun fs hr => retI X0 hx Bd.returns (B d11_37) hr) e0 ⟨(9 : Int32), rfl, N0, K0, (Or.inr (Or.inr (Or.inr (Or.inr (Or.inr (Or.inr (Or.inr (Or.inr (Or.inr (Or.inr (Or.inr (Or.inr (Or.inr (Or.inr (Or.inr (Or.inr (Or.inl ⟨rfl, hc1, hc39, hc37⟩)))))))))))))))))⟩ (by decide) (by decide)
                    · skip
                      refine step (fun t k => XS.ifYes X0.here hx rfl (pc0 := 30) (pc' := 38) rfl (B d11_30) rfl ((if0 _ _).trans (flt (fun q => hc39 ((lw_gt _ _).mp q))).2.2.2) (by decide) (by decide) k) ?_
                      have q40 := X0.ldc2Long hx hown (mvT hZ (ww184 hw)) (g := (mkF m 38 #[vL ((-q0)), s_, vI 0, vL ((-1000000000)), s_, vI 9] [])) rfl (B d11_38)
                      refine step q40 ?_
                      refine step (fun t k => XS.lloadN X0.here hx rfl (B d11_41) rfl k) ?_
                      refine step (fun t k => XS.lmul X0.here hx rfl (B d11_42) rfl k) ?_
                      show G s₁ (mkF m 43 #[vL ((-q0)), s_, vI 0, vL ((-1000000000)), s_, vI 9] [(.long ((10 : Int64) * (-1000000000 : Int64)))])
                      rw [(by decide : ((10 : Int64) * (-1000000000 : Int64)) = (-10000000000 : Int64))]
                      refine step (fun t k => XS.lstoreN X0.here hx rfl (B d11_43) rfl (l' := #[vL ((-q0)), s_, vI 0, vL ((-10000000000)), s_, vI 9]) rfl k) ?_
                      refine step (fun t k => XS.iinc X0.here hx rfl (B d11_44) rfl (l' := #[vL ((-q0)), s_, vI 0, vL ((-10000000000)), s_, vI (((9 : Int32) + (1 : Int32)))]) rfl k) ?_
                      show G s₁ (mkF m 47 #[vL ((-q0)), s_, vI 0, vL ((-10000000000)), s_, vI (((9 : Int32) + (1 : Int32)))] [])
                      rw [(by decide : ((9 : Int32) + (1 : Int32)) = (10 : Int32))]
                      refine step (fun t k => XS.goto X0.here hx rfl (pc0 := 47) (pc' := 20) rfl (B d11_47) (by decide) (by decide) k) ?_
                      refine step (fun t k => XS.iload X0.here hx rfl (B d11_20) rfl k) ?_
                      refine step (fun t k => XS.bipush X0.here hx rfl (B d11_22) k) ?_
                      refine step (fun t k => XS.icmpNo X0.here hx rfl (B d11_24) rfl (tlt (by decide : (10 : Int32) < (19 : Int32))).2.1 k) ?_
                      refine step (fun t k => XS.lloadN X0.here hx rfl (B d11_27) rfl k) ?_
                      refine step (fun t k => XS.lloadN X0.here hx rfl (B d11_28) rfl k) ?_
                      show G s₁ (mkF m 29 #[vL ((-q0)), s_, vI 0, vL ((-10000000000)), s_, vI 10] [(.long (-10000000000)), (.long (-q0))])
                      refine step (fun t k => XS.lcmp X0.here hx rfl (B d11_29) rfl k) ?_
                      have ho41 : (-10000000000 : Int64) < (-q0) := by
                        rw [own_xltL]
                        have c1 := c_lneg q0
                        have r1 := rng64 (-q0)
                        have k1 : (-10000000000 : Int64).toInt = -10000000000 := by decide
                        omega
                      refine step (fun t k => XS.ifNo X0.here hx rfl (B d11_30) rfl ((if0 _ _).trans (tlt ((lw_gt _ _).mpr ho41)).2.2.2) k) ?_
                      refine step (fun t k => XS.iload X0.here hx rfl (B d11_33) rfl k) ?_
                      refine step (fun t k => XS.iloadN X0.here hx rfl (B d11_35) rfl k) ?_
                      refine step (fun t k => XS.iadd X0.here hx rfl (B d11_36) rfl k) ?_
                      show G s₁ (mkF m 37 #[vL ((-q0)), s_, vI 0, vL ((-10000000000)), s_, vI 10] [(.int ((10 : Int32) + (0 : Int32)))])
                      rw [(by decide : ((10 : Int32) + (0 : Int32)) = (10 : Int32))]
                      exact ret (v := some (.int 10)) X0 (fun h => by rw [Bd.returns] at h; cases h) (fun fs hr => retI X0 hx Bd.returns (B d11_37) hr) e0 ⟨(10 : Int32), rfl, N0, K0, (Or.inr (Or.inr (Or.inr (Or.inr (Or.inr (Or.inr (Or.inr (Or.inr (Or.inr (Or.inr (Or.inr (Or.inr (Or.inr (Or.inr (Or.inr (Or.inr (Or.inr (Or.inr (Or.inl ⟨rfl, hc1, hc39⟩)))))))))))))))))))⟩ (by decide) (by decide)
theorem d12_0 : decode qc12 0 = .ok (.iload_n 2, 1) := by decide +kernel
theorem d12_1 : decode qc12 1 = .ok (.istore 7, 2) := by decide +kernel
theorem d12_3 : decode qc12 3 = .ok (.lload_n 0, 1) := by decide +kernel
theorem d12_4 : decode qc12 4 = .ok (.lconst 0, 1) := by decide +kernel
theorem d12_5 : decode qc12 5 = .ok (.lcmp, 1) := by decide +kernel
theorem d12_6 : decode qc12 6 = .ok (.ifCond .ge 7, 3) := by decide +kernel
theorem d12_13 : decode qc12 13 = .ok (.iconst 0, 1) := by decide +kernel
theorem d12_14 : decode qc12 14 = .ok (.istore 8, 2) := by decide +kernel
theorem d12_16 : decode qc12 16 = .ok (.iload 8, 2) := by decide +kernel
theorem d12_18 : decode qc12 18 = .ok (.ifCond .ne 6, 3) := by decide +kernel
theorem d12_21 : decode qc12 21 = .ok (.lload_n 0, 1) := by decide +kernel
theorem d12_22 : decode qc12 22 = .ok (.lneg, 1) := by decide +kernel
theorem d12_23 : decode qc12 23 = .ok (.lstore_n 0, 1) := by decide +kernel
theorem d12_24 : decode qc12 24 = .ok (.lload_n 0, 1) := by decide +kernel
theorem d12_25 : decode qc12 25 = .ok (.ldc2_w 129, 3) := by decide +kernel
theorem ww97 (hw : HW Z a0) : Cond.before (Cond.constantLong cn_3 129 (-2147483648 : Int64)) a0 Z = true := own_w hw 97 rfl
theorem d12_28 : decode qc12 28 = .ok (.lcmp, 1) := by decide +kernel
theorem d12_29 : decode qc12 29 = .ok (.ifCond .gt 53, 3) := by decide +kernel
theorem d12_82 : decode qc12 82 = .ok (.lload_n 0, 1) := by decide +kernel
theorem d12_83 : decode qc12 83 = .ok (.l2i, 1) := by decide +kernel
theorem d12_84 : decode qc12 84 = .ok (.istore 10, 2) := by decide +kernel
theorem d12_86 : decode qc12 86 = .ok (.iload 10, 2) := by decide +kernel
theorem d12_88 : decode qc12 88 = .ok (.bipush (-100), 2) := by decide +kernel
theorem d12_90 : decode qc12 90 = .ok (.if_icmp .gt 53, 3) := by decide +kernel
theorem d12_143 : decode qc12 143 = .ok (.aload_n 3, 1) := by decide +kernel
theorem d12_144 : decode qc12 144 = .ok (.iinc 7 (-1), 3) := by decide +kernel
theorem d12_147 : decode qc12 147 = .ok (.iload 7, 2) := by decide +kernel
theorem d12_149 : decode qc12 149 = .ok (.getstatic 133, 3) := by decide +kernel
theorem ww98 (hw : HW Z a0) : Cond.before (Cond.fieldLink cn_3 133 cn_23 "DigitOnes" "[B") a0 Z = true := own_w hw 98 rfl
theorem d12_152 : decode qc12 152 = .ok (.iload 10, 2) := by decide +kernel
theorem d12_154 : decode qc12 154 = .ok (.ineg, 1) := by decide +kernel
theorem d12_155 : decode qc12 155 = .ok (.baload, 1) := by decide +kernel
theorem d12_156 : decode qc12 156 = .ok (.bastore, 1) := by decide +kernel
theorem d12_157 : decode qc12 157 = .ok (.iload 10, 2) := by decide +kernel
theorem d12_159 : decode qc12 159 = .ok (.bipush (-9), 2) := by decide +kernel
theorem d12_161 : decode qc12 161 = .ok (.if_icmp .ge 17, 3) := by decide +kernel
theorem d12_178 : decode qc12 178 = .ok (.iload 8, 2) := by decide +kernel
theorem d12_180 : decode qc12 180 = .ok (.ifCond .eq 12, 3) := by decide +kernel
theorem d12_192 : decode qc12 192 = .ok (.iload 7, 2) := by decide +kernel
theorem d12_194 : decode qc12 194 = .ok (.ireturn, 1) := by decide +kernel
abbrev rr_gc1p : Room := { frames := 0, cells := 0, slots := 0, locals := 0 }
abbrev y_12 : MethodName := ⟨cn_3, "getChars", "(JI[B)I"⟩
theorem ef_gc1p (m : MethodId) (q0 : Int64) (o3 : Addr) : entryFrame m #[(.long q0), (.int 1), (.ref o3)] 11 = mkF m 0 #[vL q0, s_, vI 1, vR o3, u_, u_, u_, u_, u_, u_, u_] [] := by first | (simp [entryFrame, mkF, argsToLocals, Value.category]; done) | rfl
def Q_gc1p (Z : State) (w_0 : Addr) (w_1 : Addr) (w_2 : Addr) (w_3 : Addr) (w_4 : Addr) (w_5 : Addr) (w_6 : Addr) (w_7 : Int32) (w_8 : Value) (q0 : Int64) (o3 : Addr) (kk : ClassId) (h0 : Heap) (n0 : Nat) (v : Option Value) (h : Heap) (L : List Loc) : Prop := ∃ c0 : Int32, v = some (.int 0) ∧ Fr n0 L ∧ Keep h0 h [o3] ∧ Arv Z h o3 kk .byte (1 : Int32) [(.int c0)] (.int 0) ∧ ¬ (c0 &&& (255 : Int32)) = (32 : Int32)
theorem rm_gc1p (l : Launch) (Z : State) (a0 : Array Value) (hw : HW Z a0) (ws : List Jvm.Cond) (w_0 : Addr) (w_1 : Addr) (w_2 : Addr) (w_3 : Addr) (w_4 : Addr) (w_5 : Addr) (w_6 : Addr) (w_7 : Int32) (w_8 : Value) (q0 : Int64) (o3 : Addr) (kk : ClassId) (h0 : Heap) (n0 : Nat) (Z0 : n0 ≤ h0.size) (ST : own_St Z w_0 w_1 w_2 w_3 w_4 w_5 w_6 w_7 w_8) (O0 : Old Z n0 h0) (hrg : -2147483648 ≤ q0.toInt ∧ q0.toInt ≤ 2147483647) (hsg : ¬ (q0 < (0 : Int64))) (hlo : (-10 : Int64) < (-q0)) (Va : Arv Z h0 o3 kk .byte (1 : Int32) [(.int 0)] (.int 0)) (geo : n0 ≤ o3) :
    MetFree l y_12 (head1 (Jvm.Cond.code y_12 jdk_35_method_14_code 11 (some .int) :: ws) rr_gc1p) (fun a U => a = #[(.long q0), (.int 1), (.ref o3)] ∧ Z.Warmed39 U.vm ∧ U.heap = h0) (fun _ _ _ _ _ => True) (fun _ U o U' => ∃ v L, o = .returned v ∧ Q_gc1p Z w_0 w_1 w_2 w_3 w_4 w_5 w_6 w_7 w_8 q0 o3 kk h0 n0 v U'.heap L ∧ FrameEnd U o U' L rr_gc1p.cells rr_gc1p.slots) := by
  refine MetFree.of_bodySF (plainFor_of_name pn_5) hisR ?_
  intro p e s m args below meth c s₁ Bd hml0 hP hK
  obtain ⟨rfl, hZ, hh⟩ := hP
  have hx := Bd.exec
  have hby := Bd.bytes
  have B := @hb _ _ hby
  have hml : c.maxLocals = 11 := hml0
  have hown : s.vm.findClass cn_3 = some m.cls := findClass_of_methodNamed Bd.named
  have X0 : Stand p l e rr_gc1p s m #[(.long q0), (.int 1), (.ref o3)] below meth c s₁ [] 0 0 := Stand.of_body Bd
  have e0 : s₁.heap = h0 := by rw [← hh, Bd.state]; rfl
  have N0 := Fr.nil n0
  have K0 : Keep h0 h0 [o3] := Keep.refl _ _
  obtain ⟨G, step, ret, fin⟩ := own_openX X0 (rr_gc1p.cells) (rr_gc1p.slots) (Q_gc1p Z w_0 w_1 w_2 w_3 w_4 w_5 w_6 w_7 w_8 q0 o3 kk h0 n0) Bd.notSynchronized
  refine fin (g := entryFrame m #[(.long q0), (.int 1), (.ref o3)] 11) ?_
  rw [ef_gc1p m q0 o3]
  obtain ⟨ls0, hls0⟩ := own_sl #[vL q0, s_, vI 1, vR o3, u_, u_, u_, u_, u_, u_, u_]
  suffices hG0 : G s₁ (mkF m 0 ls0 []) by rw [hls0] at hG0; exact hG0
  refine step (fun t k => XS.iloadN X0.here hx rfl (B d12_0) (by rw [hls0]; rfl) k) ?_
  obtain ⟨ls1, hls1⟩ := own_sl #[vL q0, s_, vI 1, vR o3, u_, u_, u_, vI 1, u_, u_, u_]
  refine step (fun t k => XS.istore X0.here hx rfl (B d12_1) rfl (l' := ls1) (by rw [hls0, hls1]; rfl) k) ?_
  refine step (fun t k => XS.lloadN X0.here hx rfl (B d12_3) (by rw [hls1]; rfl) k) ?_
  refine step (fun t k => XS.lconst X0.here hx rfl (B d12_4) k) ?_
  refine step (fun t k => XS.lcmp X0.here hx rfl (B d12_5) rfl k) ?_
  refine step (fun t k => XS.ifYes X0.here hx rfl (pc0 := 6) (pc' := 13) rfl (B d12_6) rfl ((if0 _ _).trans (flt (fun q => hsg ((lw_lt _ _).mp q))).2.1) (by decide) (by decide) k) ?_
  show G s₁ (mkF m 13 ls1 [])
  refine step (fun t k => XS.iconst X0.here hx rfl (B d12_13) k) ?_
  obtain ⟨ls2, hls2⟩ := own_sl #[vL q0, s_, vI 1, vR o3, u_, u_, u_, vI 1, vI 0, u_, u_]
  refine step (fun t k => XS.istore X0.here hx rfl (B d12_14) rfl (l' := ls2) (by rw [hls1, hls2]; rfl) k) ?_
  refine step (fun t k => XS.iload X0.here hx rfl (B d12_16) (by rw [hls2]; rfl) k) ?_
  refine step (fun t k => XS.ifNo X0.here hx rfl (B d12_18) rfl ((if0 _ _).trans (teq (by decide : (0 : Int32) = (0 : Int32))).2) k) ?_
  refine step (fun t k => XS.lloadN X0.here hx rfl (B d12_21) (by rw [hls2]; rfl) k) ?_
  refine step (fun t k => XS.lneg X0.here hx rfl (B d12_22) rfl k) ?_
  show G s₁ (mkF m 23 ls2 [(.long (-q0))])
  obtain ⟨x0, hx0⟩ : ∃ z : Int64, z = (-q0) := ⟨_, rfl⟩
  rw [← hx0]
  have bd3 : -10 < x0.toInt ∧ x0.toInt ≤ 0 := by
    rw [hx0]
    have c1 := c_lneg q0
    have r1 := rng64 (-q0)
    have k0 : (0 : Int64).toInt = 0 := by decide
    rw [own_xltL] at hsg
    have k1 : (-10 : Int64).toInt = -10 := by decide
    rw [own_xltL] at hlo
    omega
  obtain ⟨ls4, hls4⟩ := own_sl #[vL x0, s_, vI 1, vR o3, u_, u_, u_, vI 1, vI 0, u_, u_]
  refine step (fun t k => XS.lstoreN X0.here hx rfl (B d12_23) rfl (l' := ls4) (by rw [hls2, hls4]; rfl) k) ?_
  refine step (fun t k => XS.lloadN X0.here hx rfl (B d12_24) (by rw [hls4]; rfl) k) ?_
  have q5 := X0.ldc2Long hx hown (mvT hZ (ww97 hw)) (g := (mkF m 25 ls4 [(.long x0)])) rfl (B d12_25)
  refine step q5 ?_
  refine step (fun t k => XS.lcmp X0.here hx rfl (B d12_28) rfl k) ?_
  have ho6 := own_yL (b := x0) (by decide : (-2147483648 : Int64).toInt = -2147483648) (by omega)
  refine step (fun t k => XS.ifYes X0.here hx rfl (pc0 := 29) (pc' := 82) rfl (B d12_29) rfl ((if0 _ _).trans (tlt ((lw_gt _ _).mpr ho6)).2.2.1) (by decide) (by decide) k) ?_
  refine step (fun t k => XS.lloadN X0.here hx rfl (B d12_82) (by rw [hls4]; rfl) k) ?_
  refine step (fun t k => XS.l2i X0.here hx rfl (B d12_83) rfl k) ?_
  show G s₁ (mkF m 84 ls4 [(.int (x0.toInt32))])
  obtain ⟨y7, hy7⟩ := own_ex (x0.toInt32)
  rw [← hy7]
  have bd8 : -10 < y7.toInt ∧ y7.toInt ≤ 0 := by
    rw [hy7]
    have c1 := c_l2i x0
    have r1 := rng32 x0.toInt32
    omega
  obtain ⟨ls9, hls9⟩ := own_sl #[vL x0, s_, vI 1, vR o3, u_, u_, u_, vI 1, vI 0, u_, vI y7]
  refine step (fun t k => XS.istore X0.here hx rfl (B d12_84) rfl (l' := ls9) (by rw [hls4, hls9]; rfl) k) ?_
  refine step (fun t k => XS.iload X0.here hx rfl (B d12_86) (by rw [hls9]; rfl) k) ?_
  refine step (fun t k => XS.bipush X0.here hx rfl (B d12_88) k) ?_
  show G s₁ (mkF m 90 ls9 [(.int (-100)), (.int y7)])
  have ho10 := own_y (b := y7) (by decide : (-100 : Int32).toInt = -100) (by omega)
  refine step (fun t k => XS.icmpYes X0.here hx rfl (pc0 := 90) (pc' := 143) rfl (B d12_90) rfl (tlt ho10).2.2.1 (by decide) (by decide) k) ?_
  refine step (fun t k => XS.aloadN X0.here hx rfl (B d12_143) (by rw [hls9]; rfl) rfl k) ?_
  obtain ⟨ls11, hls11⟩ := own_sl #[vL x0, s_, vI 1, vR o3, u_, u_, u_, vI 0, vI 0, u_, vI y7]
  refine step (fun t k => XS.iinc X0.here hx rfl (B d12_144) (by rw [hls9]; rfl) (l' := ls11) (by rw [hls9, hls11]; rfl) k) ?_
  refine step (fun t k => XS.iload X0.here hx rfl (B d12_147) (by rw [hls11]; rfl) k) ?_
  obtain ⟨T12, X12, e12, st12⟩ := getS2 X0 hx hZ hown (host := "") (Or.inl (ww98 hw)) Via.refl e0 (Sta.ext O0.2 ST.k10) (g := (mkF m 149 ls11 [(.int 0), (.ref o3)])) rfl (B d12_149)
  refine step st12 ?_
  refine step (fun t k => XS.iload X12.here hx rfl (B d12_152) (by rw [hls11]; rfl) k) ?_
  refine step (fun t k => XS.ineg X12.here hx rfl (B d12_154) rfl k) ?_
  have hj13 := own_hj (own_ng y7 (by omega))
  obtain ⟨z13, hz13, st13⟩ := own_ldDig X12 hx hZ e12 ST.k23 O0.2 hj13 (g := (mkF m 155 ls11 [(.int (-y7)), (.ref w_5), (.int 0), (.ref o3)])) rfl rfl (B d12_155)
  refine step st13 ?_
  obtain ⟨T14, h14, X14, e14, W14, V14, st14⟩ := own_stB X12 hx hZ e12 Va (j := (0 : Int32)) (by decide) (i := 0) rfl (by show 0 < 1; decide) (g := (mkF m 156 ls11 [(.int z13), (.int 0), (.ref o3)])) rfl rfl (B d12_156)
  replace V14 : Arv Z h14 o3 kk .byte (1 : Int32) [(.int (nar .byte z13))] (.int 0) := V14
  have N14 := Fr.snoc X14 N0 geo
  obtain ⟨lc14, X14, N14⟩ := own_gen X14 N14
  have K14 : Keep h0 h14 [o3] := K0.wr W14 (Or.inl (List.mem_of_getElem? (i := 0) rfl))
  refine step st14 ?_
  refine step (fun t k => XS.iload X14.here hx rfl (B d12_157) (by rw [hls11]; rfl) k) ?_
  refine step (fun t k => XS.bipush X14.here hx rfl (B d12_159) k) ?_
  show G T14 (mkF m 161 ls11 [(.int (-9)), (.int y7)])
  have ho15 := own_nr (b := y7) (by decide : (-9 : Int32).toInt = -9) (by omega)
  refine step (fun t k => XS.icmpYes X14.here hx rfl (pc0 := 161) (pc' := 178) rfl (B d12_161) rfl (flt ho15).2.1 (by decide) (by decide) k) ?_
  refine step (fun t k => XS.iload X14.here hx rfl (B d12_178) (by rw [hls11]; rfl) k) ?_
  refine step (fun t k => XS.ifYes X14.here hx rfl (pc0 := 180) (pc' := 192) rfl (B d12_180) rfl ((if0 _ _).trans (teq (by decide : (0 : Int32) = (0 : Int32))).1) (by decide) (by decide) k) ?_
  refine step (fun t k => XS.iload X14.here hx rfl (B d12_192) (by rw [hls11]; rfl) k) ?_
  exact ret (v := some (.int 0)) X14 (fun h => by rw [Bd.returns] at h; cases h) (fun fs hr => retI X14 hx Bd.returns (B d12_194) hr) e14 ⟨(nar .byte z13), rfl, N14, K14, V14, hz13⟩ (by decide) (by decide)
theorem d12_9 : decode qc12 9 = .ok (.iconst 1, 1) := by decide +kernel
theorem d12_10 : decode qc12 10 = .ok (.goto 4, 3) := by decide +kernel
theorem d12_183 : decode qc12 183 = .ok (.aload_n 3, 1) := by decide +kernel
theorem d12_184 : decode qc12 184 = .ok (.iinc 7 (-1), 3) := by decide +kernel
theorem d12_187 : decode qc12 187 = .ok (.iload 7, 2) := by decide +kernel
theorem d12_189 : decode qc12 189 = .ok (.bipush 45, 2) := by decide +kernel
theorem d12_191 : decode qc12 191 = .ok (.bastore, 1) := by decide +kernel
abbrev rr_gc1n : Room := { frames := 0, cells := 0, slots := 0, locals := 0 }
theorem ef_gc1n (m : MethodId) (q0 : Int64) (o3 : Addr) : entryFrame m #[(.long q0), (.int 2), (.ref o3)] 11 = mkF m 0 #[vL q0, s_, vI 2, vR o3, u_, u_, u_, u_, u_, u_, u_] [] := by first | (simp [entryFrame, mkF, argsToLocals, Value.category]; done) | rfl
def Q_gc1n (Z : State) (w_0 : Addr) (w_1 : Addr) (w_2 : Addr) (w_3 : Addr) (w_4 : Addr) (w_5 : Addr) (w_6 : Addr) (w_7 : Int32) (w_8 : Value) (q0 : Int64) (o3 : Addr) (kk : ClassId) (h0 : Heap) (n0 : Nat) (v : Option Value) (h : Heap) (L : List Loc) : Prop := ∃ c0 : Int32, ∃ c1 : Int32, v = some (.int 0) ∧ Fr n0 L ∧ Keep h0 h [o3] ∧ Arv Z h o3 kk .byte (2 : Int32) [(.int c0), (.int c1)] (.int 0) ∧ ¬ (c1 &&& (255 : Int32)) = (32 : Int32)
theorem rm_gc1n (l : Launch) (Z : State) (a0 : Array Value) (hw : HW Z a0) (ws : List Jvm.Cond) (w_0 : Addr) (w_1 : Addr) (w_2 : Addr) (w_3 : Addr) (w_4 : Addr) (w_5 : Addr) (w_6 : Addr) (w_7 : Int32) (w_8 : Value) (q0 : Int64) (o3 : Addr) (kk : ClassId) (h0 : Heap) (n0 : Nat) (Z0 : n0 ≤ h0.size) (ST : own_St Z w_0 w_1 w_2 w_3 w_4 w_5 w_6 w_7 w_8) (O0 : Old Z n0 h0) (hrg : -2147483648 ≤ q0.toInt ∧ q0.toInt ≤ 2147483647) (hsg : q0 < (0 : Int64)) (hlo : (-10 : Int64) < q0) (Va : Arv Z h0 o3 kk .byte (2 : Int32) [(.int 0), (.int 0)] (.int 0)) (geo : n0 ≤ o3) :
    MetFree l y_12 (head1 (Jvm.Cond.code y_12 jdk_35_method_14_code 11 (some .int) :: ws) rr_gc1n) (fun a U => a = #[(.long q0), (.int 2), (.ref o3)] ∧ Z.Warmed39 U.vm ∧ U.heap = h0) (fun _ _ _ _ _ => True) (fun _ U o U' => ∃ v L, o = .returned v ∧ Q_gc1n Z w_0 w_1 w_2 w_3 w_4 w_5 w_6 w_7 w_8 q0 o3 kk h0 n0 v U'.heap L ∧ FrameEnd U o U' L rr_gc1n.cells rr_gc1n.slots) := by
  refine MetFree.of_bodySF (plainFor_of_name pn_5) hisR ?_
  intro p e s m args below meth c s₁ Bd hml0 hP hK
  obtain ⟨rfl, hZ, hh⟩ := hP
  have hx := Bd.exec
  have hby := Bd.bytes
  have B := @hb _ _ hby
  have hml : c.maxLocals = 11 := hml0
  have hown : s.vm.findClass cn_3 = some m.cls := findClass_of_methodNamed Bd.named
  have X0 : Stand p l e rr_gc1n s m #[(.long q0), (.int 2), (.ref o3)] below meth c s₁ [] 0 0 := Stand.of_body Bd
  have e0 : s₁.heap = h0 := by rw [← hh, Bd.state]; rfl
  have N0 := Fr.nil n0
  have K0 : Keep h0 h0 [o3] := Keep.refl _ _
  obtain ⟨G, step, ret, fin⟩ := own_openX X0 (rr_gc1n.cells) (rr_gc1n.slots) (Q_gc1n Z w_0 w_1 w_2 w_3 w_4 w_5 w_6 w_7 w_8 q0 o3 kk h0 n0) Bd.notSynchronized
  refine fin (g := entryFrame m #[(.long q0), (.int 2), (.ref o3)] 11) ?_
  rw [ef_gc1n m q0 o3]
  obtain ⟨ls0, hls0⟩ := own_sl #[vL q0, s_, vI 2, vR o3, u_, u_, u_, u_, u_, u_, u_]
  suffices hG0 : G s₁ (mkF m 0 ls0 []) by rw [hls0] at hG0; exact hG0
  refine step (fun t k => XS.iloadN X0.here hx rfl (B d12_0) (by rw [hls0]; rfl) k) ?_
  obtain ⟨ls1, hls1⟩ := own_sl #[vL q0, s_, vI 2, vR o3, u_, u_, u_, vI 2, u_, u_, u_]
  refine step (fun t k => XS.istore X0.here hx rfl (B d12_1) rfl (l' := ls1) (by rw [hls0, hls1]; rfl) k) ?_
  refine step (fun t k => XS.lloadN X0.here hx rfl (B d12_3) (by rw [hls1]; rfl) k) ?_
  refine step (fun t k => XS.lconst X0.here hx rfl (B d12_4) k) ?_
  refine step (fun t k => XS.lcmp X0.here hx rfl (B d12_5) rfl k) ?_
  refine step (fun t k => XS.ifNo X0.here hx rfl (B d12_6) rfl ((if0 _ _).trans (tlt ((lw_lt _ _).mpr hsg)).2.1) k) ?_
  show G s₁ (mkF m 9 ls1 [])
  refine step (fun t k => XS.iconst X0.here hx rfl (B d12_9) k) ?_
  refine step (fun t k => XS.goto X0.here hx rfl (pc0 := 10) (pc' := 14) rfl (B d12_10) (by decide) (by decide) k) ?_
  obtain ⟨ls2, hls2⟩ := own_sl #[vL q0, s_, vI 2, vR o3, u_, u_, u_, vI 2, vI 1, u_, u_]
  refine step (fun t k => XS.istore X0.here hx rfl (B d12_14) rfl (l' := ls2) (by rw [hls1, hls2]; rfl) k) ?_
  refine step (fun t k => XS.iload X0.here hx rfl (B d12_16) (by rw [hls2]; rfl) k) ?_
  refine step (fun t k => XS.ifYes X0.here hx rfl (pc0 := 18) (pc' := 24) rfl (B d12_18) rfl ((if0 _ _).trans (feq (by decide : ¬ ((1 : Int32) = (0 : Int32)))).2) (by decide) (by decide) k) ?_
  have bd3 : -10 < q0.toInt ∧ q0.toInt ≤ 0 := by
    have k0 : (0 : Int64).toInt = 0 := by decide
    rw [own_xltL] at hsg
    have k1 : (-10 : Int64).toInt = -10 := by decide
    rw [own_xltL] at hlo
    omega
  refine step (fun t k => XS.lloadN X0.here hx rfl (B d12_24) (by rw [hls2]; rfl) k) ?_
  show G s₁ (mkF m 25 ls2 [(.long q0)])
  have q4 := X0.ldc2Long hx hown (mvT hZ (ww97 hw)) (g := (mkF m 25 ls2 [(.long q0)])) rfl (B d12_25)
  refine step q4 ?_
  refine step (fun t k => XS.lcmp X0.here hx rfl (B d12_28) rfl k) ?_
  have ho5 := own_yL (b := q0) (by decide : (-2147483648 : Int64).toInt = -2147483648) (by omega)
  refine step (fun t k => XS.ifYes X0.here hx rfl (pc0 := 29) (pc' := 82) rfl (B d12_29) rfl ((if0 _ _).trans (tlt ((lw_gt _ _).mpr ho5)).2.2.1) (by decide) (by decide) k) ?_
  refine step (fun t k => XS.lloadN X0.here hx rfl (B d12_82) (by rw [hls2]; rfl) k) ?_
  refine step (fun t k => XS.l2i X0.here hx rfl (B d12_83) rfl k) ?_
  show G s₁ (mkF m 84 ls2 [(.int (q0.toInt32))])
  obtain ⟨y6, hy6⟩ := own_ex (q0.toInt32)
  rw [← hy6]
  have bd7 : -10 < y6.toInt ∧ y6.toInt ≤ 0 := by
    rw [hy6]
    have c1 := c_l2i q0
    have r1 := rng32 q0.toInt32
    omega
  obtain ⟨ls8, hls8⟩ := own_sl #[vL q0, s_, vI 2, vR o3, u_, u_, u_, vI 2, vI 1, u_, vI y6]
  refine step (fun t k => XS.istore X0.here hx rfl (B d12_84) rfl (l' := ls8) (by rw [hls2, hls8]; rfl) k) ?_
  refine step (fun t k => XS.iload X0.here hx rfl (B d12_86) (by rw [hls8]; rfl) k) ?_
  refine step (fun t k => XS.bipush X0.here hx rfl (B d12_88) k) ?_
  show G s₁ (mkF m 90 ls8 [(.int (-100)), (.int y6)])
  have ho9 := own_y (b := y6) (by decide : (-100 : Int32).toInt = -100) (by omega)
  refine step (fun t k => XS.icmpYes X0.here hx rfl (pc0 := 90) (pc' := 143) rfl (B d12_90) rfl (tlt ho9).2.2.1 (by decide) (by decide) k) ?_
  refine step (fun t k => XS.aloadN X0.here hx rfl (B d12_143) (by rw [hls8]; rfl) rfl k) ?_
  obtain ⟨ls10, hls10⟩ := own_sl #[vL q0, s_, vI 2, vR o3, u_, u_, u_, vI 1, vI 1, u_, vI y6]
  refine step (fun t k => XS.iinc X0.here hx rfl (B d12_144) (by rw [hls8]; rfl) (l' := ls10) (by rw [hls8, hls10]; rfl) k) ?_
  refine step (fun t k => XS.iload X0.here hx rfl (B d12_147) (by rw [hls10]; rfl) k) ?_
  obtain ⟨T11, X11, e11, st11⟩ := getS2 X0 hx hZ hown (host := "") (Or.inl (ww98 hw)) Via.refl e0 (Sta.ext O0.2 ST.k10) (g := (mkF m 149 ls10 [(.int 1), (.ref o3)])) rfl (B d12_149)
  refine step st11 ?_
  refine step (fun t k => XS.iload X11.here hx rfl (B d12_152) (by rw [hls10]; rfl) k) ?_
  refine step (fun t k => XS.ineg X11.here hx rfl (B d12_154) rfl k) ?_
  have hj12 := own_hj (own_ng y6 (by omega))
  obtain ⟨z12, hz12, st12⟩ := own_ldDig X11 hx hZ e11 ST.k23 O0.2 hj12 (g := (mkF m 155 ls10 [(.int (-y6)), (.ref w_5), (.int 1), (.ref o3)])) rfl rfl (B d12_155)
  refine step st12 ?_
  obtain ⟨T13, h13, X13, e13, W13, V13, st13⟩ := own_stB X11 hx hZ e11 Va (j := (1 : Int32)) (by decide) (i := 1) rfl (by show 1 < 2; decide) (g := (mkF m 156 ls10 [(.int z12), (.int 1), (.ref o3)])) rfl rfl (B d12_156)
  replace V13 : Arv Z h13 o3 kk .byte (2 : Int32) [(.int 0), (.int (nar .byte z12))] (.int 0) := V13
  have N13 := Fr.snoc X13 N0 geo
  obtain ⟨lc13, X13, N13⟩ := own_gen X13 N13
  have K13 : Keep h0 h13 [o3] := K0.wr W13 (Or.inl (List.mem_of_getElem? (i := 0) rfl))
  refine step st13 ?_
  refine step (fun t k => XS.iload X13.here hx rfl (B d12_157) (by rw [hls10]; rfl) k) ?_
  refine step (fun t k => XS.bipush X13.here hx rfl (B d12_159) k) ?_
  show G T13 (mkF m 161 ls10 [(.int (-9)), (.int y6)])
  have ho14 := own_nr (b := y6) (by decide : (-9 : Int32).toInt = -9) (by omega)
  refine step (fun t k => XS.icmpYes X13.here hx rfl (pc0 := 161) (pc' := 178) rfl (B d12_161) rfl (flt ho14).2.1 (by decide) (by decide) k) ?_
  refine step (fun t k => XS.iload X13.here hx rfl (B d12_178) (by rw [hls10]; rfl) k) ?_
  refine step (fun t k => XS.ifNo X13.here hx rfl (B d12_180) rfl ((if0 _ _).trans (feq (by decide : ¬ ((1 : Int32) = (0 : Int32)))).1) k) ?_
  refine step (fun t k => XS.aloadN X13.here hx rfl (B d12_183) (by rw [hls10]; rfl) rfl k) ?_
  obtain ⟨ls15, hls15⟩ := own_sl #[vL q0, s_, vI 2, vR o3, u_, u_, u_, vI 0, vI 1, u_, vI y6]
  refine step (fun t k => XS.iinc X13.here hx rfl (B d12_184) (by rw [hls10]; rfl) (l' := ls15) (by rw [hls10, hls15]; rfl) k) ?_
  refine step (fun t k => XS.iload X13.here hx rfl (B d12_187) (by rw [hls15]; rfl) k) ?_
  show G T13 (mkF m 189 ls15 [(.int 0), (.ref o3)])
  refine step (fun t k => XS.bipush X13.here hx rfl (B d12_189) k) ?_
  show G T13 (mkF m 191 ls15 [(.int 45), (.int 0), (.ref o3)])
  obtain ⟨T16, h16, X16, e16, W16, V16, st16⟩ := own_stB X13 hx hZ e13 V13 (j := (0 : Int32)) (by decide) (i := 0) rfl (by show 0 < 2; decide) (g := (mkF m 191 ls15 [(.int 45), (.int 0), (.ref o3)])) rfl rfl (B d12_191)
  replace V16 : Arv Z h16 o3 kk .byte (2 : Int32) [(.int (nar .byte (45 : Int32))), (.int (nar .byte z12))] (.int 0) := V16
  have N16 := Fr.snoc X16 N13 geo
  obtain ⟨lc16, X16, N16⟩ := own_gen X16 N16
  have K16 : Keep h0 h16 [o3] := K13.wr W16 (Or.inl (List.mem_of_getElem? (i := 0) rfl))
  refine step st16 ?_
  refine step (fun t k => XS.iload X16.here hx rfl (B d12_192) (by rw [hls15]; rfl) k) ?_
  exact ret (v := some (.int 0)) X16 (fun h => by rw [Bd.returns] at h; cases h) (fun fs hr => retI X16 hx Bd.returns (B d12_194) hr) e16 ⟨(nar .byte (45 : Int32)), (nar .byte z12), rfl, N16, K16, V16, hz12⟩ (by decide) (by decide)
theorem d12_164 : decode qc12 164 = .ok (.aload_n 3, 1) := by decide +kernel
theorem d12_165 : decode qc12 165 = .ok (.iinc 7 (-1), 3) := by decide +kernel
theorem d12_168 : decode qc12 168 = .ok (.iload 7, 2) := by decide +kernel
theorem d12_170 : decode qc12 170 = .ok (.getstatic 137, 3) := by decide +kernel
theorem ww185 (hw : HW Z a0) : Cond.before (Cond.fieldLink cn_3 137 cn_23 "DigitTens" "[B") a0 Z = true := own_w hw 185 rfl
theorem d12_173 : decode qc12 173 = .ok (.iload 10, 2) := by decide +kernel
theorem d12_175 : decode qc12 175 = .ok (.ineg, 1) := by decide +kernel
theorem d12_176 : decode qc12 176 = .ok (.baload, 1) := by decide +kernel
theorem d12_177 : decode qc12 177 = .ok (.bastore, 1) := by decide +kernel
abbrev rr_gc2p : Room := { frames := 0, cells := 0, slots := 0, locals := 0 }
theorem ef_gc2p (m : MethodId) (q0 : Int64) (o3 : Addr) : entryFrame m #[(.long q0), (.int 2), (.ref o3)] 11 = mkF m 0 #[vL q0, s_, vI 2, vR o3, u_, u_, u_, u_, u_, u_, u_] [] := by first | (simp [entryFrame, mkF, argsToLocals, Value.category]; done) | rfl
def Q_gc2p (Z : State) (w_0 : Addr) (w_1 : Addr) (w_2 : Addr) (w_3 : Addr) (w_4 : Addr) (w_5 : Addr) (w_6 : Addr) (w_7 : Int32) (w_8 : Value) (q0 : Int64) (o3 : Addr) (kk : ClassId) (h0 : Heap) (n0 : Nat) (v : Option Value) (h : Heap) (L : List Loc) : Prop := ∃ c0 : Int32, ∃ c1 : Int32, v = some (.int 0) ∧ Fr n0 L ∧ Keep h0 h [o3] ∧ Arv Z h o3 kk .byte (2 : Int32) [(.int c0), (.int c1)] (.int 0) ∧ ¬ (c1 &&& (255 : Int32)) = (32 : Int32)
theorem rm_gc2p (l : Launch) (Z : State) (a0 : Array Value) (hw : HW Z a0) (ws : List Jvm.Cond) (w_0 : Addr) (w_1 : Addr) (w_2 : Addr) (w_3 : Addr) (w_4 : Addr) (w_5 : Addr) (w_6 : Addr) (w_7 : Int32) (w_8 : Value) (q0 : Int64) (o3 : Addr) (kk : ClassId) (h0 : Heap) (n0 : Nat) (Z0 : n0 ≤ h0.size) (ST : own_St Z w_0 w_1 w_2 w_3 w_4 w_5 w_6 w_7 w_8) (O0 : Old Z n0 h0) (hrg : -2147483648 ≤ q0.toInt ∧ q0.toInt ≤ 2147483647) (hsg : ¬ (q0 < (0 : Int64))) (hlo : (-100 : Int64) < (-q0)) (hhi : ¬ ((-10 : Int64) < (-q0))) (Va : Arv Z h0 o3 kk .byte (2 : Int32) [(.int 0), (.int 0)] (.int 0)) (geo : n0 ≤ o3) :
    MetFree l y_12 (head1 (Jvm.Cond.code y_12 jdk_35_method_14_code 11 (some .int) :: ws) rr_gc2p) (fun a U => a = #[(.long q0), (.int 2), (.ref o3)] ∧ Z.Warmed39 U.vm ∧ U.heap = h0) (fun _ _ _ _ _ => True) (fun _ U o U' => ∃ v L, o = .returned v ∧ Q_gc2p Z w_0 w_1 w_2 w_3 w_4 w_5 w_6 w_7 w_8 q0 o3 kk h0 n0 v U'.heap L ∧ FrameEnd U o U' L rr_gc2p.cells rr_gc2p.slots) := by
  refine MetFree.of_bodySF (plainFor_of_name pn_5) hisR ?_
  intro p e s m args below meth c s₁ Bd hml0 hP hK
  obtain ⟨rfl, hZ, hh⟩ := hP
  have hx := Bd.exec
  have hby := Bd.bytes
  have B := @hb _ _ hby
  have hml : c.maxLocals = 11 := hml0
  have hown : s.vm.findClass cn_3 = some m.cls := findClass_of_methodNamed Bd.named
  have X0 : Stand p l e rr_gc2p s m #[(.long q0), (.int 2), (.ref o3)] below meth c s₁ [] 0 0 := Stand.of_body Bd
  have e0 : s₁.heap = h0 := by rw [← hh, Bd.state]; rfl
  have N0 := Fr.nil n0
  have K0 : Keep h0 h0 [o3] := Keep.refl _ _
  obtain ⟨G, step, ret, fin⟩ := own_openX X0 (rr_gc2p.cells) (rr_gc2p.slots) (Q_gc2p Z w_0 w_1 w_2 w_3 w_4 w_5 w_6 w_7 w_8 q0 o3 kk h0 n0) Bd.notSynchronized
  refine fin (g := entryFrame m #[(.long q0), (.int 2), (.ref o3)] 11) ?_
  rw [ef_gc2p m q0 o3]
  obtain ⟨ls0, hls0⟩ := own_sl #[vL q0, s_, vI 2, vR o3, u_, u_, u_, u_, u_, u_, u_]
  suffices hG0 : G s₁ (mkF m 0 ls0 []) by rw [hls0] at hG0; exact hG0
  refine step (fun t k => XS.iloadN X0.here hx rfl (B d12_0) (by rw [hls0]; rfl) k) ?_
  obtain ⟨ls1, hls1⟩ := own_sl #[vL q0, s_, vI 2, vR o3, u_, u_, u_, vI 2, u_, u_, u_]
  refine step (fun t k => XS.istore X0.here hx rfl (B d12_1) rfl (l' := ls1) (by rw [hls0, hls1]; rfl) k) ?_
  refine step (fun t k => XS.lloadN X0.here hx rfl (B d12_3) (by rw [hls1]; rfl) k) ?_
  refine step (fun t k => XS.lconst X0.here hx rfl (B d12_4) k) ?_
  refine step (fun t k => XS.lcmp X0.here hx rfl (B d12_5) rfl k) ?_
  refine step (fun t k => XS.ifYes X0.here hx rfl (pc0 := 6) (pc' := 13) rfl (B d12_6) rfl ((if0 _ _).trans (flt (fun q => hsg ((lw_lt _ _).mp q))).2.1) (by decide) (by decide) k) ?_
  show G s₁ (mkF m 13 ls1 [])
  refine step (fun t k => XS.iconst X0.here hx rfl (B d12_13) k) ?_
  obtain ⟨ls2, hls2⟩ := own_sl #[vL q0, s_, vI 2, vR o3, u_, u_, u_, vI 2, vI 0, u_, u_]
  refine step (fun t k => XS.istore X0.here hx rfl (B d12_14) rfl (l' := ls2) (by rw [hls1, hls2]; rfl) k) ?_
  refine step (fun t k => XS.iload X0.here hx rfl (B d12_16) (by rw [hls2]; rfl) k) ?_
  refine step (fun t k => XS.ifNo X0.here hx rfl (B d12_18) rfl ((if0 _ _).trans (teq (by decide : (0 : Int32) = (0 : Int32))).2) k) ?_
  refine step (fun t k => XS.lloadN X0.here hx rfl (B d12_21) (by rw [hls2]; rfl) k) ?_
  refine step (fun t k => XS.lneg X0.here hx rfl (B d12_22) rfl k) ?_
  show G s₁ (mkF m 23 ls2 [(.long (-q0))])
  obtain ⟨x0, hx0⟩ : ∃ z : Int64, z = (-q0) := ⟨_, rfl⟩
  rw [← hx0]
  have bd3 : -100 < x0.toInt ∧ x0.toInt ≤ -10 := by
    rw [hx0]
    have c1 := c_lneg q0
    have r1 := rng64 (-q0)
    have k0 : (0 : Int64).toInt = 0 := by decide
    rw [own_xltL] at hsg
    have k1 : (-100 : Int64).toInt = -100 := by decide
    rw [own_xltL] at hlo
    have k2 : (-10 : Int64).toInt = -10 := by decide
    rw [own_xltL] at hhi
    omega
  obtain ⟨ls4, hls4⟩ := own_sl #[vL x0, s_, vI 2, vR o3, u_, u_, u_, vI 2, vI 0, u_, u_]
  refine step (fun t k => XS.lstoreN X0.here hx rfl (B d12_23) rfl (l' := ls4) (by rw [hls2, hls4]; rfl) k) ?_
  refine step (fun t k => XS.lloadN X0.here hx rfl (B d12_24) (by rw [hls4]; rfl) k) ?_
  have q5 := X0.ldc2Long hx hown (mvT hZ (ww97 hw)) (g := (mkF m 25 ls4 [(.long x0)])) rfl (B d12_25)
  refine step q5 ?_
  refine step (fun t k => XS.lcmp X0.here hx rfl (B d12_28) rfl k) ?_
  have ho6 := own_yL (b := x0) (by decide : (-2147483648 : Int64).toInt = -2147483648) (by omega)
  refine step (fun t k => XS.ifYes X0.here hx rfl (pc0 := 29) (pc' := 82) rfl (B d12_29) rfl ((if0 _ _).trans (tlt ((lw_gt _ _).mpr ho6)).2.2.1) (by decide) (by decide) k) ?_
  refine step (fun t k => XS.lloadN X0.here hx rfl (B d12_82) (by rw [hls4]; rfl) k) ?_
  refine step (fun t k => XS.l2i X0.here hx rfl (B d12_83) rfl k) ?_
  show G s₁ (mkF m 84 ls4 [(.int (x0.toInt32))])
  obtain ⟨y7, hy7⟩ := own_ex (x0.toInt32)
  rw [← hy7]
  have bd8 : -100 < y7.toInt ∧ y7.toInt ≤ -10 := by
    rw [hy7]
    have c1 := c_l2i x0
    have r1 := rng32 x0.toInt32
    omega
  obtain ⟨ls9, hls9⟩ := own_sl #[vL x0, s_, vI 2, vR o3, u_, u_, u_, vI 2, vI 0, u_, vI y7]
  refine step (fun t k => XS.istore X0.here hx rfl (B d12_84) rfl (l' := ls9) (by rw [hls4, hls9]; rfl) k) ?_
  refine step (fun t k => XS.iload X0.here hx rfl (B d12_86) (by rw [hls9]; rfl) k) ?_
  refine step (fun t k => XS.bipush X0.here hx rfl (B d12_88) k) ?_
  show G s₁ (mkF m 90 ls9 [(.int (-100)), (.int y7)])
  have ho10 := own_y (b := y7) (by decide : (-100 : Int32).toInt = -100) (by omega)
  refine step (fun t k => XS.icmpYes X0.here hx rfl (pc0 := 90) (pc' := 143) rfl (B d12_90) rfl (tlt ho10).2.2.1 (by decide) (by decide) k) ?_
  refine step (fun t k => XS.aloadN X0.here hx rfl (B d12_143) (by rw [hls9]; rfl) rfl k) ?_
  obtain ⟨ls11, hls11⟩ := own_sl #[vL x0, s_, vI 2, vR o3, u_, u_, u_, vI 1, vI 0, u_, vI y7]
  refine step (fun t k => XS.iinc X0.here hx rfl (B d12_144) (by rw [hls9]; rfl) (l' := ls11) (by rw [hls9, hls11]; rfl) k) ?_
  refine step (fun t k => XS.iload X0.here hx rfl (B d12_147) (by rw [hls11]; rfl) k) ?_
  obtain ⟨T12, X12, e12, st12⟩ := getS2 X0 hx hZ hown (host := "") (Or.inl (ww98 hw)) Via.refl e0 (Sta.ext O0.2 ST.k10) (g := (mkF m 149 ls11 [(.int 1), (.ref o3)])) rfl (B d12_149)
  refine step st12 ?_
  refine step (fun t k => XS.iload X12.here hx rfl (B d12_152) (by rw [hls11]; rfl) k) ?_
  refine step (fun t k => XS.ineg X12.here hx rfl (B d12_154) rfl k) ?_
  have hj13 := own_hj (own_ng y7 (by omega))
  obtain ⟨z13, hz13, st13⟩ := own_ldDig X12 hx hZ e12 ST.k23 O0.2 hj13 (g := (mkF m 155 ls11 [(.int (-y7)), (.ref w_5), (.int 1), (.ref o3)])) rfl rfl (B d12_155)
  refine step st13 ?_
  obtain ⟨T14, h14, X14, e14, W14, V14, st14⟩ := own_stB X12 hx hZ e12 Va (j := (1 : Int32)) (by decide) (i := 1) rfl (by show 1 < 2; decide) (g := (mkF m 156 ls11 [(.int z13), (.int 1), (.ref o3)])) rfl rfl (B d12_156)
  replace V14 : Arv Z h14 o3 kk .byte (2 : Int32) [(.int 0), (.int (nar .byte z13))] (.int 0) := V14
  have N14 := Fr.snoc X14 N0 geo
  obtain ⟨lc14, X14, N14⟩ := own_gen X14 N14
  have O14 := O0.wr W14 geo
  have K14 : Keep h0 h14 [o3] := K0.wr W14 (Or.inl (List.mem_of_getElem? (i := 0) rfl))
  refine step st14 ?_
  refine step (fun t k => XS.iload X14.here hx rfl (B d12_157) (by rw [hls11]; rfl) k) ?_
  refine step (fun t k => XS.bipush X14.here hx rfl (B d12_159) k) ?_
  show G T14 (mkF m 161 ls11 [(.int (-9)), (.int y7)])
  have ho15 := own_yr (b := y7) (by decide : (-9 : Int32).toInt = -9) (by omega)
  refine step (fun t k => XS.icmpNo X14.here hx rfl (B d12_161) rfl (tlt ho15).2.1 k) ?_
  refine step (fun t k => XS.aloadN X14.here hx rfl (B d12_164) (by rw [hls11]; rfl) rfl k) ?_
  obtain ⟨ls16, hls16⟩ := own_sl #[vL x0, s_, vI 2, vR o3, u_, u_, u_, vI 0, vI 0, u_, vI y7]
  refine step (fun t k => XS.iinc X14.here hx rfl (B d12_165) (by rw [hls11]; rfl) (l' := ls16) (by rw [hls11, hls16]; rfl) k) ?_
  refine step (fun t k => XS.iload X14.here hx rfl (B d12_168) (by rw [hls16]; rfl) k) ?_
  obtain ⟨T17, X17, e17, st17⟩ := getS2 X14 hx hZ hown (host := "") (Or.inl (ww185 hw)) Via.refl e14 (Sta.ext O14.2 ST.k12) (g := (mkF m 170 ls16 [(.int 0), (.ref o3)])) rfl (B d12_170)
  refine step st17 ?_
  refine step (fun t k => XS.iload X17.here hx rfl (B d12_173) (by rw [hls16]; rfl) k) ?_
  refine step (fun t k => XS.ineg X17.here hx rfl (B d12_175) rfl k) ?_
  have hj18 := own_hj (own_ng y7 (by omega))
  obtain ⟨z18, hz18, st18⟩ := own_ldDig X17 hx hZ e17 ST.k24 O14.2 hj18 (g := (mkF m 176 ls16 [(.int (-y7)), (.ref w_6), (.int 0), (.ref o3)])) rfl rfl (B d12_176)
  refine step st18 ?_
  obtain ⟨T19, h19, X19, e19, W19, V19, st19⟩ := own_stB X17 hx hZ e17 V14 (j := (0 : Int32)) (by decide) (i := 0) rfl (by show 0 < 2; decide) (g := (mkF m 177 ls16 [(.int z18), (.int 0), (.ref o3)])) rfl rfl (B d12_177)
  replace V19 : Arv Z h19 o3 kk .byte (2 : Int32) [(.int (nar .byte z18)), (.int (nar .byte z13))] (.int 0) := V19
  have N19 := Fr.snoc X19 N14 geo
  obtain ⟨lc19, X19, N19⟩ := own_gen X19 N19
  have K19 : Keep h0 h19 [o3] := K14.wr W19 (Or.inl (List.mem_of_getElem? (i := 0) rfl))
  refine step st19 ?_
  refine step (fun t k => XS.iload X19.here hx rfl (B d12_178) (by rw [hls16]; rfl) k) ?_
  refine step (fun t k => XS.ifYes X19.here hx rfl (pc0 := 180) (pc' := 192) rfl (B d12_180) rfl ((if0 _ _).trans (teq (by decide : (0 : Int32) = (0 : Int32))).1) (by decide) (by decide) k) ?_
  refine step (fun t k => XS.iload X19.here hx rfl (B d12_192) (by rw [hls16]; rfl) k) ?_
  exact ret (v := some (.int 0)) X19 (fun h => by rw [Bd.returns] at h; cases h) (fun fs hr => retI X19 hx Bd.returns (B d12_194) hr) e19 ⟨(nar .byte z18), (nar .byte z13), rfl, N19, K19, V19, hz13⟩ (by decide) (by decide)
abbrev rr_gc2n : Room := { frames := 0, cells := 0, slots := 0, locals := 0 }
theorem ef_gc2n (m : MethodId) (q0 : Int64) (o3 : Addr) : entryFrame m #[(.long q0), (.int 3), (.ref o3)] 11 = mkF m 0 #[vL q0, s_, vI 3, vR o3, u_, u_, u_, u_, u_, u_, u_] [] := by first | (simp [entryFrame, mkF, argsToLocals, Value.category]; done) | rfl
def Q_gc2n (Z : State) (w_0 : Addr) (w_1 : Addr) (w_2 : Addr) (w_3 : Addr) (w_4 : Addr) (w_5 : Addr) (w_6 : Addr) (w_7 : Int32) (w_8 : Value) (q0 : Int64) (o3 : Addr) (kk : ClassId) (h0 : Heap) (n0 : Nat) (v : Option Value) (h : Heap) (L : List Loc) : Prop := ∃ c0 : Int32, ∃ c1 : Int32, ∃ c2 : Int32, v = some (.int 0) ∧ Fr n0 L ∧ Keep h0 h [o3] ∧ Arv Z h o3 kk .byte (3 : Int32) [(.int c0), (.int c1), (.int c2)] (.int 0) ∧ ¬ (c2 &&& (255 : Int32)) = (32 : Int32)
theorem rm_gc2n (l : Launch) (Z : State) (a0 : Array Value) (hw : HW Z a0) (ws : List Jvm.Cond) (w_0 : Addr) (w_1 : Addr) (w_2 : Addr) (w_3 : Addr) (w_4 : Addr) (w_5 : Addr) (w_6 : Addr) (w_7 : Int32) (w_8 : Value) (q0 : Int64) (o3 : Addr) (kk : ClassId) (h0 : Heap) (n0 : Nat) (Z0 : n0 ≤ h0.size) (ST : own_St Z w_0 w_1 w_2 w_3 w_4 w_5 w_6 w_7 w_8) (O0 : Old Z n0 h0) (hrg : -2147483648 ≤ q0.toInt ∧ q0.toInt ≤ 2147483647) (hsg : q0 < (0 : Int64)) (hlo : (-100 : Int64) < q0) (hhi : ¬ ((-10 : Int64) < q0)) (Va : Arv Z h0 o3 kk .byte (3 : Int32) [(.int 0), (.int 0), (.int 0)] (.int 0)) (geo : n0 ≤ o3) :
    MetFree l y_12 (head1 (Jvm.Cond.code y_12 jdk_35_method_14_code 11 (some .int) :: ws) rr_gc2n) (fun a U => a = #[(.long q0), (.int 3), (.ref o3)] ∧ Z.Warmed39 U.vm ∧ U.heap = h0) (fun _ _ _ _ _ => True) (fun _ U o U' => ∃ v L, o = .returned v ∧ Q_gc2n Z w_0 w_1 w_2 w_3 w_4 w_5 w_6 w_7 w_8 q0 o3 kk h0 n0 v U'.heap L ∧ FrameEnd U o U' L rr_gc2n.cells rr_gc2n.slots) := by
  refine MetFree.of_bodySF (plainFor_of_name pn_5) hisR ?_
  intro p e s m args below meth c s₁ Bd hml0 hP hK
  obtain ⟨rfl, hZ, hh⟩ := hP
  have hx := Bd.exec
  have hby := Bd.bytes
  have B := @hb _ _ hby
  have hml : c.maxLocals = 11 := hml0
  have hown : s.vm.findClass cn_3 = some m.cls := findClass_of_methodNamed Bd.named
  have X0 : Stand p l e rr_gc2n s m #[(.long q0), (.int 3), (.ref o3)] below meth c s₁ [] 0 0 := Stand.of_body Bd
  have e0 : s₁.heap = h0 := by rw [← hh, Bd.state]; rfl
  have N0 := Fr.nil n0
  have K0 : Keep h0 h0 [o3] := Keep.refl _ _
  obtain ⟨G, step, ret, fin⟩ := own_openX X0 (rr_gc2n.cells) (rr_gc2n.slots) (Q_gc2n Z w_0 w_1 w_2 w_3 w_4 w_5 w_6 w_7 w_8 q0 o3 kk h0 n0) Bd.notSynchronized
  refine fin (g := entryFrame m #[(.long q0), (.int 3), (.ref o3)] 11) ?_
  rw [ef_gc2n m q0 o3]
  obtain ⟨ls0, hls0⟩ := own_sl #[vL q0, s_, vI 3, vR o3, u_, u_, u_, u_, u_, u_, u_]
  suffices hG0 : G s₁ (mkF m 0 ls0 []) by rw [hls0] at hG0; exact hG0
  refine step (fun t k => XS.iloadN X0.here hx rfl (B d12_0) (by rw [hls0]; rfl) k) ?_
  obtain ⟨ls1, hls1⟩ := own_sl #[vL q0, s_, vI 3, vR o3, u_, u_, u_, vI 3, u_, u_, u_]
  refine step (fun t k => XS.istore X0.here hx rfl (B d12_1) rfl (l' := ls1) (by rw [hls0, hls1]; rfl) k) ?_
  refine step (fun t k => XS.lloadN X0.here hx rfl (B d12_3) (by rw [hls1]; rfl) k) ?_
  refine step (fun t k => XS.lconst X0.here hx rfl (B d12_4) k) ?_
  refine step (fun t k => XS.lcmp X0.here hx rfl (B d12_5) rfl k) ?_
  refine step (fun t k => XS.ifNo X0.here hx rfl (B d12_6) rfl ((if0 _ _).trans (tlt ((lw_lt _ _).mpr hsg)).2.1) k) ?_
  show G s₁ (mkF m 9 ls1 [])
  refine step (fun t k => XS.iconst X0.here hx rfl (B d12_9) k) ?_
  refine step (fun t k => XS.goto X0.here hx rfl (pc0 := 10) (pc' := 14) rfl (B d12_10) (by decide) (by decide) k) ?_
  obtain ⟨ls2, hls2⟩ := own_sl #[vL q0, s_, vI 3, vR o3, u_, u_, u_, vI 3, vI 1, u_, u_]
  refine step (fun t k => XS.istore X0.here hx rfl (B d12_14) rfl (l' := ls2) (by rw [hls1, hls2]; rfl) k) ?_
  refine step (fun t k => XS.iload X0.here hx rfl (B d12_16) (by rw [hls2]; rfl) k) ?_
  refine step (fun t k => XS.ifYes X0.here hx rfl (pc0 := 18) (pc' := 24) rfl (B d12_18) rfl ((if0 _ _).trans (feq (by decide : ¬ ((1 : Int32) = (0 : Int32)))).2) (by decide) (by decide) k) ?_
  have bd3 : -100 < q0.toInt ∧ q0.toInt ≤ -10 := by
    have k0 : (0 : Int64).toInt = 0 := by decide
    rw [own_xltL] at hsg
    have k1 : (-100 : Int64).toInt = -100 := by decide
    rw [own_xltL] at hlo
    have k2 : (-10 : Int64).toInt = -10 := by decide
    rw [own_xltL] at hhi
    omega
  refine step (fun t k => XS.lloadN X0.here hx rfl (B d12_24) (by rw [hls2]; rfl) k) ?_
  show G s₁ (mkF m 25 ls2 [(.long q0)])
  have q4 := X0.ldc2Long hx hown (mvT hZ (ww97 hw)) (g := (mkF m 25 ls2 [(.long q0)])) rfl (B d12_25)
  refine step q4 ?_
  refine step (fun t k => XS.lcmp X0.here hx rfl (B d12_28) rfl k) ?_
  have ho5 := own_yL (b := q0) (by decide : (-2147483648 : Int64).toInt = -2147483648) (by omega)
  refine step (fun t k => XS.ifYes X0.here hx rfl (pc0 := 29) (pc' := 82) rfl (B d12_29) rfl ((if0 _ _).trans (tlt ((lw_gt _ _).mpr ho5)).2.2.1) (by decide) (by decide) k) ?_
  refine step (fun t k => XS.lloadN X0.here hx rfl (B d12_82) (by rw [hls2]; rfl) k) ?_
  refine step (fun t k => XS.l2i X0.here hx rfl (B d12_83) rfl k) ?_
  show G s₁ (mkF m 84 ls2 [(.int (q0.toInt32))])
  obtain ⟨y6, hy6⟩ := own_ex (q0.toInt32)
  rw [← hy6]
  have bd7 : -100 < y6.toInt ∧ y6.toInt ≤ -10 := by
    rw [hy6]
    have c1 := c_l2i q0
    have r1 := rng32 q0.toInt32
    omega
  obtain ⟨ls8, hls8⟩ := own_sl #[vL q0, s_, vI 3, vR o3, u_, u_, u_, vI 3, vI 1, u_, vI y6]
  refine step (fun t k => XS.istore X0.here hx rfl (B d12_84) rfl (l' := ls8) (by rw [hls2, hls8]; rfl) k) ?_
  refine step (fun t k => XS.iload X0.here hx rfl (B d12_86) (by rw [hls8]; rfl) k) ?_
  refine step (fun t k => XS.bipush X0.here hx rfl (B d12_88) k) ?_
  show G s₁ (mkF m 90 ls8 [(.int (-100)), (.int y6)])
  have ho9 := own_y (b := y6) (by decide : (-100 : Int32).toInt = -100) (by omega)
  refine step (fun t k => XS.icmpYes X0.here hx rfl (pc0 := 90) (pc' := 143) rfl (B d12_90) rfl (tlt ho9).2.2.1 (by decide) (by decide) k) ?_
  refine step (fun t k => XS.aloadN X0.here hx rfl (B d12_143) (by rw [hls8]; rfl) rfl k) ?_
  obtain ⟨ls10, hls10⟩ := own_sl #[vL q0, s_, vI 3, vR o3, u_, u_, u_, vI 2, vI 1, u_, vI y6]
  refine step (fun t k => XS.iinc X0.here hx rfl (B d12_144) (by rw [hls8]; rfl) (l' := ls10) (by rw [hls8, hls10]; rfl) k) ?_
  refine step (fun t k => XS.iload X0.here hx rfl (B d12_147) (by rw [hls10]; rfl) k) ?_
  obtain ⟨T11, X11, e11, st11⟩ := getS2 X0 hx hZ hown (host := "") (Or.inl (ww98 hw)) Via.refl e0 (Sta.ext O0.2 ST.k10) (g := (mkF m 149 ls10 [(.int 2), (.ref o3)])) rfl (B d12_149)
  refine step st11 ?_
  refine step (fun t k => XS.iload X11.here hx rfl (B d12_152) (by rw [hls10]; rfl) k) ?_
  refine step (fun t k => XS.ineg X11.here hx rfl (B d12_154) rfl k) ?_
  have hj12 := own_hj (own_ng y6 (by omega))
  obtain ⟨z12, hz12, st12⟩ := own_ldDig X11 hx hZ e11 ST.k23 O0.2 hj12 (g := (mkF m 155 ls10 [(.int (-y6)), (.ref w_5), (.int 2), (.ref o3)])) rfl rfl (B d12_155)
  refine step st12 ?_
  obtain ⟨T13, h13, X13, e13, W13, V13, st13⟩ := own_stB X11 hx hZ e11 Va (j := (2 : Int32)) (by decide) (i := 2) rfl (by show 2 < 3; decide) (g := (mkF m 156 ls10 [(.int z12), (.int 2), (.ref o3)])) rfl rfl (B d12_156)
  replace V13 : Arv Z h13 o3 kk .byte (3 : Int32) [(.int 0), (.int 0), (.int (nar .byte z12))] (.int 0) := V13
  have N13 := Fr.snoc X13 N0 geo
  obtain ⟨lc13, X13, N13⟩ := own_gen X13 N13
  have O13 := O0.wr W13 geo
  have K13 : Keep h0 h13 [o3] := K0.wr W13 (Or.inl (List.mem_of_getElem? (i := 0) rfl))
  refine step st13 ?_
  refine step (fun t k => XS.iload X13.here hx rfl (B d12_157) (by rw [hls10]; rfl) k) ?_
  refine step (fun t k => XS.bipush X13.here hx rfl (B d12_159) k) ?_
  show G T13 (mkF m 161 ls10 [(.int (-9)), (.int y6)])
  have ho14 := own_yr (b := y6) (by decide : (-9 : Int32).toInt = -9) (by omega)
  refine step (fun t k => XS.icmpNo X13.here hx rfl (B d12_161) rfl (tlt ho14).2.1 k) ?_
  refine step (fun t k => XS.aloadN X13.here hx rfl (B d12_164) (by rw [hls10]; rfl) rfl k) ?_
  obtain ⟨ls15, hls15⟩ := own_sl #[vL q0, s_, vI 3, vR o3, u_, u_, u_, vI 1, vI 1, u_, vI y6]
  refine step (fun t k => XS.iinc X13.here hx rfl (B d12_165) (by rw [hls10]; rfl) (l' := ls15) (by rw [hls10, hls15]; rfl) k) ?_
  refine step (fun t k => XS.iload X13.here hx rfl (B d12_168) (by rw [hls15]; rfl) k) ?_
  obtain ⟨T16, X16, e16, st16⟩ := getS2 X13 hx hZ hown (host := "") (Or.inl (ww185 hw)) Via.refl e13 (Sta.ext O13.2 ST.k12) (g := (mkF m 170 ls15 [(.int 1), (.ref o3)])) rfl (B d12_170)
  refine step st16 ?_
  refine step (fun t k => XS.iload X16.here hx rfl (B d12_173) (by rw [hls15]; rfl) k) ?_
  refine step (fun t k => XS.ineg X16.here hx rfl (B d12_175) rfl k) ?_
  have hj17 := own_hj (own_ng y6 (by omega))
  obtain ⟨z17, hz17, st17⟩ := own_ldDig X16 hx hZ e16 ST.k24 O13.2 hj17 (g := (mkF m 176 ls15 [(.int (-y6)), (.ref w_6), (.int 1), (.ref o3)])) rfl rfl (B d12_176)
  refine step st17 ?_
  obtain ⟨T18, h18, X18, e18, W18, V18, st18⟩ := own_stB X16 hx hZ e16 V13 (j := (1 : Int32)) (by decide) (i := 1) rfl (by show 1 < 3; decide) (g := (mkF m 177 ls15 [(.int z17), (.int 1), (.ref o3)])) rfl rfl (B d12_177)
  replace V18 : Arv Z h18 o3 kk .byte (3 : Int32) [(.int 0), (.int (nar .byte z17)), (.int (nar .byte z12))] (.int 0) := V18
  have N18 := Fr.snoc X18 N13 geo
  obtain ⟨lc18, X18, N18⟩ := own_gen X18 N18
  have K18 : Keep h0 h18 [o3] := K13.wr W18 (Or.inl (List.mem_of_getElem? (i := 0) rfl))
  refine step st18 ?_
  refine step (fun t k => XS.iload X18.here hx rfl (B d12_178) (by rw [hls15]; rfl) k) ?_
  refine step (fun t k => XS.ifNo X18.here hx rfl (B d12_180) rfl ((if0 _ _).trans (feq (by decide : ¬ ((1 : Int32) = (0 : Int32)))).1) k) ?_
  refine step (fun t k => XS.aloadN X18.here hx rfl (B d12_183) (by rw [hls15]; rfl) rfl k) ?_
  obtain ⟨ls19, hls19⟩ := own_sl #[vL q0, s_, vI 3, vR o3, u_, u_, u_, vI 0, vI 1, u_, vI y6]
  refine step (fun t k => XS.iinc X18.here hx rfl (B d12_184) (by rw [hls15]; rfl) (l' := ls19) (by rw [hls15, hls19]; rfl) k) ?_
  refine step (fun t k => XS.iload X18.here hx rfl (B d12_187) (by rw [hls19]; rfl) k) ?_
  show G T18 (mkF m 189 ls19 [(.int 0), (.ref o3)])
  refine step (fun t k => XS.bipush X18.here hx rfl (B d12_189) k) ?_
  show G T18 (mkF m 191 ls19 [(.int 45), (.int 0), (.ref o3)])
  obtain ⟨T20, h20, X20, e20, W20, V20, st20⟩ := own_stB X18 hx hZ e18 V18 (j := (0 : Int32)) (by decide) (i := 0) rfl (by show 0 < 3; decide) (g := (mkF m 191 ls19 [(.int 45), (.int 0), (.ref o3)])) rfl rfl (B d12_191)
  replace V20 : Arv Z h20 o3 kk .byte (3 : Int32) [(.int (nar .byte (45 : Int32))), (.int (nar .byte z17)), (.int (nar .byte z12))] (.int 0) := V20
  have N20 := Fr.snoc X20 N18 geo
  obtain ⟨lc20, X20, N20⟩ := own_gen X20 N20
  have K20 : Keep h0 h20 [o3] := K18.wr W20 (Or.inl (List.mem_of_getElem? (i := 0) rfl))
  refine step st20 ?_
  refine step (fun t k => XS.iload X20.here hx rfl (B d12_192) (by rw [hls19]; rfl) k) ?_
  exact ret (v := some (.int 0)) X20 (fun h => by rw [Bd.returns] at h; cases h) (fun fs hr => retI X20 hx Bd.returns (B d12_194) hr) e20 ⟨(nar .byte (45 : Int32)), (nar .byte z17), (nar .byte z12), rfl, N20, K20, V20, hz12⟩ (by decide) (by decide)
theorem d12_93 : decode qc12 93 = .ok (.iload 10, 2) := by decide +kernel
theorem d12_95 : decode qc12 95 = .ok (.bipush 100, 2) := by decide +kernel
theorem d12_97 : decode qc12 97 = .ok (.idiv, 1) := by decide +kernel
theorem d12_98 : decode qc12 98 = .ok (.istore 9, 2) := by decide +kernel
theorem d12_100 : decode qc12 100 = .ok (.iload 9, 2) := by decide +kernel
theorem d12_102 : decode qc12 102 = .ok (.bipush 100, 2) := by decide +kernel
theorem d12_104 : decode qc12 104 = .ok (.imul, 1) := by decide +kernel
theorem d12_105 : decode qc12 105 = .ok (.iload 10, 2) := by decide +kernel
theorem d12_107 : decode qc12 107 = .ok (.isub, 1) := by decide +kernel
theorem d12_108 : decode qc12 108 = .ok (.istore 6, 2) := by decide +kernel
theorem d12_110 : decode qc12 110 = .ok (.iload 9, 2) := by decide +kernel
theorem d12_112 : decode qc12 112 = .ok (.istore 10, 2) := by decide +kernel
theorem d12_114 : decode qc12 114 = .ok (.aload_n 3, 1) := by decide +kernel
theorem d12_115 : decode qc12 115 = .ok (.iinc 7 (-1), 3) := by decide +kernel
theorem d12_118 : decode qc12 118 = .ok (.iload 7, 2) := by decide +kernel
theorem d12_120 : decode qc12 120 = .ok (.getstatic 133, 3) := by decide +kernel
theorem d12_123 : decode qc12 123 = .ok (.iload 6, 2) := by decide +kernel
theorem d12_125 : decode qc12 125 = .ok (.baload, 1) := by decide +kernel
theorem d12_126 : decode qc12 126 = .ok (.bastore, 1) := by decide +kernel
theorem d12_127 : decode qc12 127 = .ok (.aload_n 3, 1) := by decide +kernel
theorem d12_128 : decode qc12 128 = .ok (.iinc 7 (-1), 3) := by decide +kernel
theorem d12_131 : decode qc12 131 = .ok (.iload 7, 2) := by decide +kernel
theorem d12_133 : decode qc12 133 = .ok (.getstatic 137, 3) := by decide +kernel
theorem d12_136 : decode qc12 136 = .ok (.iload 6, 2) := by decide +kernel
theorem d12_138 : decode qc12 138 = .ok (.baload, 1) := by decide +kernel
theorem d12_139 : decode qc12 139 = .ok (.bastore, 1) := by decide +kernel
theorem d12_140 : decode qc12 140 = .ok (.goto (-54), 3) := by decide +kernel
abbrev rr_gc3p : Room := { frames := 0, cells := 0, slots := 0, locals := 0 }
theorem ef_gc3p (m : MethodId) (q0 : Int64) (o3 : Addr) : entryFrame m #[(.long q0), (.int 3), (.ref o3)] 11 = mkF m 0 #[vL q0, s_, vI 3, vR o3, u_, u_, u_, u_, u_, u_, u_] [] := by first | (simp [entryFrame, mkF, argsToLocals, Value.category]; done) | rfl
def Q_gc3p (Z : State) (w_0 : Addr) (w_1 : Addr) (w_2 : Addr) (w_3 : Addr) (w_4 : Addr) (w_5 : Addr) (w_6 : Addr) (w_7 : Int32) (w_8 : Value) (q0 : Int64) (o3 : Addr) (kk : ClassId) (h0 : Heap) (n0 : Nat) (v : Option Value) (h : Heap) (L : List Loc) : Prop := ∃ c0 : Int32, ∃ c1 : Int32, ∃ c2 : Int32, v = some (.int 0) ∧ Fr n0 L ∧ Keep h0 h [o3] ∧ Arv Z h o3 kk .byte (3 : Int32) [(.int c0), (.int c1), (.int c2)] (.int 0) ∧ ¬ (c2 &&& (255 : Int32)) = (32 : Int32)
theorem rm_gc3p (l : Launch) (Z : State) (a0 : Array Value) (hw : HW Z a0) (ws : List Jvm.Cond) (w_0 : Addr) (w_1 : Addr) (w_2 : Addr) (w_3 : Addr) (w_4 : Addr) (w_5 : Addr) (w_6 : Addr) (w_7 : Int32) (w_8 : Value) (q0 : Int64) (o3 : Addr) (kk : ClassId) (h0 : Heap) (n0 : Nat) (Z0 : n0 ≤ h0.size) (ST : own_St Z w_0 w_1 w_2 w_3 w_4 w_5 w_6 w_7 w_8) (O0 : Old Z n0 h0) (hrg : -2147483648 ≤ q0.toInt ∧ q0.toInt ≤ 2147483647) (hsg : ¬ (q0 < (0 : Int64))) (hlo : (-1000 : Int64) < (-q0)) (hhi : ¬ ((-100 : Int64) < (-q0))) (Va : Arv Z h0 o3 kk .byte (3 : Int32) [(.int 0), (.int 0), (.int 0)] (.int 0)) (geo : n0 ≤ o3) :
    MetFree l y_12 (head1 (Jvm.Cond.code y_12 jdk_35_method_14_code 11 (some .int) :: ws) rr_gc3p) (fun a U => a = #[(.long q0), (.int 3), (.ref o3)] ∧ Z.Warmed39 U.vm ∧ U.heap = h0) (fun _ _ _ _ _ => True) (fun _ U o U' => ∃ v L, o = .returned v ∧ Q_gc3p Z w_0 w_1 w_2 w_3 w_4 w_5 w_6 w_7 w_8 q0 o3 kk h0 n0 v U'.heap L ∧ FrameEnd U o U' L rr_gc3p.cells rr_gc3p.slots) := by
  refine MetFree.of_bodySF (plainFor_of_name pn_5) hisR ?_
  intro p e s m args below meth c s₁ Bd hml0 hP hK
  obtain ⟨rfl, hZ, hh⟩ := hP
  have hx := Bd.exec
  have hby := Bd.bytes
  have B := @hb _ _ hby
  have hml : c.maxLocals = 11 := hml0
  have hown : s.vm.findClass cn_3 = some m.cls := findClass_of_methodNamed Bd.named
  have X0 : Stand p l e rr_gc3p s m #[(.long q0), (.int 3), (.ref o3)] below meth c s₁ [] 0 0 := Stand.of_body Bd
  have e0 : s₁.heap = h0 := by rw [← hh, Bd.state]; rfl
  have N0 := Fr.nil n0
  have K0 : Keep h0 h0 [o3] := Keep.refl _ _
  obtain ⟨G, step, ret, fin⟩ := own_openX X0 (rr_gc3p.cells) (rr_gc3p.slots) (Q_gc3p Z w_0 w_1 w_2 w_3 w_4 w_5 w_6 w_7 w_8 q0 o3 kk h0 n0) Bd.notSynchronized
  refine fin (g := entryFrame m #[(.long q0), (.int 3), (.ref o3)] 11) ?_
  rw [ef_gc3p m q0 o3]
  obtain ⟨ls0, hls0⟩ := own_sl #[vL q0, s_, vI 3, vR o3, u_, u_, u_, u_, u_, u_, u_]
  suffices hG0 : G s₁ (mkF m 0 ls0 []) by rw [hls0] at hG0; exact hG0
  refine step (fun t k => XS.iloadN X0.here hx rfl (B d12_0) (by rw [hls0]; rfl) k) ?_
  obtain ⟨ls1, hls1⟩ := own_sl #[vL q0, s_, vI 3, vR o3, u_, u_, u_, vI 3, u_, u_, u_]
  refine step (fun t k => XS.istore X0.here hx rfl (B d12_1) rfl (l' := ls1) (by rw [hls0, hls1]; rfl) k) ?_
  refine step (fun t k => XS.lloadN X0.here hx rfl (B d12_3) (by rw [hls1]; rfl) k) ?_
  refine step (fun t k => XS.lconst X0.here hx rfl (B d12_4) k) ?_
  refine step (fun t k => XS.lcmp X0.here hx rfl (B d12_5) rfl k) ?_
  refine step (fun t k => XS.ifYes X0.here hx rfl (pc0 := 6) (pc' := 13) rfl (B d12_6) rfl ((if0 _ _).trans (flt (fun q => hsg ((lw_lt _ _).mp q))).2.1) (by decide) (by decide) k) ?_
  show G s₁ (mkF m 13 ls1 [])
  refine step (fun t k => XS.iconst X0.here hx rfl (B d12_13) k) ?_
  obtain ⟨ls2, hls2⟩ := own_sl #[vL q0, s_, vI 3, vR o3, u_, u_, u_, vI 3, vI 0, u_, u_]
  refine step (fun t k => XS.istore X0.here hx rfl (B d12_14) rfl (l' := ls2) (by rw [hls1, hls2]; rfl) k) ?_
  refine step (fun t k => XS.iload X0.here hx rfl (B d12_16) (by rw [hls2]; rfl) k) ?_
  refine step (fun t k => XS.ifNo X0.here hx rfl (B d12_18) rfl ((if0 _ _).trans (teq (by decide : (0 : Int32) = (0 : Int32))).2) k) ?_
  refine step (fun t k => XS.lloadN X0.here hx rfl (B d12_21) (by rw [hls2]; rfl) k) ?_
  refine step (fun t k => XS.lneg X0.here hx rfl (B d12_22) rfl k) ?_
  show G s₁ (mkF m 23 ls2 [(.long (-q0))])
  obtain ⟨x0, hx0⟩ : ∃ z : Int64, z = (-q0) := ⟨_, rfl⟩
  rw [← hx0]
  have bd3 : -1000 < x0.toInt ∧ x0.toInt ≤ -100 := by
    rw [hx0]
    have c1 := c_lneg q0
    have r1 := rng64 (-q0)
    have k0 : (0 : Int64).toInt = 0 := by decide
    rw [own_xltL] at hsg
    have k1 : (-1000 : Int64).toInt = -1000 := by decide
    rw [own_xltL] at hlo
    have k2 : (-100 : Int64).toInt = -100 := by decide
    rw [own_xltL] at hhi
    omega
  obtain ⟨ls4, hls4⟩ := own_sl #[vL x0, s_, vI 3, vR o3, u_, u_, u_, vI 3, vI 0, u_, u_]
  refine step (fun t k => XS.lstoreN X0.here hx rfl (B d12_23) rfl (l' := ls4) (by rw [hls2, hls4]; rfl) k) ?_
  refine step (fun t k => XS.lloadN X0.here hx rfl (B d12_24) (by rw [hls4]; rfl) k) ?_
  have q5 := X0.ldc2Long hx hown (mvT hZ (ww97 hw)) (g := (mkF m 25 ls4 [(.long x0)])) rfl (B d12_25)
  refine step q5 ?_
  refine step (fun t k => XS.lcmp X0.here hx rfl (B d12_28) rfl k) ?_
  have ho6 := own_yL (b := x0) (by decide : (-2147483648 : Int64).toInt = -2147483648) (by omega)
  refine step (fun t k => XS.ifYes X0.here hx rfl (pc0 := 29) (pc' := 82) rfl (B d12_29) rfl ((if0 _ _).trans (tlt ((lw_gt _ _).mpr ho6)).2.2.1) (by decide) (by decide) k) ?_
  refine step (fun t k => XS.lloadN X0.here hx rfl (B d12_82) (by rw [hls4]; rfl) k) ?_
  refine step (fun t k => XS.l2i X0.here hx rfl (B d12_83) rfl k) ?_
  show G s₁ (mkF m 84 ls4 [(.int (x0.toInt32))])
  obtain ⟨y7, hy7⟩ := own_ex (x0.toInt32)
  rw [← hy7]
  have bd8 : -1000 < y7.toInt ∧ y7.toInt ≤ -100 := by
    rw [hy7]
    have c1 := c_l2i x0
    have r1 := rng32 x0.toInt32
    omega
  obtain ⟨ls9, hls9⟩ := own_sl #[vL x0, s_, vI 3, vR o3, u_, u_, u_, vI 3, vI 0, u_, vI y7]
  refine step (fun t k => XS.istore X0.here hx rfl (B d12_84) rfl (l' := ls9) (by rw [hls4, hls9]; rfl) k) ?_
  refine step (fun t k => XS.iload X0.here hx rfl (B d12_86) (by rw [hls9]; rfl) k) ?_
  refine step (fun t k => XS.bipush X0.here hx rfl (B d12_88) k) ?_
  show G s₁ (mkF m 90 ls9 [(.int (-100)), (.int y7)])
  have ho10 := own_n (b := y7) (by decide : (-100 : Int32).toInt = -100) (by omega)
  refine step (fun t k => XS.icmpNo X0.here hx rfl (B d12_90) rfl (flt ho10).2.2.1 k) ?_
  refine step (fun t k => XS.iload X0.here hx rfl (B d12_93) (by rw [hls9]; rfl) k) ?_
  refine step (fun t k => XS.bipush X0.here hx rfl (B d12_95) k) ?_
  refine step (fun t k => XS.idiv X0.here hx rfl (B d12_97) rfl (by decide) k) ?_
  show G s₁ (mkF m 98 ls9 [(.int (y7 / (100 : Int32)))])
  obtain ⟨y11, hy11⟩ := own_ex (y7 / (100 : Int32))
  rw [← hy11]
  have bq12 := own_bq hy11 (by omega)
  obtain ⟨ls13, hls13⟩ := own_sl #[vL x0, s_, vI 3, vR o3, u_, u_, u_, vI 3, vI 0, vI y11, vI y7]
  refine step (fun t k => XS.istore X0.here hx rfl (B d12_98) rfl (l' := ls13) (by rw [hls9, hls13]; rfl) k) ?_
  refine step (fun t k => XS.iload X0.here hx rfl (B d12_100) (by rw [hls13]; rfl) k) ?_
  refine step (fun t k => XS.bipush X0.here hx rfl (B d12_102) k) ?_
  refine step (fun t k => XS.imul X0.here hx rfl (B d12_104) rfl k) ?_
  refine step (fun t k => XS.iload X0.here hx rfl (B d12_105) (by rw [hls13]; rfl) k) ?_
  refine step (fun t k => XS.isub X0.here hx rfl (B d12_107) rfl k) ?_
  show G s₁ (mkF m 108 ls13 [(.int ((y11 * (100 : Int32)) - y7))])
  obtain ⟨r14, hr14⟩ := own_ex ((y11 * (100 : Int32)) - y7)
  rw [← hr14]
  have br15 := own_br bq12 (by omega) hr14
  have bd16 : -10 < y11.toInt ∧ y11.toInt ≤ 0 := by
    omega
  obtain ⟨ls17, hls17⟩ := own_sl #[vL x0, s_, vI 3, vR o3, u_, u_, vI r14, vI 3, vI 0, vI y11, vI y7]
  refine step (fun t k => XS.istore X0.here hx rfl (B d12_108) rfl (l' := ls17) (by rw [hls13, hls17]; rfl) k) ?_
  refine step (fun t k => XS.iload X0.here hx rfl (B d12_110) (by rw [hls17]; rfl) k) ?_
  obtain ⟨ls18, hls18⟩ := own_sl #[vL x0, s_, vI 3, vR o3, u_, u_, vI r14, vI 3, vI 0, vI y11, vI y11]
  refine step (fun t k => XS.istore X0.here hx rfl (B d12_112) rfl (l' := ls18) (by rw [hls17, hls18]; rfl) k) ?_
  refine step (fun t k => XS.aloadN X0.here hx rfl (B d12_114) (by rw [hls18]; rfl) rfl k) ?_
  obtain ⟨ls19, hls19⟩ := own_sl #[vL x0, s_, vI 3, vR o3, u_, u_, vI r14, vI 2, vI 0, vI y11, vI y11]
  refine step (fun t k => XS.iinc X0.here hx rfl (B d12_115) (by rw [hls18]; rfl) (l' := ls19) (by rw [hls18, hls19]; rfl) k) ?_
  refine step (fun t k => XS.iload X0.here hx rfl (B d12_118) (by rw [hls19]; rfl) k) ?_
  show G s₁ (mkF m 120 ls19 [(.int 2), (.ref o3)])
  obtain ⟨T20, X20, e20, st20⟩ := getS2 X0 hx hZ hown (host := "") (Or.inl (ww98 hw)) Via.refl e0 (Sta.ext O0.2 ST.k10) (g := (mkF m 120 ls19 [(.int 2), (.ref o3)])) rfl (B d12_120)
  refine step st20 ?_
  refine step (fun t k => XS.iload X20.here hx rfl (B d12_123) (by rw [hls19]; rfl) k) ?_
  have hj21 := own_hj br15
  obtain ⟨z21, hz21, st21⟩ := own_ldDig X20 hx hZ e20 ST.k23 O0.2 hj21 (g := (mkF m 125 ls19 [(.int r14), (.ref w_5), (.int 2), (.ref o3)])) rfl rfl (B d12_125)
  refine step st21 ?_
  obtain ⟨T22, h22, X22, e22, W22, V22, st22⟩ := own_stB X20 hx hZ e20 Va (j := (2 : Int32)) (by decide) (i := 2) rfl (by show 2 < 3; decide) (g := (mkF m 126 ls19 [(.int z21), (.int 2), (.ref o3)])) rfl rfl (B d12_126)
  replace V22 : Arv Z h22 o3 kk .byte (3 : Int32) [(.int 0), (.int 0), (.int (nar .byte z21))] (.int 0) := V22
  have N22 := Fr.snoc X22 N0 geo
  obtain ⟨lc22, X22, N22⟩ := own_gen X22 N22
  have O22 := O0.wr W22 geo
  have K22 : Keep h0 h22 [o3] := K0.wr W22 (Or.inl (List.mem_of_getElem? (i := 0) rfl))
  refine step st22 ?_
  refine step (fun t k => XS.aloadN X22.here hx rfl (B d12_127) (by rw [hls19]; rfl) rfl k) ?_
  obtain ⟨ls23, hls23⟩ := own_sl #[vL x0, s_, vI 3, vR o3, u_, u_, vI r14, vI 1, vI 0, vI y11, vI y11]
  refine step (fun t k => XS.iinc X22.here hx rfl (B d12_128) (by rw [hls19]; rfl) (l' := ls23) (by rw [hls19, hls23]; rfl) k) ?_
  refine step (fun t k => XS.iload X22.here hx rfl (B d12_131) (by rw [hls23]; rfl) k) ?_
  obtain ⟨T24, X24, e24, st24⟩ := getS2 X22 hx hZ hown (host := "") (Or.inl (ww185 hw)) Via.refl e22 (Sta.ext O22.2 ST.k12) (g := (mkF m 133 ls23 [(.int 1), (.ref o3)])) rfl (B d12_133)
  refine step st24 ?_
  refine step (fun t k => XS.iload X24.here hx rfl (B d12_136) (by rw [hls23]; rfl) k) ?_
  have hj25 := own_hj br15
  obtain ⟨z25, hz25, st25⟩ := own_ldDig X24 hx hZ e24 ST.k24 O22.2 hj25 (g := (mkF m 138 ls23 [(.int r14), (.ref w_6), (.int 1), (.ref o3)])) rfl rfl (B d12_138)
  refine step st25 ?_
  obtain ⟨T26, h26, X26, e26, W26, V26, st26⟩ := own_stB X24 hx hZ e24 V22 (j := (1 : Int32)) (by decide) (i := 1) rfl (by show 1 < 3; decide) (g := (mkF m 139 ls23 [(.int z25), (.int 1), (.ref o3)])) rfl rfl (B d12_139)
  replace V26 : Arv Z h26 o3 kk .byte (3 : Int32) [(.int 0), (.int (nar .byte z25)), (.int (nar .byte z21))] (.int 0) := V26
  have N26 := Fr.snoc X26 N22 geo
  obtain ⟨lc26, X26, N26⟩ := own_gen X26 N26
  have O26 := O22.wr W26 geo
  have K26 : Keep h0 h26 [o3] := K22.wr W26 (Or.inl (List.mem_of_getElem? (i := 0) rfl))
  refine step st26 ?_
  refine step (fun t k => XS.goto X26.here hx rfl (pc0 := 140) (pc' := 86) rfl (B d12_140) (by decide) (by decide) k) ?_
  refine step (fun t k => XS.iload X26.here hx rfl (B d12_86) (by rw [hls23]; rfl) k) ?_
  refine step (fun t k => XS.bipush X26.here hx rfl (B d12_88) k) ?_
  show G T26 (mkF m 90 ls23 [(.int (-100)), (.int y11)])
  have ho27 := own_y (b := y11) (by decide : (-100 : Int32).toInt = -100) (by omega)
  refine step (fun t k => XS.icmpYes X26.here hx rfl (pc0 := 90) (pc' := 143) rfl (B d12_90) rfl (tlt ho27).2.2.1 (by decide) (by decide) k) ?_
  refine step (fun t k => XS.aloadN X26.here hx rfl (B d12_143) (by rw [hls23]; rfl) rfl k) ?_
  obtain ⟨ls28, hls28⟩ := own_sl #[vL x0, s_, vI 3, vR o3, u_, u_, vI r14, vI 0, vI 0, vI y11, vI y11]
  refine step (fun t k => XS.iinc X26.here hx rfl (B d12_144) (by rw [hls23]; rfl) (l' := ls28) (by rw [hls23, hls28]; rfl) k) ?_
  refine step (fun t k => XS.iload X26.here hx rfl (B d12_147) (by rw [hls28]; rfl) k) ?_
  obtain ⟨T29, X29, e29, st29⟩ := getS2 X26 hx hZ hown (host := "") (Or.inl (ww98 hw)) Via.refl e26 (Sta.ext O26.2 ST.k10) (g := (mkF m 149 ls28 [(.int 0), (.ref o3)])) rfl (B d12_149)
  refine step st29 ?_
  refine step (fun t k => XS.iload X29.here hx rfl (B d12_152) (by rw [hls28]; rfl) k) ?_
  refine step (fun t k => XS.ineg X29.here hx rfl (B d12_154) rfl k) ?_
  have hj30 := own_hj (own_ng y11 (by omega))
  obtain ⟨z30, hz30, st30⟩ := own_ldDig X29 hx hZ e29 ST.k23 O26.2 hj30 (g := (mkF m 155 ls28 [(.int (-y11)), (.ref w_5), (.int 0), (.ref o3)])) rfl rfl (B d12_155)
  refine step st30 ?_
  obtain ⟨T31, h31, X31, e31, W31, V31, st31⟩ := own_stB X29 hx hZ e29 V26 (j := (0 : Int32)) (by decide) (i := 0) rfl (by show 0 < 3; decide) (g := (mkF m 156 ls28 [(.int z30), (.int 0), (.ref o3)])) rfl rfl (B d12_156)
  replace V31 : Arv Z h31 o3 kk .byte (3 : Int32) [(.int (nar .byte z30)), (.int (nar .byte z25)), (.int (nar .byte z21))] (.int 0) := V31
  have N31 := Fr.snoc X31 N26 geo
  obtain ⟨lc31, X31, N31⟩ := own_gen X31 N31
  have K31 : Keep h0 h31 [o3] := K26.wr W31 (Or.inl (List.mem_of_getElem? (i := 0) rfl))
  refine step st31 ?_
  refine step (fun t k => XS.iload X31.here hx rfl (B d12_157) (by rw [hls28]; rfl) k) ?_
  refine step (fun t k => XS.bipush X31.here hx rfl (B d12_159) k) ?_
  show G T31 (mkF m 161 ls28 [(.int (-9)), (.int y11)])
  have ho32 := own_nr (b := y11) (by decide : (-9 : Int32).toInt = -9) (by omega)
  refine step (fun t k => XS.icmpYes X31.here hx rfl (pc0 := 161) (pc' := 178) rfl (B d12_161) rfl (flt ho32).2.1 (by decide) (by decide) k) ?_
  refine step (fun t k => XS.iload X31.here hx rfl (B d12_178) (by rw [hls28]; rfl) k) ?_
  refine step (fun t k => XS.ifYes X31.here hx rfl (pc0 := 180) (pc' := 192) rfl (B d12_180) rfl ((if0 _ _).trans (teq (by decide : (0 : Int32) = (0 : Int32))).1) (by decide) (by decide) k) ?_
  refine step (fun t k => XS.iload X31.here hx rfl (B d12_192) (by rw [hls28]; rfl) k) ?_
  exact ret (v := some (.int 0)) X31 (fun h => by rw [Bd.returns] at h; cases h) (fun fs hr => retI X31 hx Bd.returns (B d12_194) hr) e31 ⟨(nar .byte z30), (nar .byte z25), (nar .byte z21), rfl, N31, K31, V31, hz21⟩ (by decide) (by decide)
abbrev rr_gc3n : Room := { frames := 0, cells := 0, slots := 0, locals := 0 }
theorem ef_gc3n (m : MethodId) (q0 : Int64) (o3 : Addr) : entryFrame m #[(.long q0), (.int 4), (.ref o3)] 11 = mkF m 0 #[vL q0, s_, vI 4, vR o3, u_, u_, u_, u_, u_, u_, u_] [] := by first | (simp [entryFrame, mkF, argsToLocals, Value.category]; done) | rfl
def Q_gc3n (Z : State) (w_0 : Addr) (w_1 : Addr) (w_2 : Addr) (w_3 : Addr) (w_4 : Addr) (w_5 : Addr) (w_6 : Addr) (w_7 : Int32) (w_8 : Value) (q0 : Int64) (o3 : Addr) (kk : ClassId) (h0 : Heap) (n0 : Nat) (v : Option Value) (h : Heap) (L : List Loc) : Prop := ∃ c0 : Int32, ∃ c1 : Int32, ∃ c2 : Int32, ∃ c3 : Int32, v = some (.int 0) ∧ Fr n0 L ∧ Keep h0 h [o3] ∧ Arv Z h o3 kk .byte (4 : Int32) [(.int c0), (.int c1), (.int c2), (.int c3)] (.int 0) ∧ ¬ (c3 &&& (255 : Int32)) = (32 : Int32)
theorem rm_gc3n (l : Launch) (Z : State) (a0 : Array Value) (hw : HW Z a0) (ws : List Jvm.Cond) (w_0 : Addr) (w_1 : Addr) (w_2 : Addr) (w_3 : Addr) (w_4 : Addr) (w_5 : Addr) (w_6 : Addr) (w_7 : Int32) (w_8 : Value) (q0 : Int64) (o3 : Addr) (kk : ClassId) (h0 : Heap) (n0 : Nat) (Z0 : n0 ≤ h0.size) (ST : own_St Z w_0 w_1 w_2 w_3 w_4 w_5 w_6 w_7 w_8) (O0 : Old Z n0 h0) (hrg : -2147483648 ≤ q0.toInt ∧ q0.toInt ≤ 2147483647) (hsg : q0 < (0 : Int64)) (hlo : (-1000 : Int64) < q0) (hhi : ¬ ((-100 : Int64) < q0)) (Va : Arv Z h0 o3 kk .byte (4 : Int32) [(.int 0), (.int 0), (.int 0), (.int 0)] (.int 0)) (geo : n0 ≤ o3) :
    MetFree l y_12 (head1 (Jvm.Cond.code y_12 jdk_35_method_14_code 11 (some .int) :: ws) rr_gc3n) (fun a U => a = #[(.long q0), (.int 4), (.ref o3)] ∧ Z.Warmed39 U.vm ∧ U.heap = h0) (fun _ _ _ _ _ => True) (fun _ U o U' => ∃ v L, o = .returned v ∧ Q_gc3n Z w_0 w_1 w_2 w_3 w_4 w_5 w_6 w_7 w_8 q0 o3 kk h0 n0 v U'.heap L ∧ FrameEnd U o U' L rr_gc3n.cells rr_gc3n.slots) := by
  refine MetFree.of_bodySF (plainFor_of_name pn_5) hisR ?_
  intro p e s m args below meth c s₁ Bd hml0 hP hK
  obtain ⟨rfl, hZ, hh⟩ := hP
  have hx := Bd.exec
  have hby := Bd.bytes
  have B := @hb _ _ hby
  have hml : c.maxLocals = 11 := hml0
  have hown : s.vm.findClass cn_3 = some m.cls := findClass_of_methodNamed Bd.named
  have X0 : Stand p l e rr_gc3n s m #[(.long q0), (.int 4), (.ref o3)] below meth c s₁ [] 0 0 := Stand.of_body Bd
  have e0 : s₁.heap = h0 := by rw [← hh, Bd.state]; rfl
  have N0 := Fr.nil n0
  have K0 : Keep h0 h0 [o3] := Keep.refl _ _
  obtain ⟨G, step, ret, fin⟩ := own_openX X0 (rr_gc3n.cells) (rr_gc3n.slots) (Q_gc3n Z w_0 w_1 w_2 w_3 w_4 w_5 w_6 w_7 w_8 q0 o3 kk h0 n0) Bd.notSynchronized
  refine fin (g := entryFrame m #[(.long q0), (.int 4), (.ref o3)] 11) ?_
  rw [ef_gc3n m q0 o3]
  obtain ⟨ls0, hls0⟩ := own_sl #[vL q0, s_, vI 4, vR o3, u_, u_, u_, u_, u_, u_, u_]
  suffices hG0 : G s₁ (mkF m 0 ls0 []) by rw [hls0] at hG0; exact hG0
  refine step (fun t k => XS.iloadN X0.here hx rfl (B d12_0) (by rw [hls0]; rfl) k) ?_
  obtain ⟨ls1, hls1⟩ := own_sl #[vL q0, s_, vI 4, vR o3, u_, u_, u_, vI 4, u_, u_, u_]
  refine step (fun t k => XS.istore X0.here hx rfl (B d12_1) rfl (l' := ls1) (by rw [hls0, hls1]; rfl) k) ?_
  refine step (fun t k => XS.lloadN X0.here hx rfl (B d12_3) (by rw [hls1]; rfl) k) ?_
  refine step (fun t k => XS.lconst X0.here hx rfl (B d12_4) k) ?_
  refine step (fun t k => XS.lcmp X0.here hx rfl (B d12_5) rfl k) ?_
  refine step (fun t k => XS.ifNo X0.here hx rfl (B d12_6) rfl ((if0 _ _).trans (tlt ((lw_lt _ _).mpr hsg)).2.1) k) ?_
  show G s₁ (mkF m 9 ls1 [])
  refine step (fun t k => XS.iconst X0.here hx rfl (B d12_9) k) ?_
  refine step (fun t k => XS.goto X0.here hx rfl (pc0 := 10) (pc' := 14) rfl (B d12_10) (by decide) (by decide) k) ?_
  obtain ⟨ls2, hls2⟩ := own_sl #[vL q0, s_, vI 4, vR o3, u_, u_, u_, vI 4, vI 1, u_, u_]
  refine step (fun t k => XS.istore X0.here hx rfl (B d12_14) rfl (l' := ls2) (by rw [hls1, hls2]; rfl) k) ?_
  refine step (fun t k => XS.iload X0.here hx rfl (B d12_16) (by rw [hls2]; rfl) k) ?_
  refine step (fun t k => XS.ifYes X0.here hx rfl (pc0 := 18) (pc' := 24) rfl (B d12_18) rfl ((if0 _ _).trans (feq (by decide : ¬ ((1 : Int32) = (0 : Int32)))).2) (by decide) (by decide) k) ?_
  have bd3 : -1000 < q0.toInt ∧ q0.toInt ≤ -100 := by
    have k0 : (0 : Int64).toInt = 0 := by decide
    rw [own_xltL] at hsg
    have k1 : (-1000 : Int64).toInt = -1000 := by decide
    rw [own_xltL] at hlo
    have k2 : (-100 : Int64).toInt = -100 := by decide
    rw [own_xltL] at hhi
    omega
  refine step (fun t k => XS.lloadN X0.here hx rfl (B d12_24) (by rw [hls2]; rfl) k) ?_
  show G s₁ (mkF m 25 ls2 [(.long q0)])
  have q4 := X0.ldc2Long hx hown (mvT hZ (ww97 hw)) (g := (mkF m 25 ls2 [(.long q0)])) rfl (B d12_25)
  refine step q4 ?_
  refine step (fun t k => XS.lcmp X0.here hx rfl (B d12_28) rfl k) ?_
  have ho5 := own_yL (b := q0) (by decide : (-2147483648 : Int64).toInt = -2147483648) (by omega)
  refine step (fun t k => XS.ifYes X0.here hx rfl (pc0 := 29) (pc' := 82) rfl (B d12_29) rfl ((if0 _ _).trans (tlt ((lw_gt _ _).mpr ho5)).2.2.1) (by decide) (by decide) k) ?_
  refine step (fun t k => XS.lloadN X0.here hx rfl (B d12_82) (by rw [hls2]; rfl) k) ?_
  refine step (fun t k => XS.l2i X0.here hx rfl (B d12_83) rfl k) ?_
  show G s₁ (mkF m 84 ls2 [(.int (q0.toInt32))])
  obtain ⟨y6, hy6⟩ := own_ex (q0.toInt32)
  rw [← hy6]
  have bd7 : -1000 < y6.toInt ∧ y6.toInt ≤ -100 := by
    rw [hy6]
    have c1 := c_l2i q0
    have r1 := rng32 q0.toInt32
    omega
  obtain ⟨ls8, hls8⟩ := own_sl #[vL q0, s_, vI 4, vR o3, u_, u_, u_, vI 4, vI 1, u_, vI y6]
  refine step (fun t k => XS.istore X0.here hx rfl (B d12_84) rfl (l' := ls8) (by rw [hls2, hls8]; rfl) k) ?_
  refine step (fun t k => XS.iload X0.here hx rfl (B d12_86) (by rw [hls8]; rfl) k) ?_
  refine step (fun t k => XS.bipush X0.here hx rfl (B d12_88) k) ?_
  show G s₁ (mkF m 90 ls8 [(.int (-100)), (.int y6)])
  have ho9 := own_n (b := y6) (by decide : (-100 : Int32).toInt = -100) (by omega)
  refine step (fun t k => XS.icmpNo X0.here hx rfl (B d12_90) rfl (flt ho9).2.2.1 k) ?_
  refine step (fun t k => XS.iload X0.here hx rfl (B d12_93) (by rw [hls8]; rfl) k) ?_
  refine step (fun t k => XS.bipush X0.here hx rfl (B d12_95) k) ?_
  refine step (fun t k => XS.idiv X0.here hx rfl (B d12_97) rfl (by decide) k) ?_
  show G s₁ (mkF m 98 ls8 [(.int (y6 / (100 : Int32)))])
  obtain ⟨y10, hy10⟩ := own_ex (y6 / (100 : Int32))
  rw [← hy10]
  have bq11 := own_bq hy10 (by omega)
  obtain ⟨ls12, hls12⟩ := own_sl #[vL q0, s_, vI 4, vR o3, u_, u_, u_, vI 4, vI 1, vI y10, vI y6]
  refine step (fun t k => XS.istore X0.here hx rfl (B d12_98) rfl (l' := ls12) (by rw [hls8, hls12]; rfl) k) ?_
  refine step (fun t k => XS.iload X0.here hx rfl (B d12_100) (by rw [hls12]; rfl) k) ?_
  refine step (fun t k => XS.bipush X0.here hx rfl (B d12_102) k) ?_
  refine step (fun t k => XS.imul X0.here hx rfl (B d12_104) rfl k) ?_
  refine step (fun t k => XS.iload X0.here hx rfl (B d12_105) (by rw [hls12]; rfl) k) ?_
  refine step (fun t k => XS.isub X0.here hx rfl (B d12_107) rfl k) ?_
  show G s₁ (mkF m 108 ls12 [(.int ((y10 * (100 : Int32)) - y6))])
  obtain ⟨r13, hr13⟩ := own_ex ((y10 * (100 : Int32)) - y6)
  rw [← hr13]
  have br14 := own_br bq11 (by omega) hr13
  have bd15 : -10 < y10.toInt ∧ y10.toInt ≤ 0 := by
    omega
  obtain ⟨ls16, hls16⟩ := own_sl #[vL q0, s_, vI 4, vR o3, u_, u_, vI r13, vI 4, vI 1, vI y10, vI y6]
  refine step (fun t k => XS.istore X0.here hx rfl (B d12_108) rfl (l' := ls16) (by rw [hls12, hls16]; rfl) k) ?_
  refine step (fun t k => XS.iload X0.here hx rfl (B d12_110) (by rw [hls16]; rfl) k) ?_
  obtain ⟨ls17, hls17⟩ := own_sl #[vL q0, s_, vI 4, vR o3, u_, u_, vI r13, vI 4, vI 1, vI y10, vI y10]
  refine step (fun t k => XS.istore X0.here hx rfl (B d12_112) rfl (l' := ls17) (by rw [hls16, hls17]; rfl) k) ?_
  refine step (fun t k => XS.aloadN X0.here hx rfl (B d12_114) (by rw [hls17]; rfl) rfl k) ?_
  obtain ⟨ls18, hls18⟩ := own_sl #[vL q0, s_, vI 4, vR o3, u_, u_, vI r13, vI 3, vI 1, vI y10, vI y10]
  refine step (fun t k => XS.iinc X0.here hx rfl (B d12_115) (by rw [hls17]; rfl) (l' := ls18) (by rw [hls17, hls18]; rfl) k) ?_
  refine step (fun t k => XS.iload X0.here hx rfl (B d12_118) (by rw [hls18]; rfl) k) ?_
  show G s₁ (mkF m 120 ls18 [(.int 3), (.ref o3)])
  obtain ⟨T19, X19, e19, st19⟩ := getS2 X0 hx hZ hown (host := "") (Or.inl (ww98 hw)) Via.refl e0 (Sta.ext O0.2 ST.k10) (g := (mkF m 120 ls18 [(.int 3), (.ref o3)])) rfl (B d12_120)
  refine step st19 ?_
  refine step (fun t k => XS.iload X19.here hx rfl (B d12_123) (by rw [hls18]; rfl) k) ?_
  have hj20 := own_hj br14
  obtain ⟨z20, hz20, st20⟩ := own_ldDig X19 hx hZ e19 ST.k23 O0.2 hj20 (g := (mkF m 125 ls18 [(.int r13), (.ref w_5), (.int 3), (.ref o3)])) rfl rfl (B d12_125)
  refine step st20 ?_
  obtain ⟨T21, h21, X21, e21, W21, V21, st21⟩ := own_stB X19 hx hZ e19 Va (j := (3 : Int32)) (by decide) (i := 3) rfl (by show 3 < 4; decide) (g := (mkF m 126 ls18 [(.int z20), (.int 3), (.ref o3)])) rfl rfl (B d12_126)
  replace V21 : Arv Z h21 o3 kk .byte (4 : Int32) [(.int 0), (.int 0), (.int 0), (.int (nar .byte z20))] (.int 0) := V21
  have N21 := Fr.snoc X21 N0 geo
  obtain ⟨lc21, X21, N21⟩ := own_gen X21 N21
  have O21 := O0.wr W21 geo
  have K21 : Keep h0 h21 [o3] := K0.wr W21 (Or.inl (List.mem_of_getElem? (i := 0) rfl))
  refine step st21 ?_
  refine step (fun t k => XS.aloadN X21.here hx rfl (B d12_127) (by rw [hls18]; rfl) rfl k) ?_
  obtain ⟨ls22, hls22⟩ := own_sl #[vL q0, s_, vI 4, vR o3, u_, u_, vI r13, vI 2, vI 1, vI y10, vI y10]
  refine step (fun t k => XS.iinc X21.here hx rfl (B d12_128) (by rw [hls18]; rfl) (l' := ls22) (by rw [hls18, hls22]; rfl) k) ?_
  refine step (fun t k => XS.iload X21.here hx rfl (B d12_131) (by rw [hls22]; rfl) k) ?_
  obtain ⟨T23, X23, e23, st23⟩ := getS2 X21 hx hZ hown (host := "") (Or.inl (ww185 hw)) Via.refl e21 (Sta.ext O21.2 ST.k12) (g := (mkF m 133 ls22 [(.int 2), (.ref o3)])) rfl (B d12_133)
  refine step st23 ?_
  refine step (fun t k => XS.iload X23.here hx rfl (B d12_136) (by rw [hls22]; rfl) k) ?_
  have hj24 := own_hj br14
  obtain ⟨z24, hz24, st24⟩ := own_ldDig X23 hx hZ e23 ST.k24 O21.2 hj24 (g := (mkF m 138 ls22 [(.int r13), (.ref w_6), (.int 2), (.ref o3)])) rfl rfl (B d12_138)
  refine step st24 ?_
  obtain ⟨T25, h25, X25, e25, W25, V25, st25⟩ := own_stB X23 hx hZ e23 V21 (j := (2 : Int32)) (by decide) (i := 2) rfl (by show 2 < 4; decide) (g := (mkF m 139 ls22 [(.int z24), (.int 2), (.ref o3)])) rfl rfl (B d12_139)
  replace V25 : Arv Z h25 o3 kk .byte (4 : Int32) [(.int 0), (.int 0), (.int (nar .byte z24)), (.int (nar .byte z20))] (.int 0) := V25
  have N25 := Fr.snoc X25 N21 geo
  obtain ⟨lc25, X25, N25⟩ := own_gen X25 N25
  have O25 := O21.wr W25 geo
  have K25 : Keep h0 h25 [o3] := K21.wr W25 (Or.inl (List.mem_of_getElem? (i := 0) rfl))
  refine step st25 ?_
  refine step (fun t k => XS.goto X25.here hx rfl (pc0 := 140) (pc' := 86) rfl (B d12_140) (by decide) (by decide) k) ?_
  refine step (fun t k => XS.iload X25.here hx rfl (B d12_86) (by rw [hls22]; rfl) k) ?_
  refine step (fun t k => XS.bipush X25.here hx rfl (B d12_88) k) ?_
  show G T25 (mkF m 90 ls22 [(.int (-100)), (.int y10)])
  have ho26 := own_y (b := y10) (by decide : (-100 : Int32).toInt = -100) (by omega)
  refine step (fun t k => XS.icmpYes X25.here hx rfl (pc0 := 90) (pc' := 143) rfl (B d12_90) rfl (tlt ho26).2.2.1 (by decide) (by decide) k) ?_
  refine step (fun t k => XS.aloadN X25.here hx rfl (B d12_143) (by rw [hls22]; rfl) rfl k) ?_
  obtain ⟨ls27, hls27⟩ := own_sl #[vL q0, s_, vI 4, vR o3, u_, u_, vI r13, vI 1, vI 1, vI y10, vI y10]
  refine step (fun t k => XS.iinc X25.here hx rfl (B d12_144) (by rw [hls22]; rfl) (l' := ls27) (by rw [hls22, hls27]; rfl) k) ?_
  refine step (fun t k => XS.iload X25.here hx rfl (B d12_147) (by rw [hls27]; rfl) k) ?_
  obtain ⟨T28, X28, e28, st28⟩ := getS2 X25 hx hZ hown (host := "") (Or.inl (ww98 hw)) Via.refl e25 (Sta.ext O25.2 ST.k10) (g := (mkF m 149 ls27 [(.int 1), (.ref o3)])) rfl (B d12_149)
  refine step st28 ?_
  refine step (fun t k => XS.iload X28.here hx rfl (B d12_152) (by rw [hls27]; rfl) k) ?_
  refine step (fun t k => XS.ineg X28.here hx rfl (B d12_154) rfl k) ?_
  have hj29 := own_hj (own_ng y10 (by omega))
  obtain ⟨z29, hz29, st29⟩ := own_ldDig X28 hx hZ e28 ST.k23 O25.2 hj29 (g := (mkF m 155 ls27 [(.int (-y10)), (.ref w_5), (.int 1), (.ref o3)])) rfl rfl (B d12_155)
  refine step st29 ?_
  obtain ⟨T30, h30, X30, e30, W30, V30, st30⟩ := own_stB X28 hx hZ e28 V25 (j := (1 : Int32)) (by decide) (i := 1) rfl (by show 1 < 4; decide) (g := (mkF m 156 ls27 [(.int z29), (.int 1), (.ref o3)])) rfl rfl (B d12_156)
  replace V30 : Arv Z h30 o3 kk .byte (4 : Int32) [(.int 0), (.int (nar .byte z29)), (.int (nar .byte z24)), (.int (nar .byte z20))] (.int 0) := V30
  have N30 := Fr.snoc X30 N25 geo
  obtain ⟨lc30, X30, N30⟩ := own_gen X30 N30
  have K30 : Keep h0 h30 [o3] := K25.wr W30 (Or.inl (List.mem_of_getElem? (i := 0) rfl))
  refine step st30 ?_
  refine step (fun t k => XS.iload X30.here hx rfl (B d12_157) (by rw [hls27]; rfl) k) ?_
  refine step (fun t k => XS.bipush X30.here hx rfl (B d12_159) k) ?_
  show G T30 (mkF m 161 ls27 [(.int (-9)), (.int y10)])
  have ho31 := own_nr (b := y10) (by decide : (-9 : Int32).toInt = -9) (by omega)
  refine step (fun t k => XS.icmpYes X30.here hx rfl (pc0 := 161) (pc' := 178) rfl (B d12_161) rfl (flt ho31).2.1 (by decide) (by decide) k) ?_
  refine step (fun t k => XS.iload X30.here hx rfl (B d12_178) (by rw [hls27]; rfl) k) ?_
  refine step (fun t k => XS.ifNo X30.here hx rfl (B d12_180) rfl ((if0 _ _).trans (feq (by decide : ¬ ((1 : Int32) = (0 : Int32)))).1) k) ?_
  refine step (fun t k => XS.aloadN X30.here hx rfl (B d12_183) (by rw [hls27]; rfl) rfl k) ?_
  obtain ⟨ls32, hls32⟩ := own_sl #[vL q0, s_, vI 4, vR o3, u_, u_, vI r13, vI 0, vI 1, vI y10, vI y10]
  refine step (fun t k => XS.iinc X30.here hx rfl (B d12_184) (by rw [hls27]; rfl) (l' := ls32) (by rw [hls27, hls32]; rfl) k) ?_
  refine step (fun t k => XS.iload X30.here hx rfl (B d12_187) (by rw [hls32]; rfl) k) ?_
  show G T30 (mkF m 189 ls32 [(.int 0), (.ref o3)])
  refine step (fun t k => XS.bipush X30.here hx rfl (B d12_189) k) ?_
  show G T30 (mkF m 191 ls32 [(.int 45), (.int 0), (.ref o3)])
  obtain ⟨T33, h33, X33, e33, W33, V33, st33⟩ := own_stB X30 hx hZ e30 V30 (j := (0 : Int32)) (by decide) (i := 0) rfl (by show 0 < 4; decide) (g := (mkF m 191 ls32 [(.int 45), (.int 0), (.ref o3)])) rfl rfl (B d12_191)
  replace V33 : Arv Z h33 o3 kk .byte (4 : Int32) [(.int (nar .byte (45 : Int32))), (.int (nar .byte z29)), (.int (nar .byte z24)), (.int (nar .byte z20))] (.int 0) := V33
  have N33 := Fr.snoc X33 N30 geo
  obtain ⟨lc33, X33, N33⟩ := own_gen X33 N33
  have K33 : Keep h0 h33 [o3] := K30.wr W33 (Or.inl (List.mem_of_getElem? (i := 0) rfl))
  refine step st33 ?_
  refine step (fun t k => XS.iload X33.here hx rfl (B d12_192) (by rw [hls32]; rfl) k) ?_
  exact ret (v := some (.int 0)) X33 (fun h => by rw [Bd.returns] at h; cases h) (fun fs hr => retI X33 hx Bd.returns (B d12_194) hr) e33 ⟨(nar .byte (45 : Int32)), (nar .byte z29), (nar .byte z24), (nar .byte z20), rfl, N33, K33, V33, hz20⟩ (by decide) (by decide)
abbrev rr_gc4p : Room := { frames := 0, cells := 0, slots := 0, locals := 0 }
theorem ef_gc4p (m : MethodId) (q0 : Int64) (o3 : Addr) : entryFrame m #[(.long q0), (.int 4), (.ref o3)] 11 = mkF m 0 #[vL q0, s_, vI 4, vR o3, u_, u_, u_, u_, u_, u_, u_] [] := by first | (simp [entryFrame, mkF, argsToLocals, Value.category]; done) | rfl
def Q_gc4p (Z : State) (w_0 : Addr) (w_1 : Addr) (w_2 : Addr) (w_3 : Addr) (w_4 : Addr) (w_5 : Addr) (w_6 : Addr) (w_7 : Int32) (w_8 : Value) (q0 : Int64) (o3 : Addr) (kk : ClassId) (h0 : Heap) (n0 : Nat) (v : Option Value) (h : Heap) (L : List Loc) : Prop := ∃ c0 : Int32, ∃ c1 : Int32, ∃ c2 : Int32, ∃ c3 : Int32, v = some (.int 0) ∧ Fr n0 L ∧ Keep h0 h [o3] ∧ Arv Z h o3 kk .byte (4 : Int32) [(.int c0), (.int c1), (.int c2), (.int c3)] (.int 0) ∧ ¬ (c3 &&& (255 : Int32)) = (32 : Int32)
theorem rm_gc4p (l : Launch) (Z : State) (a0 : Array Value) (hw : HW Z a0) (ws : List Jvm.Cond) (w_0 : Addr) (w_1 : Addr) (w_2 : Addr) (w_3 : Addr) (w_4 : Addr) (w_5 : Addr) (w_6 : Addr) (w_7 : Int32) (w_8 : Value) (q0 : Int64) (o3 : Addr) (kk : ClassId) (h0 : Heap) (n0 : Nat) (Z0 : n0 ≤ h0.size) (ST : own_St Z w_0 w_1 w_2 w_3 w_4 w_5 w_6 w_7 w_8) (O0 : Old Z n0 h0) (hrg : -2147483648 ≤ q0.toInt ∧ q0.toInt ≤ 2147483647) (hsg : ¬ (q0 < (0 : Int64))) (hlo : (-10000 : Int64) < (-q0)) (hhi : ¬ ((-1000 : Int64) < (-q0))) (Va : Arv Z h0 o3 kk .byte (4 : Int32) [(.int 0), (.int 0), (.int 0), (.int 0)] (.int 0)) (geo : n0 ≤ o3) :
    MetFree l y_12 (head1 (Jvm.Cond.code y_12 jdk_35_method_14_code 11 (some .int) :: ws) rr_gc4p) (fun a U => a = #[(.long q0), (.int 4), (.ref o3)] ∧ Z.Warmed39 U.vm ∧ U.heap = h0) (fun _ _ _ _ _ => True) (fun _ U o U' => ∃ v L, o = .returned v ∧ Q_gc4p Z w_0 w_1 w_2 w_3 w_4 w_5 w_6 w_7 w_8 q0 o3 kk h0 n0 v U'.heap L ∧ FrameEnd U o U' L rr_gc4p.cells rr_gc4p.slots) := by
  refine MetFree.of_bodySF (plainFor_of_name pn_5) hisR ?_
  intro p e s m args below meth c s₁ Bd hml0 hP hK
  obtain ⟨rfl, hZ, hh⟩ := hP
  have hx := Bd.exec
  have hby := Bd.bytes
  have B := @hb _ _ hby
  have hml : c.maxLocals = 11 := hml0
  have hown : s.vm.findClass cn_3 = some m.cls := findClass_of_methodNamed Bd.named
  have X0 : Stand p l e rr_gc4p s m #[(.long q0), (.int 4), (.ref o3)] below meth c s₁ [] 0 0 := Stand.of_body Bd
  have e0 : s₁.heap = h0 := by rw [← hh, Bd.state]; rfl
  have N0 := Fr.nil n0
  have K0 : Keep h0 h0 [o3] := Keep.refl _ _
  obtain ⟨G, step, ret, fin⟩ := own_openX X0 (rr_gc4p.cells) (rr_gc4p.slots) (Q_gc4p Z w_0 w_1 w_2 w_3 w_4 w_5 w_6 w_7 w_8 q0 o3 kk h0 n0) Bd.notSynchronized
  refine fin (g := entryFrame m #[(.long q0), (.int 4), (.ref o3)] 11) ?_
  rw [ef_gc4p m q0 o3]
  obtain ⟨ls0, hls0⟩ := own_sl #[vL q0, s_, vI 4, vR o3, u_, u_, u_, u_, u_, u_, u_]
  suffices hG0 : G s₁ (mkF m 0 ls0 []) by rw [hls0] at hG0; exact hG0
  refine step (fun t k => XS.iloadN X0.here hx rfl (B d12_0) (by rw [hls0]; rfl) k) ?_
  obtain ⟨ls1, hls1⟩ := own_sl #[vL q0, s_, vI 4, vR o3, u_, u_, u_, vI 4, u_, u_, u_]
  refine step (fun t k => XS.istore X0.here hx rfl (B d12_1) rfl (l' := ls1) (by rw [hls0, hls1]; rfl) k) ?_
  refine step (fun t k => XS.lloadN X0.here hx rfl (B d12_3) (by rw [hls1]; rfl) k) ?_
  refine step (fun t k => XS.lconst X0.here hx rfl (B d12_4) k) ?_
  refine step (fun t k => XS.lcmp X0.here hx rfl (B d12_5) rfl k) ?_
  refine step (fun t k => XS.ifYes X0.here hx rfl (pc0 := 6) (pc' := 13) rfl (B d12_6) rfl ((if0 _ _).trans (flt (fun q => hsg ((lw_lt _ _).mp q))).2.1) (by decide) (by decide) k) ?_
  show G s₁ (mkF m 13 ls1 [])
  refine step (fun t k => XS.iconst X0.here hx rfl (B d12_13) k) ?_
  obtain ⟨ls2, hls2⟩ := own_sl #[vL q0, s_, vI 4, vR o3, u_, u_, u_, vI 4, vI 0, u_, u_]
  refine step (fun t k => XS.istore X0.here hx rfl (B d12_14) rfl (l' := ls2) (by rw [hls1, hls2]; rfl) k) ?_
  refine step (fun t k => XS.iload X0.here hx rfl (B d12_16) (by rw [hls2]; rfl) k) ?_
  refine step (fun t k => XS.ifNo X0.here hx rfl (B d12_18) rfl ((if0 _ _).trans (teq (by decide : (0 : Int32) = (0 : Int32))).2) k) ?_
  refine step (fun t k => XS.lloadN X0.here hx rfl (B d12_21) (by rw [hls2]; rfl) k) ?_
  refine step (fun t k => XS.lneg X0.here hx rfl (B d12_22) rfl k) ?_
  show G s₁ (mkF m 23 ls2 [(.long (-q0))])
  obtain ⟨x0, hx0⟩ : ∃ z : Int64, z = (-q0) := ⟨_, rfl⟩
  rw [← hx0]
  have bd3 : -10000 < x0.toInt ∧ x0.toInt ≤ -1000 := by
    rw [hx0]
    have c1 := c_lneg q0
    have r1 := rng64 (-q0)
    have k0 : (0 : Int64).toInt = 0 := by decide
    rw [own_xltL] at hsg
    have k1 : (-10000 : Int64).toInt = -10000 := by decide
    rw [own_xltL] at hlo
    have k2 : (-1000 : Int64).toInt = -1000 := by decide
    rw [own_xltL] at hhi
    omega
  obtain ⟨ls4, hls4⟩ := own_sl #[vL x0, s_, vI 4, vR o3, u_, u_, u_, vI 4, vI 0, u_, u_]
  refine step (fun t k => XS.lstoreN X0.here hx rfl (B d12_23) rfl (l' := ls4) (by rw [hls2, hls4]; rfl) k) ?_
  refine step (fun t k => XS.lloadN X0.here hx rfl (B d12_24) (by rw [hls4]; rfl) k) ?_
  have q5 := X0.ldc2Long hx hown (mvT hZ (ww97 hw)) (g := (mkF m 25 ls4 [(.long x0)])) rfl (B d12_25)
  refine step q5 ?_
  refine step (fun t k => XS.lcmp X0.here hx rfl (B d12_28) rfl k) ?_
  have ho6 := own_yL (b := x0) (by decide : (-2147483648 : Int64).toInt = -2147483648) (by omega)
  refine step (fun t k => XS.ifYes X0.here hx rfl (pc0 := 29) (pc' := 82) rfl (B d12_29) rfl ((if0 _ _).trans (tlt ((lw_gt _ _).mpr ho6)).2.2.1) (by decide) (by decide) k) ?_
  refine step (fun t k => XS.lloadN X0.here hx rfl (B d12_82) (by rw [hls4]; rfl) k) ?_
  refine step (fun t k => XS.l2i X0.here hx rfl (B d12_83) rfl k) ?_
  show G s₁ (mkF m 84 ls4 [(.int (x0.toInt32))])
  obtain ⟨y7, hy7⟩ := own_ex (x0.toInt32)
  rw [← hy7]
  have bd8 : -10000 < y7.toInt ∧ y7.toInt ≤ -1000 := by
    rw [hy7]
    have c1 := c_l2i x0
    have r1 := rng32 x0.toInt32
    omega
  obtain ⟨ls9, hls9⟩ := own_sl #[vL x0, s_, vI 4, vR o3, u_, u_, u_, vI 4, vI 0, u_, vI y7]
  refine step (fun t k => XS.istore X0.here hx rfl (B d12_84) rfl (l' := ls9) (by rw [hls4, hls9]; rfl) k) ?_
  refine step (fun t k => XS.iload X0.here hx rfl (B d12_86) (by rw [hls9]; rfl) k) ?_
  refine step (fun t k => XS.bipush X0.here hx rfl (B d12_88) k) ?_
  show G s₁ (mkF m 90 ls9 [(.int (-100)), (.int y7)])
  have ho10 := own_n (b := y7) (by decide : (-100 : Int32).toInt = -100) (by omega)
  refine step (fun t k => XS.icmpNo X0.here hx rfl (B d12_90) rfl (flt ho10).2.2.1 k) ?_
  refine step (fun t k => XS.iload X0.here hx rfl (B d12_93) (by rw [hls9]; rfl) k) ?_
  refine step (fun t k => XS.bipush X0.here hx rfl (B d12_95) k) ?_
  refine step (fun t k => XS.idiv X0.here hx rfl (B d12_97) rfl (by decide) k) ?_
  show G s₁ (mkF m 98 ls9 [(.int (y7 / (100 : Int32)))])
  obtain ⟨y11, hy11⟩ := own_ex (y7 / (100 : Int32))
  rw [← hy11]
  have bq12 := own_bq hy11 (by omega)
  obtain ⟨ls13, hls13⟩ := own_sl #[vL x0, s_, vI 4, vR o3, u_, u_, u_, vI 4, vI 0, vI y11, vI y7]
  refine step (fun t k => XS.istore X0.here hx rfl (B d12_98) rfl (l' := ls13) (by rw [hls9, hls13]; rfl) k) ?_
  refine step (fun t k => XS.iload X0.here hx rfl (B d12_100) (by rw [hls13]; rfl) k) ?_
  refine step (fun t k => XS.bipush X0.here hx rfl (B d12_102) k) ?_
  refine step (fun t k => XS.imul X0.here hx rfl (B d12_104) rfl k) ?_
  refine step (fun t k => XS.iload X0.here hx rfl (B d12_105) (by rw [hls13]; rfl) k) ?_
  refine step (fun t k => XS.isub X0.here hx rfl (B d12_107) rfl k) ?_
  show G s₁ (mkF m 108 ls13 [(.int ((y11 * (100 : Int32)) - y7))])
  obtain ⟨r14, hr14⟩ := own_ex ((y11 * (100 : Int32)) - y7)
  rw [← hr14]
  have br15 := own_br bq12 (by omega) hr14
  have bd16 : -100 < y11.toInt ∧ y11.toInt ≤ -10 := by
    omega
  obtain ⟨ls17, hls17⟩ := own_sl #[vL x0, s_, vI 4, vR o3, u_, u_, vI r14, vI 4, vI 0, vI y11, vI y7]
  refine step (fun t k => XS.istore X0.here hx rfl (B d12_108) rfl (l' := ls17) (by rw [hls13, hls17]; rfl) k) ?_
  refine step (fun t k => XS.iload X0.here hx rfl (B d12_110) (by rw [hls17]; rfl) k) ?_
  obtain ⟨ls18, hls18⟩ := own_sl #[vL x0, s_, vI 4, vR o3, u_, u_, vI r14, vI 4, vI 0, vI y11, vI y11]
  refine step (fun t k => XS.istore X0.here hx rfl (B d12_112) rfl (l' := ls18) (by rw [hls17, hls18]; rfl) k) ?_
  refine step (fun t k => XS.aloadN X0.here hx rfl (B d12_114) (by rw [hls18]; rfl) rfl k) ?_
  obtain ⟨ls19, hls19⟩ := own_sl #[vL x0, s_, vI 4, vR o3, u_, u_, vI r14, vI 3, vI 0, vI y11, vI y11]
  refine step (fun t k => XS.iinc X0.here hx rfl (B d12_115) (by rw [hls18]; rfl) (l' := ls19) (by rw [hls18, hls19]; rfl) k) ?_
  refine step (fun t k => XS.iload X0.here hx rfl (B d12_118) (by rw [hls19]; rfl) k) ?_
  show G s₁ (mkF m 120 ls19 [(.int 3), (.ref o3)])
  obtain ⟨T20, X20, e20, st20⟩ := getS2 X0 hx hZ hown (host := "") (Or.inl (ww98 hw)) Via.refl e0 (Sta.ext O0.2 ST.k10) (g := (mkF m 120 ls19 [(.int 3), (.ref o3)])) rfl (B d12_120)
  refine step st20 ?_
  refine step (fun t k => XS.iload X20.here hx rfl (B d12_123) (by rw [hls19]; rfl) k) ?_
  have hj21 := own_hj br15
  obtain ⟨z21, hz21, st21⟩ := own_ldDig X20 hx hZ e20 ST.k23 O0.2 hj21 (g := (mkF m 125 ls19 [(.int r14), (.ref w_5), (.int 3), (.ref o3)])) rfl rfl (B d12_125)
  refine step st21 ?_
  obtain ⟨T22, h22, X22, e22, W22, V22, st22⟩ := own_stB X20 hx hZ e20 Va (j := (3 : Int32)) (by decide) (i := 3) rfl (by show 3 < 4; decide) (g := (mkF m 126 ls19 [(.int z21), (.int 3), (.ref o3)])) rfl rfl (B d12_126)
  replace V22 : Arv Z h22 o3 kk .byte (4 : Int32) [(.int 0), (.int 0), (.int 0), (.int (nar .byte z21))] (.int 0) := V22
  have N22 := Fr.snoc X22 N0 geo
  obtain ⟨lc22, X22, N22⟩ := own_gen X22 N22
  have O22 := O0.wr W22 geo
  have K22 : Keep h0 h22 [o3] := K0.wr W22 (Or.inl (List.mem_of_getElem? (i := 0) rfl))
  refine step st22 ?_
  refine step (fun t k => XS.aloadN X22.here hx rfl (B d12_127) (by rw [hls19]; rfl) rfl k) ?_
  obtain ⟨ls23, hls23⟩ := own_sl #[vL x0, s_, vI 4, vR o3, u_, u_, vI r14, vI 2, vI 0, vI y11, vI y11]
  refine step (fun t k => XS.iinc X22.here hx rfl (B d12_128) (by rw [hls19]; rfl) (l' := ls23) (by rw [hls19, hls23]; rfl) k) ?_
  refine step (fun t k => XS.iload X22.here hx rfl (B d12_131) (by rw [hls23]; rfl) k) ?_
  obtain ⟨T24, X24, e24, st24⟩ := getS2 X22 hx hZ hown (host := "") (Or.inl (ww185 hw)) Via.refl e22 (Sta.ext O22.2 ST.k12) (g := (mkF m 133 ls23 [(.int 2), (.ref o3)])) rfl (B d12_133)
  refine step st24 ?_
  refine step (fun t k => XS.iload X24.here hx rfl (B d12_136) (by rw [hls23]; rfl) k) ?_
  have hj25 := own_hj br15
  obtain ⟨z25, hz25, st25⟩ := own_ldDig X24 hx hZ e24 ST.k24 O22.2 hj25 (g := (mkF m 138 ls23 [(.int r14), (.ref w_6), (.int 2), (.ref o3)])) rfl rfl (B d12_138)
  refine step st25 ?_
  obtain ⟨T26, h26, X26, e26, W26, V26, st26⟩ := own_stB X24 hx hZ e24 V22 (j := (2 : Int32)) (by decide) (i := 2) rfl (by show 2 < 4; decide) (g := (mkF m 139 ls23 [(.int z25), (.int 2), (.ref o3)])) rfl rfl (B d12_139)
  replace V26 : Arv Z h26 o3 kk .byte (4 : Int32) [(.int 0), (.int 0), (.int (nar .byte z25)), (.int (nar .byte z21))] (.int 0) := V26
  have N26 := Fr.snoc X26 N22 geo
  obtain ⟨lc26, X26, N26⟩ := own_gen X26 N26
  have O26 := O22.wr W26 geo
  have K26 : Keep h0 h26 [o3] := K22.wr W26 (Or.inl (List.mem_of_getElem? (i := 0) rfl))
  refine step st26 ?_
  refine step (fun t k => XS.goto X26.here hx rfl (pc0 := 140) (pc' := 86) rfl (B d12_140) (by decide) (by decide) k) ?_
  refine step (fun t k => XS.iload X26.here hx rfl (B d12_86) (by rw [hls23]; rfl) k) ?_
  refine step (fun t k => XS.bipush X26.here hx rfl (B d12_88) k) ?_
  show G T26 (mkF m 90 ls23 [(.int (-100)), (.int y11)])
  have ho27 := own_y (b := y11) (by decide : (-100 : Int32).toInt = -100) (by omega)
  refine step (fun t k => XS.icmpYes X26.here hx rfl (pc0 := 90) (pc' := 143) rfl (B d12_90) rfl (tlt ho27).2.2.1 (by decide) (by decide) k) ?_
  refine step (fun t k => XS.aloadN X26.here hx rfl (B d12_143) (by rw [hls23]; rfl) rfl k) ?_
  obtain ⟨ls28, hls28⟩ := own_sl #[vL x0, s_, vI 4, vR o3, u_, u_, vI r14, vI 1, vI 0, vI y11, vI y11]
  refine step (fun t k => XS.iinc X26.here hx rfl (B d12_144) (by rw [hls23]; rfl) (l' := ls28) (by rw [hls23, hls28]; rfl) k) ?_
  refine step (fun t k => XS.iload X26.here hx rfl (B d12_147) (by rw [hls28]; rfl) k) ?_
  obtain ⟨T29, X29, e29, st29⟩ := getS2 X26 hx hZ hown (host := "") (Or.inl (ww98 hw)) Via.refl e26 (Sta.ext O26.2 ST.k10) (g := (mkF m 149 ls28 [(.int 1), (.ref o3)])) rfl (B d12_149)
  refine step st29 ?_
  refine step (fun t k => XS.iload X29.here hx rfl (B d12_152) (by rw [hls28]; rfl) k) ?_
  refine step (fun t k => XS.ineg X29.here hx rfl (B d12_154) rfl k) ?_
  have hj30 := own_hj (own_ng y11 (by omega))
  obtain ⟨z30, hz30, st30⟩ := own_ldDig X29 hx hZ e29 ST.k23 O26.2 hj30 (g := (mkF m 155 ls28 [(.int (-y11)), (.ref w_5), (.int 1), (.ref o3)])) rfl rfl (B d12_155)
  refine step st30 ?_
  obtain ⟨T31, h31, X31, e31, W31, V31, st31⟩ := own_stB X29 hx hZ e29 V26 (j := (1 : Int32)) (by decide) (i := 1) rfl (by show 1 < 4; decide) (g := (mkF m 156 ls28 [(.int z30), (.int 1), (.ref o3)])) rfl rfl (B d12_156)
  replace V31 : Arv Z h31 o3 kk .byte (4 : Int32) [(.int 0), (.int (nar .byte z30)), (.int (nar .byte z25)), (.int (nar .byte z21))] (.int 0) := V31
  have N31 := Fr.snoc X31 N26 geo
  obtain ⟨lc31, X31, N31⟩ := own_gen X31 N31
  have O31 := O26.wr W31 geo
  have K31 : Keep h0 h31 [o3] := K26.wr W31 (Or.inl (List.mem_of_getElem? (i := 0) rfl))
  refine step st31 ?_
  refine step (fun t k => XS.iload X31.here hx rfl (B d12_157) (by rw [hls28]; rfl) k) ?_
  refine step (fun t k => XS.bipush X31.here hx rfl (B d12_159) k) ?_
  show G T31 (mkF m 161 ls28 [(.int (-9)), (.int y11)])
  have ho32 := own_yr (b := y11) (by decide : (-9 : Int32).toInt = -9) (by omega)
  refine step (fun t k => XS.icmpNo X31.here hx rfl (B d12_161) rfl (tlt ho32).2.1 k) ?_
  refine step (fun t k => XS.aloadN X31.here hx rfl (B d12_164) (by rw [hls28]; rfl) rfl k) ?_
  obtain ⟨ls33, hls33⟩ := own_sl #[vL x0, s_, vI 4, vR o3, u_, u_, vI r14, vI 0, vI 0, vI y11, vI y11]
  refine step (fun t k => XS.iinc X31.here hx rfl (B d12_165) (by rw [hls28]; rfl) (l' := ls33) (by rw [hls28, hls33]; rfl) k) ?_
  refine step (fun t k => XS.iload X31.here hx rfl (B d12_168) (by rw [hls33]; rfl) k) ?_
  obtain ⟨T34, X34, e34, st34⟩ := getS2 X31 hx hZ hown (host := "") (Or.inl (ww185 hw)) Via.refl e31 (Sta.ext O31.2 ST.k12) (g := (mkF m 170 ls33 [(.int 0), (.ref o3)])) rfl (B d12_170)
  refine step st34 ?_
  refine step (fun t k => XS.iload X34.here hx rfl (B d12_173) (by rw [hls33]; rfl) k) ?_
  refine step (fun t k => XS.ineg X34.here hx rfl (B d12_175) rfl k) ?_
  have hj35 := own_hj (own_ng y11 (by omega))
  obtain ⟨z35, hz35, st35⟩ := own_ldDig X34 hx hZ e34 ST.k24 O31.2 hj35 (g := (mkF m 176 ls33 [(.int (-y11)), (.ref w_6), (.int 0), (.ref o3)])) rfl rfl (B d12_176)
  refine step st35 ?_
  obtain ⟨T36, h36, X36, e36, W36, V36, st36⟩ := own_stB X34 hx hZ e34 V31 (j := (0 : Int32)) (by decide) (i := 0) rfl (by show 0 < 4; decide) (g := (mkF m 177 ls33 [(.int z35), (.int 0), (.ref o3)])) rfl rfl (B d12_177)
  replace V36 : Arv Z h36 o3 kk .byte (4 : Int32) [(.int (nar .byte z35)), (.int (nar .byte z30)), (.int (nar .byte z25)), (.int (nar .byte z21))] (.int 0) := V36
  have N36 := Fr.snoc X36 N31 geo
  obtain ⟨lc36, X36, N36⟩ := own_gen X36 N36
  have K36 : Keep h0 h36 [o3] := K31.wr W36 (Or.inl (List.mem_of_getElem? (i := 0) rfl))
  refine step st36 ?_
  refine step (fun t k => XS.iload X36.here hx rfl (B d12_178) (by rw [hls33]; rfl) k) ?_
  refine step (fun t k => XS.ifYes X36.here hx rfl (pc0 := 180) (pc' := 192) rfl (B d12_180) rfl ((if0 _ _).trans (teq (by decide : (0 : Int32) = (0 : Int32))).1) (by decide) (by decide) k) ?_
  refine step (fun t k => XS.iload X36.here hx rfl (B d12_192) (by rw [hls33]; rfl) k) ?_
  exact ret (v := some (.int 0)) X36 (fun h => by rw [Bd.returns] at h; cases h) (fun fs hr => retI X36 hx Bd.returns (B d12_194) hr) e36 ⟨(nar .byte z35), (nar .byte z30), (nar .byte z25), (nar .byte z21), rfl, N36, K36, V36, hz21⟩ (by decide) (by decide)
abbrev rr_gc4n : Room := { frames := 0, cells := 0, slots := 0, locals := 0 }
theorem ef_gc4n (m : MethodId) (q0 : Int64) (o3 : Addr) : entryFrame m #[(.long q0), (.int 5), (.ref o3)] 11 = mkF m 0 #[vL q0, s_, vI 5, vR o3, u_, u_, u_, u_, u_, u_, u_] [] := by first | (simp [entryFrame, mkF, argsToLocals, Value.category]; done) | rfl
def Q_gc4n (Z : State) (w_0 : Addr) (w_1 : Addr) (w_2 : Addr) (w_3 : Addr) (w_4 : Addr) (w_5 : Addr) (w_6 : Addr) (w_7 : Int32) (w_8 : Value) (q0 : Int64) (o3 : Addr) (kk : ClassId) (h0 : Heap) (n0 : Nat) (v : Option Value) (h : Heap) (L : List Loc) : Prop := ∃ c0 : Int32, ∃ c1 : Int32, ∃ c2 : Int32, ∃ c3 : Int32, ∃ c4 : Int32, v = some (.int 0) ∧ Fr n0 L ∧ Keep h0 h [o3] ∧ Arv Z h o3 kk .byte (5 : Int32) [(.int c0), (.int c1), (.int c2), (.int c3), (.int c4)] (.int 0) ∧ ¬ (c4 &&& (255 : Int32)) = (32 : Int32)
theorem rm_gc4n (l : Launch) (Z : State) (a0 : Array Value) (hw : HW Z a0) (ws : List Jvm.Cond) (w_0 : Addr) (w_1 : Addr) (w_2 : Addr) (w_3 : Addr) (w_4 : Addr) (w_5 : Addr) (w_6 : Addr) (w_7 : Int32) (w_8 : Value) (q0 : Int64) (o3 : Addr) (kk : ClassId) (h0 : Heap) (n0 : Nat) (Z0 : n0 ≤ h0.size) (ST : own_St Z w_0 w_1 w_2 w_3 w_4 w_5 w_6 w_7 w_8) (O0 : Old Z n0 h0) (hrg : -2147483648 ≤ q0.toInt ∧ q0.toInt ≤ 2147483647) (hsg : q0 < (0 : Int64)) (hlo : (-10000 : Int64) < q0) (hhi : ¬ ((-1000 : Int64) < q0)) (Va : Arv Z h0 o3 kk .byte (5 : Int32) [(.int 0), (.int 0), (.int 0), (.int 0), (.int 0)] (.int 0)) (geo : n0 ≤ o3) :
    MetFree l y_12 (head1 (Jvm.Cond.code y_12 jdk_35_method_14_code 11 (some .int) :: ws) rr_gc4n) (fun a U => a = #[(.long q0), (.int 5), (.ref o3)] ∧ Z.Warmed39 U.vm ∧ U.heap = h0) (fun _ _ _ _ _ => True) (fun _ U o U' => ∃ v L, o = .returned v ∧ Q_gc4n Z w_0 w_1 w_2 w_3 w_4 w_5 w_6 w_7 w_8 q0 o3 kk h0 n0 v U'.heap L ∧ FrameEnd U o U' L rr_gc4n.cells rr_gc4n.slots) := by
  refine MetFree.of_bodySF (plainFor_of_name pn_5) hisR ?_
  intro p e s m args below meth c s₁ Bd hml0 hP hK
  obtain ⟨rfl, hZ, hh⟩ := hP
  have hx := Bd.exec
  have hby := Bd.bytes
  have B := @hb _ _ hby
  have hml : c.maxLocals = 11 := hml0
  have hown : s.vm.findClass cn_3 = some m.cls := findClass_of_methodNamed Bd.named
  have X0 : Stand p l e rr_gc4n s m #[(.long q0), (.int 5), (.ref o3)] below meth c s₁ [] 0 0 := Stand.of_body Bd
  have e0 : s₁.heap = h0 := by rw [← hh, Bd.state]; rfl
  have N0 := Fr.nil n0
  have K0 : Keep h0 h0 [o3] := Keep.refl _ _
  obtain ⟨G, step, ret, fin⟩ := own_openX X0 (rr_gc4n.cells) (rr_gc4n.slots) (Q_gc4n Z w_0 w_1 w_2 w_3 w_4 w_5 w_6 w_7 w_8 q0 o3 kk h0 n0) Bd.notSynchronized
  refine fin (g := entryFrame m #[(.long q0), (.int 5), (.ref o3)] 11) ?_
  rw [ef_gc4n m q0 o3]
  obtain ⟨ls0, hls0⟩ := own_sl #[vL q0, s_, vI 5, vR o3, u_, u_, u_, u_, u_, u_, u_]
  suffices hG0 : G s₁ (mkF m 0 ls0 []) by rw [hls0] at hG0; exact hG0
  refine step (fun t k => XS.iloadN X0.here hx rfl (B d12_0) (by rw [hls0]; rfl) k) ?_
  obtain ⟨ls1, hls1⟩ := own_sl #[vL q0, s_, vI 5, vR o3, u_, u_, u_, vI 5, u_, u_, u_]
  refine step (fun t k => XS.istore X0.here hx rfl (B d12_1) rfl (l' := ls1) (by rw [hls0, hls1]; rfl) k) ?_
  refine step (fun t k => XS.lloadN X0.here hx rfl (B d12_3) (by rw [hls1]; rfl) k) ?_
  refine step (fun t k => XS.lconst X0.here hx rfl (B d12_4) k) ?_
  refine step (fun t k => XS.lcmp X0.here hx rfl (B d12_5) rfl k) ?_
  refine step (fun t k => XS.ifNo X0.here hx rfl (B d12_6) rfl ((if0 _ _).trans (tlt ((lw_lt _ _).mpr hsg)).2.1) k) ?_
  show G s₁ (mkF m 9 ls1 [])
  refine step (fun t k => XS.iconst X0.here hx rfl (B d12_9) k) ?_
  refine step (fun t k => XS.goto X0.here hx rfl (pc0 := 10) (pc' := 14) rfl (B d12_10) (by decide) (by decide) k) ?_
  obtain ⟨ls2, hls2⟩ := own_sl #[vL q0, s_, vI 5, vR o3, u_, u_, u_, vI 5, vI 1, u_, u_]
  refine step (fun t k => XS.istore X0.here hx rfl (B d12_14) rfl (l' := ls2) (by rw [hls1, hls2]; rfl) k) ?_
  refine step (fun t k => XS.iload X0.here hx rfl (B d12_16) (by rw [hls2]; rfl) k) ?_
  refine step (fun t k => XS.ifYes X0.here hx rfl (pc0 := 18) (pc' := 24) rfl (B d12_18) rfl ((if0 _ _).trans (feq (by decide : ¬ ((1 : Int32) = (0 : Int32)))).2) (by decide) (by decide) k) ?_
  have bd3 : -10000 < q0.toInt ∧ q0.toInt ≤ -1000 := by
    have k0 : (0 : Int64).toInt = 0 := by decide
    rw [own_xltL] at hsg
    have k1 : (-10000 : Int64).toInt = -10000 := by decide
    rw [own_xltL] at hlo
    have k2 : (-1000 : Int64).toInt = -1000 := by decide
    rw [own_xltL] at hhi
    omega
  refine step (fun t k => XS.lloadN X0.here hx rfl (B d12_24) (by rw [hls2]; rfl) k) ?_
  show G s₁ (mkF m 25 ls2 [(.long q0)])
  have q4 := X0.ldc2Long hx hown (mvT hZ (ww97 hw)) (g := (mkF m 25 ls2 [(.long q0)])) rfl (B d12_25)
  refine step q4 ?_
  refine step (fun t k => XS.lcmp X0.here hx rfl (B d12_28) rfl k) ?_
  have ho5 := own_yL (b := q0) (by decide : (-2147483648 : Int64).toInt = -2147483648) (by omega)
  refine step (fun t k => XS.ifYes X0.here hx rfl (pc0 := 29) (pc' := 82) rfl (B d12_29) rfl ((if0 _ _).trans (tlt ((lw_gt _ _).mpr ho5)).2.2.1) (by decide) (by decide) k) ?_
  refine step (fun t k => XS.lloadN X0.here hx rfl (B d12_82) (by rw [hls2]; rfl) k) ?_
  refine step (fun t k => XS.l2i X0.here hx rfl (B d12_83) rfl k) ?_
  show G s₁ (mkF m 84 ls2 [(.int (q0.toInt32))])
  obtain ⟨y6, hy6⟩ := own_ex (q0.toInt32)
  rw [← hy6]
  have bd7 : -10000 < y6.toInt ∧ y6.toInt ≤ -1000 := by
    rw [hy6]
    have c1 := c_l2i q0
    have r1 := rng32 q0.toInt32
    omega
  obtain ⟨ls8, hls8⟩ := own_sl #[vL q0, s_, vI 5, vR o3, u_, u_, u_, vI 5, vI 1, u_, vI y6]
  refine step (fun t k => XS.istore X0.here hx rfl (B d12_84) rfl (l' := ls8) (by rw [hls2, hls8]; rfl) k) ?_
  refine step (fun t k => XS.iload X0.here hx rfl (B d12_86) (by rw [hls8]; rfl) k) ?_
  refine step (fun t k => XS.bipush X0.here hx rfl (B d12_88) k) ?_
  show G s₁ (mkF m 90 ls8 [(.int (-100)), (.int y6)])
  have ho9 := own_n (b := y6) (by decide : (-100 : Int32).toInt = -100) (by omega)
  refine step (fun t k => XS.icmpNo X0.here hx rfl (B d12_90) rfl (flt ho9).2.2.1 k) ?_
  refine step (fun t k => XS.iload X0.here hx rfl (B d12_93) (by rw [hls8]; rfl) k) ?_
  refine step (fun t k => XS.bipush X0.here hx rfl (B d12_95) k) ?_
  refine step (fun t k => XS.idiv X0.here hx rfl (B d12_97) rfl (by decide) k) ?_
  show G s₁ (mkF m 98 ls8 [(.int (y6 / (100 : Int32)))])
  obtain ⟨y10, hy10⟩ := own_ex (y6 / (100 : Int32))
  rw [← hy10]
  have bq11 := own_bq hy10 (by omega)
  obtain ⟨ls12, hls12⟩ := own_sl #[vL q0, s_, vI 5, vR o3, u_, u_, u_, vI 5, vI 1, vI y10, vI y6]
  refine step (fun t k => XS.istore X0.here hx rfl (B d12_98) rfl (l' := ls12) (by rw [hls8, hls12]; rfl) k) ?_
  refine step (fun t k => XS.iload X0.here hx rfl (B d12_100) (by rw [hls12]; rfl) k) ?_
  refine step (fun t k => XS.bipush X0.here hx rfl (B d12_102) k) ?_
  refine step (fun t k => XS.imul X0.here hx rfl (B d12_104) rfl k) ?_
  refine step (fun t k => XS.iload X0.here hx rfl (B d12_105) (by rw [hls12]; rfl) k) ?_
  refine step (fun t k => XS.isub X0.here hx rfl (B d12_107) rfl k) ?_
  show G s₁ (mkF m 108 ls12 [(.int ((y10 * (100 : Int32)) - y6))])
  obtain ⟨r13, hr13⟩ := own_ex ((y10 * (100 : Int32)) - y6)
  rw [← hr13]
  have br14 := own_br bq11 (by omega) hr13
  have bd15 : -100 < y10.toInt ∧ y10.toInt ≤ -10 := by
    omega
  obtain ⟨ls16, hls16⟩ := own_sl #[vL q0, s_, vI 5, vR o3, u_, u_, vI r13, vI 5, vI 1, vI y10, vI y6]
  refine step (fun t k => XS.istore X0.here hx rfl (B d12_108) rfl (l' := ls16) (by rw [hls12, hls16]; rfl) k) ?_
  refine step (fun t k => XS.iload X0.here hx rfl (B d12_110) (by rw [hls16]; rfl) k) ?_
  obtain ⟨ls17, hls17⟩ := own_sl #[vL q0, s_, vI 5, vR o3, u_, u_, vI r13, vI 5, vI 1, vI y10, vI y10]
  refine step (fun t k => XS.istore X0.here hx rfl (B d12_112) rfl (l' := ls17) (by rw [hls16, hls17]; rfl) k) ?_
  refine step (fun t k => XS.aloadN X0.here hx rfl (B d12_114) (by rw [hls17]; rfl) rfl k) ?_
  obtain ⟨ls18, hls18⟩ := own_sl #[vL q0, s_, vI 5, vR o3, u_, u_, vI r13, vI 4, vI 1, vI y10, vI y10]
  refine step (fun t k => XS.iinc X0.here hx rfl (B d12_115) (by rw [hls17]; rfl) (l' := ls18) (by rw [hls17, hls18]; rfl) k) ?_
  refine step (fun t k => XS.iload X0.here hx rfl (B d12_118) (by rw [hls18]; rfl) k) ?_
  show G s₁ (mkF m 120 ls18 [(.int 4), (.ref o3)])
  obtain ⟨T19, X19, e19, st19⟩ := getS2 X0 hx hZ hown (host := "") (Or.inl (ww98 hw)) Via.refl e0 (Sta.ext O0.2 ST.k10) (g := (mkF m 120 ls18 [(.int 4), (.ref o3)])) rfl (B d12_120)
  refine step st19 ?_
  refine step (fun t k => XS.iload X19.here hx rfl (B d12_123) (by rw [hls18]; rfl) k) ?_
  have hj20 := own_hj br14
  obtain ⟨z20, hz20, st20⟩ := own_ldDig X19 hx hZ e19 ST.k23 O0.2 hj20 (g := (mkF m 125 ls18 [(.int r13), (.ref w_5), (.int 4), (.ref o3)])) rfl rfl (B d12_125)
  refine step st20 ?_
  obtain ⟨T21, h21, X21, e21, W21, V21, st21⟩ := own_stB X19 hx hZ e19 Va (j := (4 : Int32)) (by decide) (i := 4) rfl (by show 4 < 5; decide) (g := (mkF m 126 ls18 [(.int z20), (.int 4), (.ref o3)])) rfl rfl (B d12_126)
  replace V21 : Arv Z h21 o3 kk .byte (5 : Int32) [(.int 0), (.int 0), (.int 0), (.int 0), (.int (nar .byte z20))] (.int 0) := V21
  have N21 := Fr.snoc X21 N0 geo
  obtain ⟨lc21, X21, N21⟩ := own_gen X21 N21
  have O21 := O0.wr W21 geo
  have K21 : Keep h0 h21 [o3] := K0.wr W21 (Or.inl (List.mem_of_getElem? (i := 0) rfl))
  refine step st21 ?_
  refine step (fun t k => XS.aloadN X21.here hx rfl (B d12_127) (by rw [hls18]; rfl) rfl k) ?_
  obtain ⟨ls22, hls22⟩ := own_sl #[vL q0, s_, vI 5, vR o3, u_, u_, vI r13, vI 3, vI 1, vI y10, vI y10]
  refine step (fun t k => XS.iinc X21.here hx rfl (B d12_128) (by rw [hls18]; rfl) (l' := ls22) (by rw [hls18, hls22]; rfl) k) ?_
  refine step (fun t k => XS.iload X21.here hx rfl (B d12_131) (by rw [hls22]; rfl) k) ?_
  obtain ⟨T23, X23, e23, st23⟩ := getS2 X21 hx hZ hown (host := "") (Or.inl (ww185 hw)) Via.refl e21 (Sta.ext O21.2 ST.k12) (g := (mkF m 133 ls22 [(.int 3), (.ref o3)])) rfl (B d12_133)
  refine step st23 ?_
  refine step (fun t k => XS.iload X23.here hx rfl (B d12_136) (by rw [hls22]; rfl) k) ?_
  have hj24 := own_hj br14
  obtain ⟨z24, hz24, st24⟩ := own_ldDig X23 hx hZ e23 ST.k24 O21.2 hj24 (g := (mkF m 138 ls22 [(.int r13), (.ref w_6), (.int 3), (.ref o3)])) rfl rfl (B d12_138)
  refine step st24 ?_
  obtain ⟨T25, h25, X25, e25, W25, V25, st25⟩ := own_stB X23 hx hZ e23 V21 (j := (3 : Int32)) (by decide) (i := 3) rfl (by show 3 < 5; decide) (g := (mkF m 139 ls22 [(.int z24), (.int 3), (.ref o3)])) rfl rfl (B d12_139)
  replace V25 : Arv Z h25 o3 kk .byte (5 : Int32) [(.int 0), (.int 0), (.int 0), (.int (nar .byte z24)), (.int (nar .byte z20))] (.int 0) := V25
  have N25 := Fr.snoc X25 N21 geo
  obtain ⟨lc25, X25, N25⟩ := own_gen X25 N25
  have O25 := O21.wr W25 geo
  have K25 : Keep h0 h25 [o3] := K21.wr W25 (Or.inl (List.mem_of_getElem? (i := 0) rfl))
  refine step st25 ?_
  refine step (fun t k => XS.goto X25.here hx rfl (pc0 := 140) (pc' := 86) rfl (B d12_140) (by decide) (by decide) k) ?_
  refine step (fun t k => XS.iload X25.here hx rfl (B d12_86) (by rw [hls22]; rfl) k) ?_
  refine step (fun t k => XS.bipush X25.here hx rfl (B d12_88) k) ?_
  show G T25 (mkF m 90 ls22 [(.int (-100)), (.int y10)])
  have ho26 := own_y (b := y10) (by decide : (-100 : Int32).toInt = -100) (by omega)
  refine step (fun t k => XS.icmpYes X25.here hx rfl (pc0 := 90) (pc' := 143) rfl (B d12_90) rfl (tlt ho26).2.2.1 (by decide) (by decide) k) ?_
  refine step (fun t k => XS.aloadN X25.here hx rfl (B d12_143) (by rw [hls22]; rfl) rfl k) ?_
  obtain ⟨ls27, hls27⟩ := own_sl #[vL q0, s_, vI 5, vR o3, u_, u_, vI r13, vI 2, vI 1, vI y10, vI y10]
  refine step (fun t k => XS.iinc X25.here hx rfl (B d12_144) (by rw [hls22]; rfl) (l' := ls27) (by rw [hls22, hls27]; rfl) k) ?_
  refine step (fun t k => XS.iload X25.here hx rfl (B d12_147) (by rw [hls27]; rfl) k) ?_
  obtain ⟨T28, X28, e28, st28⟩ := getS2 X25 hx hZ hown (host := "") (Or.inl (ww98 hw)) Via.refl e25 (Sta.ext O25.2 ST.k10) (g := (mkF m 149 ls27 [(.int 2), (.ref o3)])) rfl (B d12_149)
  refine step st28 ?_
  refine step (fun t k => XS.iload X28.here hx rfl (B d12_152) (by rw [hls27]; rfl) k) ?_
  refine step (fun t k => XS.ineg X28.here hx rfl (B d12_154) rfl k) ?_
  have hj29 := own_hj (own_ng y10 (by omega))
  obtain ⟨z29, hz29, st29⟩ := own_ldDig X28 hx hZ e28 ST.k23 O25.2 hj29 (g := (mkF m 155 ls27 [(.int (-y10)), (.ref w_5), (.int 2), (.ref o3)])) rfl rfl (B d12_155)
  refine step st29 ?_
  obtain ⟨T30, h30, X30, e30, W30, V30, st30⟩ := own_stB X28 hx hZ e28 V25 (j := (2 : Int32)) (by decide) (i := 2) rfl (by show 2 < 5; decide) (g := (mkF m 156 ls27 [(.int z29), (.int 2), (.ref o3)])) rfl rfl (B d12_156)
  replace V30 : Arv Z h30 o3 kk .byte (5 : Int32) [(.int 0), (.int 0), (.int (nar .byte z29)), (.int (nar .byte z24)), (.int (nar .byte z20))] (.int 0) := V30
  have N30 := Fr.snoc X30 N25 geo
  obtain ⟨lc30, X30, N30⟩ := own_gen X30 N30
  have O30 := O25.wr W30 geo
  have K30 : Keep h0 h30 [o3] := K25.wr W30 (Or.inl (List.mem_of_getElem? (i := 0) rfl))
  refine step st30 ?_
  refine step (fun t k => XS.iload X30.here hx rfl (B d12_157) (by rw [hls27]; rfl) k) ?_
  refine step (fun t k => XS.bipush X30.here hx rfl (B d12_159) k) ?_
  show G T30 (mkF m 161 ls27 [(.int (-9)), (.int y10)])
  have ho31 := own_yr (b := y10) (by decide : (-9 : Int32).toInt = -9) (by omega)
  refine step (fun t k => XS.icmpNo X30.here hx rfl (B d12_161) rfl (tlt ho31).2.1 k) ?_
  refine step (fun t k => XS.aloadN X30.here hx rfl (B d12_164) (by rw [hls27]; rfl) rfl k) ?_
  obtain ⟨ls32, hls32⟩ := own_sl #[vL q0, s_, vI 5, vR o3, u_, u_, vI r13, vI 1, vI 1, vI y10, vI y10]
  refine step (fun t k => XS.iinc X30.here hx rfl (B d12_165) (by rw [hls27]; rfl) (l' := ls32) (by rw [hls27, hls32]; rfl) k) ?_
  refine step (fun t k => XS.iload X30.here hx rfl (B d12_168) (by rw [hls32]; rfl) k) ?_
  obtain ⟨T33, X33, e33, st33⟩ := getS2 X30 hx hZ hown (host := "") (Or.inl (ww185 hw)) Via.refl e30 (Sta.ext O30.2 ST.k12) (g := (mkF m 170 ls32 [(.int 1), (.ref o3)])) rfl (B d12_170)
  refine step st33 ?_
  refine step (fun t k => XS.iload X33.here hx rfl (B d12_173) (by rw [hls32]; rfl) k) ?_
  refine step (fun t k => XS.ineg X33.here hx rfl (B d12_175) rfl k) ?_
  have hj34 := own_hj (own_ng y10 (by omega))
  obtain ⟨z34, hz34, st34⟩ := own_ldDig X33 hx hZ e33 ST.k24 O30.2 hj34 (g := (mkF m 176 ls32 [(.int (-y10)), (.ref w_6), (.int 1), (.ref o3)])) rfl rfl (B d12_176)
  refine step st34 ?_
  obtain ⟨T35, h35, X35, e35, W35, V35, st35⟩ := own_stB X33 hx hZ e33 V30 (j := (1 : Int32)) (by decide) (i := 1) rfl (by show 1 < 5; decide) (g := (mkF m 177 ls32 [(.int z34), (.int 1), (.ref o3)])) rfl rfl (B d12_177)
  replace V35 : Arv Z h35 o3 kk .byte (5 : Int32) [(.int 0), (.int (nar .byte z34)), (.int (nar .byte z29)), (.int (nar .byte z24)), (.int (nar .byte z20))] (.int 0) := V35
  have N35 := Fr.snoc X35 N30 geo
  obtain ⟨lc35, X35, N35⟩ := own_gen X35 N35
  have K35 : Keep h0 h35 [o3] := K30.wr W35 (Or.inl (List.mem_of_getElem? (i := 0) rfl))
  refine step st35 ?_
  refine step (fun t k => XS.iload X35.here hx rfl (B d12_178) (by rw [hls32]; rfl) k) ?_
  refine step (fun t k => XS.ifNo X35.here hx rfl (B d12_180) rfl ((if0 _ _).trans (feq (by decide : ¬ ((1 : Int32) = (0 : Int32)))).1) k) ?_
  refine step (fun t k => XS.aloadN X35.here hx rfl (B d12_183) (by rw [hls32]; rfl) rfl k) ?_
  obtain ⟨ls36, hls36⟩ := own_sl #[vL q0, s_, vI 5, vR o3, u_, u_, vI r13, vI 0, vI 1, vI y10, vI y10]
  refine step (fun t k => XS.iinc X35.here hx rfl (B d12_184) (by rw [hls32]; rfl) (l' := ls36) (by rw [hls32, hls36]; rfl) k) ?_
  refine step (fun t k => XS.iload X35.here hx rfl (B d12_187) (by rw [hls36]; rfl) k) ?_
  show G T35 (mkF m 189 ls36 [(.int 0), (.ref o3)])
  refine step (fun t k => XS.bipush X35.here hx rfl (B d12_189) k) ?_
  show G T35 (mkF m 191 ls36 [(.int 45), (.int 0), (.ref o3)])
  obtain ⟨T37, h37, X37, e37, W37, V37, st37⟩ := own_stB X35 hx hZ e35 V35 (j := (0 : Int32)) (by decide) (i := 0) rfl (by show 0 < 5; decide) (g := (mkF m 191 ls36 [(.int 45), (.int 0), (.ref o3)])) rfl rfl (B d12_191)
  replace V37 : Arv Z h37 o3 kk .byte (5 : Int32) [(.int (nar .byte (45 : Int32))), (.int (nar .byte z34)), (.int (nar .byte z29)), (.int (nar .byte z24)), (.int (nar .byte z20))] (.int 0) := V37
  have N37 := Fr.snoc X37 N35 geo
  obtain ⟨lc37, X37, N37⟩ := own_gen X37 N37
  have K37 : Keep h0 h37 [o3] := K35.wr W37 (Or.inl (List.mem_of_getElem? (i := 0) rfl))
  refine step st37 ?_
  refine step (fun t k => XS.iload X37.here hx rfl (B d12_192) (by rw [hls36]; rfl) k) ?_
  exact ret (v := some (.int 0)) X37 (fun h => by rw [Bd.returns] at h; cases h) (fun fs hr => retI X37 hx Bd.returns (B d12_194) hr) e37 ⟨(nar .byte (45 : Int32)), (nar .byte z34), (nar .byte z29), (nar .byte z24), (nar .byte z20), rfl, N37, K37, V37, hz20⟩ (by decide) (by decide)
abbrev rr_gc5p : Room := { frames := 0, cells := 0, slots := 0, locals := 0 }
theorem ef_gc5p (m : MethodId) (q0 : Int64) (o3 : Addr) : entryFrame m #[(.long q0), (.int 5), (.ref o3)] 11 = mkF m 0 #[vL q0, s_, vI 5, vR o3, u_, u_, u_, u_, u_, u_, u_] [] := by first | (simp [entryFrame, mkF, argsToLocals, Value.category]; done) | rfl
def Q_gc5p (Z : State) (w_0 : Addr) (w_1 : Addr) (w_2 : Addr) (w_3 : Addr) (w_4 : Addr) (w_5 : Addr) (w_6 : Addr) (w_7 : Int32) (w_8 : Value) (q0 : Int64) (o3 : Addr) (kk : ClassId) (h0 : Heap) (n0 : Nat) (v : Option Value) (h : Heap) (L : List Loc) : Prop := ∃ c0 : Int32, ∃ c1 : Int32, ∃ c2 : Int32, ∃ c3 : Int32, ∃ c4 : Int32, v = some (.int 0) ∧ Fr n0 L ∧ Keep h0 h [o3] ∧ Arv Z h o3 kk .byte (5 : Int32) [(.int c0), (.int c1), (.int c2), (.int c3), (.int c4)] (.int 0) ∧ ¬ (c4 &&& (255 : Int32)) = (32 : Int32)
theorem rm_gc5p (l : Launch) (Z : State) (a0 : Array Value) (hw : HW Z a0) (ws : List Jvm.Cond) (w_0 : Addr) (w_1 : Addr) (w_2 : Addr) (w_3 : Addr) (w_4 : Addr) (w_5 : Addr) (w_6 : Addr) (w_7 : Int32) (w_8 : Value) (q0 : Int64) (o3 : Addr) (kk : ClassId) (h0 : Heap) (n0 : Nat) (Z0 : n0 ≤ h0.size) (ST : own_St Z w_0 w_1 w_2 w_3 w_4 w_5 w_6 w_7 w_8) (O0 : Old Z n0 h0) (hrg : -2147483648 ≤ q0.toInt ∧ q0.toInt ≤ 2147483647) (hsg : ¬ (q0 < (0 : Int64))) (hlo : (-100000 : Int64) < (-q0)) (hhi : ¬ ((-10000 : Int64) < (-q0))) (Va : Arv Z h0 o3 kk .byte (5 : Int32) [(.int 0), (.int 0), (.int 0), (.int 0), (.int 0)] (.int 0)) (geo : n0 ≤ o3) :
    MetFree l y_12 (head1 (Jvm.Cond.code y_12 jdk_35_method_14_code 11 (some .int) :: ws) rr_gc5p) (fun a U => a = #[(.long q0), (.int 5), (.ref o3)] ∧ Z.Warmed39 U.vm ∧ U.heap = h0) (fun _ _ _ _ _ => True) (fun _ U o U' => ∃ v L, o = .returned v ∧ Q_gc5p Z w_0 w_1 w_2 w_3 w_4 w_5 w_6 w_7 w_8 q0 o3 kk h0 n0 v U'.heap L ∧ FrameEnd U o U' L rr_gc5p.cells rr_gc5p.slots) := by
  refine MetFree.of_bodySF (plainFor_of_name pn_5) hisR ?_
  intro p e s m args below meth c s₁ Bd hml0 hP hK
  obtain ⟨rfl, hZ, hh⟩ := hP
  have hx := Bd.exec
  have hby := Bd.bytes
  have B := @hb _ _ hby
  have hml : c.maxLocals = 11 := hml0
  have hown : s.vm.findClass cn_3 = some m.cls := findClass_of_methodNamed Bd.named
  have X0 : Stand p l e rr_gc5p s m #[(.long q0), (.int 5), (.ref o3)] below meth c s₁ [] 0 0 := Stand.of_body Bd
  have e0 : s₁.heap = h0 := by rw [← hh, Bd.state]; rfl
  have N0 := Fr.nil n0
  have K0 : Keep h0 h0 [o3] := Keep.refl _ _
  obtain ⟨G, step, ret, fin⟩ := own_openX X0 (rr_gc5p.cells) (rr_gc5p.slots) (Q_gc5p Z w_0 w_1 w_2 w_3 w_4 w_5 w_6 w_7 w_8 q0 o3 kk h0 n0) Bd.notSynchronized
  refine fin (g := entryFrame m #[(.long q0), (.int 5), (.ref o3)] 11) ?_
  rw [ef_gc5p m q0 o3]
  obtain ⟨ls0, hls0⟩ := own_sl #[vL q0, s_, vI 5, vR o3, u_, u_, u_, u_, u_, u_, u_]
  suffices hG0 : G s₁ (mkF m 0 ls0 []) by rw [hls0] at hG0; exact hG0
  refine step (fun t k => XS.iloadN X0.here hx rfl (B d12_0) (by rw [hls0]; rfl) k) ?_
  obtain ⟨ls1, hls1⟩ := own_sl #[vL q0, s_, vI 5, vR o3, u_, u_, u_, vI 5, u_, u_, u_]
  refine step (fun t k => XS.istore X0.here hx rfl (B d12_1) rfl (l' := ls1) (by rw [hls0, hls1]; rfl) k) ?_
  refine step (fun t k => XS.lloadN X0.here hx rfl (B d12_3) (by rw [hls1]; rfl) k) ?_
  refine step (fun t k => XS.lconst X0.here hx rfl (B d12_4) k) ?_
  refine step (fun t k => XS.lcmp X0.here hx rfl (B d12_5) rfl k) ?_
  refine step (fun t k => XS.ifYes X0.here hx rfl (pc0 := 6) (pc' := 13) rfl (B d12_6) rfl ((if0 _ _).trans (flt (fun q => hsg ((lw_lt _ _).mp q))).2.1) (by decide) (by decide) k) ?_
  show G s₁ (mkF m 13 ls1 [])
  refine step (fun t k => XS.iconst X0.here hx rfl (B d12_13) k) ?_
  obtain ⟨ls2, hls2⟩ := own_sl #[vL q0, s_, vI 5, vR o3, u_, u_, u_, vI 5, vI 0, u_, u_]
  refine step (fun t k => XS.istore X0.here hx rfl (B d12_14) rfl (l' := ls2) (by rw [hls1, hls2]; rfl) k) ?_
  refine step (fun t k => XS.iload X0.here hx rfl (B d12_16) (by rw [hls2]; rfl) k) ?_
  refine step (fun t k => XS.ifNo X0.here hx rfl (B d12_18) rfl ((if0 _ _).trans (teq (by decide : (0 : Int32) = (0 : Int32))).2) k) ?_
  refine step (fun t k => XS.lloadN X0.here hx rfl (B d12_21) (by rw [hls2]; rfl) k) ?_
  refine step (fun t k => XS.lneg X0.here hx rfl (B d12_22) rfl k) ?_
  show G s₁ (mkF m 23 ls2 [(.long (-q0))])
  obtain ⟨x0, hx0⟩ : ∃ z : Int64, z = (-q0) := ⟨_, rfl⟩
  rw [← hx0]
  have bd3 : -100000 < x0.toInt ∧ x0.toInt ≤ -10000 := by
    rw [hx0]
    have c1 := c_lneg q0
    have r1 := rng64 (-q0)
    have k0 : (0 : Int64).toInt = 0 := by decide
    rw [own_xltL] at hsg
    have k1 : (-100000 : Int64).toInt = -100000 := by decide
    rw [own_xltL] at hlo
    have k2 : (-10000 : Int64).toInt = -10000 := by decide
    rw [own_xltL] at hhi
    omega
  obtain ⟨ls4, hls4⟩ := own_sl #[vL x0, s_, vI 5, vR o3, u_, u_, u_, vI 5, vI 0, u_, u_]
  refine step (fun t k => XS.lstoreN X0.here hx rfl (B d12_23) rfl (l' := ls4) (by rw [hls2, hls4]; rfl) k) ?_
  refine step (fun t k => XS.lloadN X0.here hx rfl (B d12_24) (by rw [hls4]; rfl) k) ?_
  have q5 := X0.ldc2Long hx hown (mvT hZ (ww97 hw)) (g := (mkF m 25 ls4 [(.long x0)])) rfl (B d12_25)
  refine step q5 ?_
  refine step (fun t k => XS.lcmp X0.here hx rfl (B d12_28) rfl k) ?_
  have ho6 := own_yL (b := x0) (by decide : (-2147483648 : Int64).toInt = -2147483648) (by omega)
  refine step (fun t k => XS.ifYes X0.here hx rfl (pc0 := 29) (pc' := 82) rfl (B d12_29) rfl ((if0 _ _).trans (tlt ((lw_gt _ _).mpr ho6)).2.2.1) (by decide) (by decide) k) ?_
  refine step (fun t k => XS.lloadN X0.here hx rfl (B d12_82) (by rw [hls4]; rfl) k) ?_
  refine step (fun t k => XS.l2i X0.here hx rfl (B d12_83) rfl k) ?_
  show G s₁ (mkF m 84 ls4 [(.int (x0.toInt32))])
  obtain ⟨y7, hy7⟩ := own_ex (x0.toInt32)
  rw [← hy7]
  have bd8 : -100000 < y7.toInt ∧ y7.toInt ≤ -10000 := by
    rw [hy7]
    have c1 := c_l2i x0
    have r1 := rng32 x0.toInt32
    omega
  obtain ⟨ls9, hls9⟩ := own_sl #[vL x0, s_, vI 5, vR o3, u_, u_, u_, vI 5, vI 0, u_, vI y7]
  refine step (fun t k => XS.istore X0.here hx rfl (B d12_84) rfl (l' := ls9) (by rw [hls4, hls9]; rfl) k) ?_
  refine step (fun t k => XS.iload X0.here hx rfl (B d12_86) (by rw [hls9]; rfl) k) ?_
  refine step (fun t k => XS.bipush X0.here hx rfl (B d12_88) k) ?_
  show G s₁ (mkF m 90 ls9 [(.int (-100)), (.int y7)])
  have ho10 := own_n (b := y7) (by decide : (-100 : Int32).toInt = -100) (by omega)
  refine step (fun t k => XS.icmpNo X0.here hx rfl (B d12_90) rfl (flt ho10).2.2.1 k) ?_
  refine step (fun t k => XS.iload X0.here hx rfl (B d12_93) (by rw [hls9]; rfl) k) ?_
  refine step (fun t k => XS.bipush X0.here hx rfl (B d12_95) k) ?_
  refine step (fun t k => XS.idiv X0.here hx rfl (B d12_97) rfl (by decide) k) ?_
  show G s₁ (mkF m 98 ls9 [(.int (y7 / (100 : Int32)))])
  obtain ⟨y11, hy11⟩ := own_ex (y7 / (100 : Int32))
  rw [← hy11]
  have bq12 := own_bq hy11 (by omega)
  obtain ⟨ls13, hls13⟩ := own_sl #[vL x0, s_, vI 5, vR o3, u_, u_, u_, vI 5, vI 0, vI y11, vI y7]
  refine step (fun t k => XS.istore X0.here hx rfl (B d12_98) rfl (l' := ls13) (by rw [hls9, hls13]; rfl) k) ?_
  refine step (fun t k => XS.iload X0.here hx rfl (B d12_100) (by rw [hls13]; rfl) k) ?_
  refine step (fun t k => XS.bipush X0.here hx rfl (B d12_102) k) ?_
  refine step (fun t k => XS.imul X0.here hx rfl (B d12_104) rfl k) ?_
  refine step (fun t k => XS.iload X0.here hx rfl (B d12_105) (by rw [hls13]; rfl) k) ?_
  refine step (fun t k => XS.isub X0.here hx rfl (B d12_107) rfl k) ?_
  show G s₁ (mkF m 108 ls13 [(.int ((y11 * (100 : Int32)) - y7))])
  obtain ⟨r14, hr14⟩ := own_ex ((y11 * (100 : Int32)) - y7)
  rw [← hr14]
  have br15 := own_br bq12 (by omega) hr14
  have bd16 : -1000 < y11.toInt ∧ y11.toInt ≤ -100 := by
    omega
  obtain ⟨ls17, hls17⟩ := own_sl #[vL x0, s_, vI 5, vR o3, u_, u_, vI r14, vI 5, vI 0, vI y11, vI y7]
  refine step (fun t k => XS.istore X0.here hx rfl (B d12_108) rfl (l' := ls17) (by rw [hls13, hls17]; rfl) k) ?_
  refine step (fun t k => XS.iload X0.here hx rfl (B d12_110) (by rw [hls17]; rfl) k) ?_
  obtain ⟨ls18, hls18⟩ := own_sl #[vL x0, s_, vI 5, vR o3, u_, u_, vI r14, vI 5, vI 0, vI y11, vI y11]
  refine step (fun t k => XS.istore X0.here hx rfl (B d12_112) rfl (l' := ls18) (by rw [hls17, hls18]; rfl) k) ?_
  refine step (fun t k => XS.aloadN X0.here hx rfl (B d12_114) (by rw [hls18]; rfl) rfl k) ?_
  obtain ⟨ls19, hls19⟩ := own_sl #[vL x0, s_, vI 5, vR o3, u_, u_, vI r14, vI 4, vI 0, vI y11, vI y11]
  refine step (fun t k => XS.iinc X0.here hx rfl (B d12_115) (by rw [hls18]; rfl) (l' := ls19) (by rw [hls18, hls19]; rfl) k) ?_
  refine step (fun t k => XS.iload X0.here hx rfl (B d12_118) (by rw [hls19]; rfl) k) ?_
  show G s₁ (mkF m 120 ls19 [(.int 4), (.ref o3)])
  obtain ⟨T20, X20, e20, st20⟩ := getS2 X0 hx hZ hown (host := "") (Or.inl (ww98 hw)) Via.refl e0 (Sta.ext O0.2 ST.k10) (g := (mkF m 120 ls19 [(.int 4), (.ref o3)])) rfl (B d12_120)
  refine step st20 ?_
  refine step (fun t k => XS.iload X20.here hx rfl (B d12_123) (by rw [hls19]; rfl) k) ?_
  have hj21 := own_hj br15
  obtain ⟨z21, hz21, st21⟩ := own_ldDig X20 hx hZ e20 ST.k23 O0.2 hj21 (g := (mkF m 125 ls19 [(.int r14), (.ref w_5), (.int 4), (.ref o3)])) rfl rfl (B d12_125)
  refine step st21 ?_
  obtain ⟨T22, h22, X22, e22, W22, V22, st22⟩ := own_stB X20 hx hZ e20 Va (j := (4 : Int32)) (by decide) (i := 4) rfl (by show 4 < 5; decide) (g := (mkF m 126 ls19 [(.int z21), (.int 4), (.ref o3)])) rfl rfl (B d12_126)
  replace V22 : Arv Z h22 o3 kk .byte (5 : Int32) [(.int 0), (.int 0), (.int 0), (.int 0), (.int (nar .byte z21))] (.int 0) := V22
  have N22 := Fr.snoc X22 N0 geo
  obtain ⟨lc22, X22, N22⟩ := own_gen X22 N22
  have O22 := O0.wr W22 geo
  have K22 : Keep h0 h22 [o3] := K0.wr W22 (Or.inl (List.mem_of_getElem? (i := 0) rfl))
  refine step st22 ?_
  refine step (fun t k => XS.aloadN X22.here hx rfl (B d12_127) (by rw [hls19]; rfl) rfl k) ?_
  obtain ⟨ls23, hls23⟩ := own_sl #[vL x0, s_, vI 5, vR o3, u_, u_, vI r14, vI 3, vI 0, vI y11, vI y11]
  refine step (fun t k => XS.iinc X22.here hx rfl (B d12_128) (by rw [hls19]; rfl) (l' := ls23) (by rw [hls19, hls23]; rfl) k) ?_
  refine step (fun t k => XS.iload X22.here hx rfl (B d12_131) (by rw [hls23]; rfl) k) ?_
  obtain ⟨T24, X24, e24, st24⟩ := getS2 X22 hx hZ hown (host := "") (Or.inl (ww185 hw)) Via.refl e22 (Sta.ext O22.2 ST.k12) (g := (mkF m 133 ls23 [(.int 3), (.ref o3)])) rfl (B d12_133)
  refine step st24 ?_
  refine step (fun t k => XS.iload X24.here hx rfl (B d12_136) (by rw [hls23]; rfl) k) ?_
  have hj25 := own_hj br15
  obtain ⟨z25, hz25, st25⟩ := own_ldDig X24 hx hZ e24 ST.k24 O22.2 hj25 (g := (mkF m 138 ls23 [(.int r14), (.ref w_6), (.int 3), (.ref o3)])) rfl rfl (B d12_138)
  refine step st25 ?_
  obtain ⟨T26, h26, X26, e26, W26, V26, st26⟩ := own_stB X24 hx hZ e24 V22 (j := (3 : Int32)) (by decide) (i := 3) rfl (by show 3 < 5; decide) (g := (mkF m 139 ls23 [(.int z25), (.int 3), (.ref o3)])) rfl rfl (B d12_139)
  replace V26 : Arv Z h26 o3 kk .byte (5 : Int32) [(.int 0), (.int 0), (.int 0), (.int (nar .byte z25)), (.int (nar .byte z21))] (.int 0) := V26
  have N26 := Fr.snoc X26 N22 geo
  obtain ⟨lc26, X26, N26⟩ := own_gen X26 N26
  have O26 := O22.wr W26 geo
  have K26 : Keep h0 h26 [o3] := K22.wr W26 (Or.inl (List.mem_of_getElem? (i := 0) rfl))
  refine step st26 ?_
  refine step (fun t k => XS.goto X26.here hx rfl (pc0 := 140) (pc' := 86) rfl (B d12_140) (by decide) (by decide) k) ?_
  refine step (fun t k => XS.iload X26.here hx rfl (B d12_86) (by rw [hls23]; rfl) k) ?_
  refine step (fun t k => XS.bipush X26.here hx rfl (B d12_88) k) ?_
  show G T26 (mkF m 90 ls23 [(.int (-100)), (.int y11)])
  have ho27 := own_n (b := y11) (by decide : (-100 : Int32).toInt = -100) (by omega)
  refine step (fun t k => XS.icmpNo X26.here hx rfl (B d12_90) rfl (flt ho27).2.2.1 k) ?_
  refine step (fun t k => XS.iload X26.here hx rfl (B d12_93) (by rw [hls23]; rfl) k) ?_
  refine step (fun t k => XS.bipush X26.here hx rfl (B d12_95) k) ?_
  refine step (fun t k => XS.idiv X26.here hx rfl (B d12_97) rfl (by decide) k) ?_
  show G T26 (mkF m 98 ls23 [(.int (y11 / (100 : Int32)))])
  obtain ⟨y28, hy28⟩ := own_ex (y11 / (100 : Int32))
  rw [← hy28]
  have bq29 := own_bq hy28 (by omega)
  obtain ⟨ls30, hls30⟩ := own_sl #[vL x0, s_, vI 5, vR o3, u_, u_, vI r14, vI 3, vI 0, vI y28, vI y11]
  refine step (fun t k => XS.istore X26.here hx rfl (B d12_98) rfl (l' := ls30) (by rw [hls23, hls30]; rfl) k) ?_
  refine step (fun t k => XS.iload X26.here hx rfl (B d12_100) (by rw [hls30]; rfl) k) ?_
  refine step (fun t k => XS.bipush X26.here hx rfl (B d12_102) k) ?_
  refine step (fun t k => XS.imul X26.here hx rfl (B d12_104) rfl k) ?_
  refine step (fun t k => XS.iload X26.here hx rfl (B d12_105) (by rw [hls30]; rfl) k) ?_
  refine step (fun t k => XS.isub X26.here hx rfl (B d12_107) rfl k) ?_
  show G T26 (mkF m 108 ls30 [(.int ((y28 * (100 : Int32)) - y11))])
  obtain ⟨r31, hr31⟩ := own_ex ((y28 * (100 : Int32)) - y11)
  rw [← hr31]
  have br32 := own_br bq29 (by omega) hr31
  have bd33 : -10 < y28.toInt ∧ y28.toInt ≤ 0 := by
    omega
  obtain ⟨ls34, hls34⟩ := own_sl #[vL x0, s_, vI 5, vR o3, u_, u_, vI r31, vI 3, vI 0, vI y28, vI y11]
  refine step (fun t k => XS.istore X26.here hx rfl (B d12_108) rfl (l' := ls34) (by rw [hls30, hls34]; rfl) k) ?_
  refine step (fun t k => XS.iload X26.here hx rfl (B d12_110) (by rw [hls34]; rfl) k) ?_
  obtain ⟨ls35, hls35⟩ := own_sl #[vL x0, s_, vI 5, vR o3, u_, u_, vI r31, vI 3, vI 0, vI y28, vI y28]
  refine step (fun t k => XS.istore X26.here hx rfl (B d12_112) rfl (l' := ls35) (by rw [hls34, hls35]; rfl) k) ?_
  refine step (fun t k => XS.aloadN X26.here hx rfl (B d12_114) (by rw [hls35]; rfl) rfl k) ?_
  obtain ⟨ls36, hls36⟩ := own_sl #[vL x0, s_, vI 5, vR o3, u_, u_, vI r31, vI 2, vI 0, vI y28, vI y28]
  refine step (fun t k => XS.iinc X26.here hx rfl (B d12_115) (by rw [hls35]; rfl) (l' := ls36) (by rw [hls35, hls36]; rfl) k) ?_
  refine step (fun t k => XS.iload X26.here hx rfl (B d12_118) (by rw [hls36]; rfl) k) ?_
  show G T26 (mkF m 120 ls36 [(.int 2), (.ref o3)])
  obtain ⟨T37, X37, e37, st37⟩ := getS2 X26 hx hZ hown (host := "") (Or.inl (ww98 hw)) Via.refl e26 (Sta.ext O26.2 ST.k10) (g := (mkF m 120 ls36 [(.int 2), (.ref o3)])) rfl (B d12_120)
  refine step st37 ?_
  refine step (fun t k => XS.iload X37.here hx rfl (B d12_123) (by rw [hls36]; rfl) k) ?_
  have hj38 := own_hj br32
  obtain ⟨z38, hz38, st38⟩ := own_ldDig X37 hx hZ e37 ST.k23 O26.2 hj38 (g := (mkF m 125 ls36 [(.int r31), (.ref w_5), (.int 2), (.ref o3)])) rfl rfl (B d12_125)
  refine step st38 ?_
  obtain ⟨T39, h39, X39, e39, W39, V39, st39⟩ := own_stB X37 hx hZ e37 V26 (j := (2 : Int32)) (by decide) (i := 2) rfl (by show 2 < 5; decide) (g := (mkF m 126 ls36 [(.int z38), (.int 2), (.ref o3)])) rfl rfl (B d12_126)
  replace V39 : Arv Z h39 o3 kk .byte (5 : Int32) [(.int 0), (.int 0), (.int (nar .byte z38)), (.int (nar .byte z25)), (.int (nar .byte z21))] (.int 0) := V39
  have N39 := Fr.snoc X39 N26 geo
  obtain ⟨lc39, X39, N39⟩ := own_gen X39 N39
  have O39 := O26.wr W39 geo
  have K39 : Keep h0 h39 [o3] := K26.wr W39 (Or.inl (List.mem_of_getElem? (i := 0) rfl))
  refine step st39 ?_
  refine step (fun t k => XS.aloadN X39.here hx rfl (B d12_127) (by rw [hls36]; rfl) rfl k) ?_
  obtain ⟨ls40, hls40⟩ := own_sl #[vL x0, s_, vI 5, vR o3, u_, u_, vI r31, vI 1, vI 0, vI y28, vI y28]
  refine step (fun t k => XS.iinc X39.here hx rfl (B d12_128) (by rw [hls36]; rfl) (l' := ls40) (by rw [hls36, hls40]; rfl) k) ?_
  refine step (fun t k => XS.iload X39.here hx rfl (B d12_131) (by rw [hls40]; rfl) k) ?_
  obtain ⟨T41, X41, e41, st41⟩ := getS2 X39 hx hZ hown (host := "") (Or.inl (ww185 hw)) Via.refl e39 (Sta.ext O39.2 ST.k12) (g := (mkF m 133 ls40 [(.int 1), (.ref o3)])) rfl (B d12_133)
  refine step st41 ?_
  refine step (fun t k => XS.iload X41.here hx rfl (B d12_136) (by rw [hls40]; rfl) k) ?_
  have hj42 := own_hj br32
  obtain ⟨z42, hz42, st42⟩ := own_ldDig X41 hx hZ e41 ST.k24 O39.2 hj42 (g := (mkF m 138 ls40 [(.int r31), (.ref w_6), (.int 1), (.ref o3)])) rfl rfl (B d12_138)
  refine step st42 ?_
  obtain ⟨T43, h43, X43, e43, W43, V43, st43⟩ := own_stB X41 hx hZ e41 V39 (j := (1 : Int32)) (by decide) (i := 1) rfl (by show 1 < 5; decide) (g := (mkF m 139 ls40 [(.int z42), (.int 1), (.ref o3)])) rfl rfl (B d12_139)
  replace V43 : Arv Z h43 o3 kk .byte (5 : Int32) [(.int 0), (.int (nar .byte z42)), (.int (nar .byte z38)), (.int (nar .byte z25)), (.int (nar .byte z21))] (.int 0) := V43
  have N43 := Fr.snoc X43 N39 geo
  obtain ⟨lc43, X43, N43⟩ := own_gen X43 N43
  have O43 := O39.wr W43 geo
  have K43 : Keep h0 h43 [o3] := K39.wr W43 (Or.inl (List.mem_of_getElem? (i := 0) rfl))
  refine step st43 ?_
  refine step (fun t k => XS.goto X43.here hx rfl (pc0 := 140) (pc' := 86) rfl (B d12_140) (by decide) (by decide) k) ?_
  refine step (fun t k => XS.iload X43.here hx rfl (B d12_86) (by rw [hls40]; rfl) k) ?_
  refine step (fun t k => XS.bipush X43.here hx rfl (B d12_88) k) ?_
  show G T43 (mkF m 90 ls40 [(.int (-100)), (.int y28)])
  have ho44 := own_y (b := y28) (by decide : (-100 : Int32).toInt = -100) (by omega)
  refine step (fun t k => XS.icmpYes X43.here hx rfl (pc0 := 90) (pc' := 143) rfl (B d12_90) rfl (tlt ho44).2.2.1 (by decide) (by decide) k) ?_
  refine step (fun t k => XS.aloadN X43.here hx rfl (B d12_143) (by rw [hls40]; rfl) rfl k) ?_
  obtain ⟨ls45, hls45⟩ := own_sl #[vL x0, s_, vI 5, vR o3, u_, u_, vI r31, vI 0, vI 0, vI y28, vI y28]
  refine step (fun t k => XS.iinc X43.here hx rfl (B d12_144) (by rw [hls40]; rfl) (l' := ls45) (by rw [hls40, hls45]; rfl) k) ?_
  refine step (fun t k => XS.iload X43.here hx rfl (B d12_147) (by rw [hls45]; rfl) k) ?_
  obtain ⟨T46, X46, e46, st46⟩ := getS2 X43 hx hZ hown (host := "") (Or.inl (ww98 hw)) Via.refl e43 (Sta.ext O43.2 ST.k10) (g := (mkF m 149 ls45 [(.int 0), (.ref o3)])) rfl (B d12_149)
  refine step st46 ?_
  refine step (fun t k => XS.iload X46.here hx rfl (B d12_152) (by rw [hls45]; rfl) k) ?_
  refine step (fun t k => XS.ineg X46.here hx rfl (B d12_154) rfl k) ?_
  have hj47 := own_hj (own_ng y28 (by omega))
  obtain ⟨z47, hz47, st47⟩ := own_ldDig X46 hx hZ e46 ST.k23 O43.2 hj47 (g := (mkF m 155 ls45 [(.int (-y28)), (.ref w_5), (.int 0), (.ref o3)])) rfl rfl (B d12_155)
  refine step st47 ?_
  obtain ⟨T48, h48, X48, e48, W48, V48, st48⟩ := own_stB X46 hx hZ e46 V43 (j := (0 : Int32)) (by decide) (i := 0) rfl (by show 0 < 5; decide) (g := (mkF m 156 ls45 [(.int z47), (.int 0), (.ref o3)])) rfl rfl (B d12_156)
  replace V48 : Arv Z h48 o3 kk .byte (5 : Int32) [(.int (nar .byte z47)), (.int (nar .byte z42)), (.int (nar .byte z38)), (.int (nar .byte z25)), (.int (nar .byte z21))] (.int 0) := V48
  have N48 := Fr.snoc X48 N43 geo
  obtain ⟨lc48, X48, N48⟩ := own_gen X48 N48
  have K48 : Keep h0 h48 [o3] := K43.wr W48 (Or.inl (List.mem_of_getElem? (i := 0) rfl))
  refine step st48 ?_
  refine step (fun t k => XS.iload X48.here hx rfl (B d12_157) (by rw [hls45]; rfl) k) ?_
  refine step (fun t k => XS.bipush X48.here hx rfl (B d12_159) k) ?_
  show G T48 (mkF m 161 ls45 [(.int (-9)), (.int y28)])
  have ho49 := own_nr (b := y28) (by decide : (-9 : Int32).toInt = -9) (by omega)
  refine step (fun t k => XS.icmpYes X48.here hx rfl (pc0 := 161) (pc' := 178) rfl (B d12_161) rfl (flt ho49).2.1 (by decide) (by decide) k) ?_
  refine step (fun t k => XS.iload X48.here hx rfl (B d12_178) (by rw [hls45]; rfl) k) ?_
  refine step (fun t k => XS.ifYes X48.here hx rfl (pc0 := 180) (pc' := 192) rfl (B d12_180) rfl ((if0 _ _).trans (teq (by decide : (0 : Int32) = (0 : Int32))).1) (by decide) (by decide) k) ?_
  refine step (fun t k => XS.iload X48.here hx rfl (B d12_192) (by rw [hls45]; rfl) k) ?_
  exact ret (v := some (.int 0)) X48 (fun h => by rw [Bd.returns] at h; cases h) (fun fs hr => retI X48 hx Bd.returns (B d12_194) hr) e48 ⟨(nar .byte z47), (nar .byte z42), (nar .byte z38), (nar .byte z25), (nar .byte z21), rfl, N48, K48, V48, hz21⟩ (by decide) (by decide)
abbrev rr_gc5n : Room := { frames := 0, cells := 0, slots := 0, locals := 0 }
theorem ef_gc5n (m : MethodId) (q0 : Int64) (o3 : Addr) : entryFrame m #[(.long q0), (.int 6), (.ref o3)] 11 = mkF m 0 #[vL q0, s_, vI 6, vR o3, u_, u_, u_, u_, u_, u_, u_] [] := by first | (simp [entryFrame, mkF, argsToLocals, Value.category]; done) | rfl
def Q_gc5n (Z : State) (w_0 : Addr) (w_1 : Addr) (w_2 : Addr) (w_3 : Addr) (w_4 : Addr) (w_5 : Addr) (w_6 : Addr) (w_7 : Int32) (w_8 : Value) (q0 : Int64) (o3 : Addr) (kk : ClassId) (h0 : Heap) (n0 : Nat) (v : Option Value) (h : Heap) (L : List Loc) : Prop := ∃ c0 : Int32, ∃ c1 : Int32, ∃ c2 : Int32, ∃ c3 : Int32, ∃ c4 : Int32, ∃ c5 : Int32, v = some (.int 0) ∧ Fr n0 L ∧ Keep h0 h [o3] ∧ Arv Z h o3 kk .byte (6 : Int32) [(.int c0), (.int c1), (.int c2), (.int c3), (.int c4), (.int c5)] (.int 0) ∧ ¬ (c5 &&& (255 : Int32)) = (32 : Int32)
theorem rm_gc5n (l : Launch) (Z : State) (a0 : Array Value) (hw : HW Z a0) (ws : List Jvm.Cond) (w_0 : Addr) (w_1 : Addr) (w_2 : Addr) (w_3 : Addr) (w_4 : Addr) (w_5 : Addr) (w_6 : Addr) (w_7 : Int32) (w_8 : Value) (q0 : Int64) (o3 : Addr) (kk : ClassId) (h0 : Heap) (n0 : Nat) (Z0 : n0 ≤ h0.size) (ST : own_St Z w_0 w_1 w_2 w_3 w_4 w_5 w_6 w_7 w_8) (O0 : Old Z n0 h0) (hrg : -2147483648 ≤ q0.toInt ∧ q0.toInt ≤ 2147483647) (hsg : q0 < (0 : Int64)) (hlo : (-100000 : Int64) < q0) (hhi : ¬ ((-10000 : Int64) < q0)) (Va : Arv Z h0 o3 kk .byte (6 : Int32) [(.int 0), (.int 0), (.int 0), (.int 0), (.int 0), (.int 0)] (.int 0)) (geo : n0 ≤ o3) :
    MetFree l y_12 (head1 (Jvm.Cond.code y_12 jdk_35_method_14_code 11 (some .int) :: ws) rr_gc5n) (fun a U => a = #[(.long q0), (.int 6), (.ref o3)] ∧ Z.Warmed39 U.vm ∧ U.heap = h0) (fun _ _ _ _ _ => True) (fun _ U o U' => ∃ v L, o = .returned v ∧ Q_gc5n Z w_0 w_1 w_2 w_3 w_4 w_5 w_6 w_7 w_8 q0 o3 kk h0 n0 v U'.heap L ∧ FrameEnd U o U' L rr_gc5n.cells rr_gc5n.slots) := by
  refine MetFree.of_bodySF (plainFor_of_name pn_5) hisR ?_
  intro p e s m args below meth c s₁ Bd hml0 hP hK
  obtain ⟨rfl, hZ, hh⟩ := hP
  have hx := Bd.exec
  have hby := Bd.bytes
  have B := @hb _ _ hby
  have hml : c.maxLocals = 11 := hml0
  have hown : s.vm.findClass cn_3 = some m.cls := findClass_of_methodNamed Bd.named
  have X0 : Stand p l e rr_gc5n s m #[(.long q0), (.int 6), (.ref o3)] below meth c s₁ [] 0 0 := Stand.of_body Bd
  have e0 : s₁.heap = h0 := by rw [← hh, Bd.state]; rfl
  have N0 := Fr.nil n0
  have K0 : Keep h0 h0 [o3] := Keep.refl _ _
  obtain ⟨G, step, ret, fin⟩ := own_openX X0 (rr_gc5n.cells) (rr_gc5n.slots) (Q_gc5n Z w_0 w_1 w_2 w_3 w_4 w_5 w_6 w_7 w_8 q0 o3 kk h0 n0) Bd.notSynchronized
  refine fin (g := entryFrame m #[(.long q0), (.int 6), (.ref o3)] 11) ?_
  rw [ef_gc5n m q0 o3]
  obtain ⟨ls0, hls0⟩ := own_sl #[vL q0, s_, vI 6, vR o3, u_, u_, u_, u_, u_, u_, u_]
  suffices hG0 : G s₁ (mkF m 0 ls0 []) by rw [hls0] at hG0; exact hG0
  refine step (fun t k => XS.iloadN X0.here hx rfl (B d12_0) (by rw [hls0]; rfl) k) ?_
  obtain ⟨ls1, hls1⟩ := own_sl #[vL q0, s_, vI 6, vR o3, u_, u_, u_, vI 6, u_, u_, u_]
  refine step (fun t k => XS.istore X0.here hx rfl (B d12_1) rfl (l' := ls1) (by rw [hls0, hls1]; rfl) k) ?_
  refine step (fun t k => XS.lloadN X0.here hx rfl (B d12_3) (by rw [hls1]; rfl) k) ?_
  refine step (fun t k => XS.lconst X0.here hx rfl (B d12_4) k) ?_
  refine step (fun t k => XS.lcmp X0.here hx rfl (B d12_5) rfl k) ?_
  refine step (fun t k => XS.ifNo X0.here hx rfl (B d12_6) rfl ((if0 _ _).trans (tlt ((lw_lt _ _).mpr hsg)).2.1) k) ?_
  show G s₁ (mkF m 9 ls1 [])
  refine step (fun t k => XS.iconst X0.here hx rfl (B d12_9) k) ?_
  refine step (fun t k => XS.goto X0.here hx rfl (pc0 := 10) (pc' := 14) rfl (B d12_10) (by decide) (by decide) k) ?_
  obtain ⟨ls2, hls2⟩ := own_sl #[vL q0, s_, vI 6, vR o3, u_, u_, u_, vI 6, vI 1, u_, u_]
  refine step (fun t k => XS.istore X0.here hx rfl (B d12_14) rfl (l' := ls2) (by rw [hls1, hls2]; rfl) k) ?_
  refine step (fun t k => XS.iload X0.here hx rfl (B d12_16) (by rw [hls2]; rfl) k) ?_
  refine step (fun t k => XS.ifYes X0.here hx rfl (pc0 := 18) (pc' := 24) rfl (B d12_18) rfl ((if0 _ _).trans (feq (by decide : ¬ ((1 : Int32) = (0 : Int32)))).2) (by decide) (by decide) k) ?_
  have bd3 : -100000 < q0.toInt ∧ q0.toInt ≤ -10000 := by
    have k0 : (0 : Int64).toInt = 0 := by decide
    rw [own_xltL] at hsg
    have k1 : (-100000 : Int64).toInt = -100000 := by decide
    rw [own_xltL] at hlo
    have k2 : (-10000 : Int64).toInt = -10000 := by decide
    rw [own_xltL] at hhi
    omega
  refine step (fun t k => XS.lloadN X0.here hx rfl (B d12_24) (by rw [hls2]; rfl) k) ?_
  show G s₁ (mkF m 25 ls2 [(.long q0)])
  have q4 := X0.ldc2Long hx hown (mvT hZ (ww97 hw)) (g := (mkF m 25 ls2 [(.long q0)])) rfl (B d12_25)
  refine step q4 ?_
  refine step (fun t k => XS.lcmp X0.here hx rfl (B d12_28) rfl k) ?_
  have ho5 := own_yL (b := q0) (by decide : (-2147483648 : Int64).toInt = -2147483648) (by omega)
  refine step (fun t k => XS.ifYes X0.here hx rfl (pc0 := 29) (pc' := 82) rfl (B d12_29) rfl ((if0 _ _).trans (tlt ((lw_gt _ _).mpr ho5)).2.2.1) (by decide) (by decide) k) ?_
  refine step (fun t k => XS.lloadN X0.here hx rfl (B d12_82) (by rw [hls2]; rfl) k) ?_
  refine step (fun t k => XS.l2i X0.here hx rfl (B d12_83) rfl k) ?_
  show G s₁ (mkF m 84 ls2 [(.int (q0.toInt32))])
  obtain ⟨y6, hy6⟩ := own_ex (q0.toInt32)
  rw [← hy6]
  have bd7 : -100000 < y6.toInt ∧ y6.toInt ≤ -10000 := by
    rw [hy6]
    have c1 := c_l2i q0
    have r1 := rng32 q0.toInt32
    omega
  obtain ⟨ls8, hls8⟩ := own_sl #[vL q0, s_, vI 6, vR o3, u_, u_, u_, vI 6, vI 1, u_, vI y6]
  refine step (fun t k => XS.istore X0.here hx rfl (B d12_84) rfl (l' := ls8) (by rw [hls2, hls8]; rfl) k) ?_
  refine step (fun t k => XS.iload X0.here hx rfl (B d12_86) (by rw [hls8]; rfl) k) ?_
  refine step (fun t k => XS.bipush X0.here hx rfl (B d12_88) k) ?_
  show G s₁ (mkF m 90 ls8 [(.int (-100)), (.int y6)])
  have ho9 := own_n (b := y6) (by decide : (-100 : Int32).toInt = -100) (by omega)
  refine step (fun t k => XS.icmpNo X0.here hx rfl (B d12_90) rfl (flt ho9).2.2.1 k) ?_
  refine step (fun t k => XS.iload X0.here hx rfl (B d12_93) (by rw [hls8]; rfl) k) ?_
  refine step (fun t k => XS.bipush X0.here hx rfl (B d12_95) k) ?_
  refine step (fun t k => XS.idiv X0.here hx rfl (B d12_97) rfl (by decide) k) ?_
  show G s₁ (mkF m 98 ls8 [(.int (y6 / (100 : Int32)))])
  obtain ⟨y10, hy10⟩ := own_ex (y6 / (100 : Int32))
  rw [← hy10]
  have bq11 := own_bq hy10 (by omega)
  obtain ⟨ls12, hls12⟩ := own_sl #[vL q0, s_, vI 6, vR o3, u_, u_, u_, vI 6, vI 1, vI y10, vI y6]
  refine step (fun t k => XS.istore X0.here hx rfl (B d12_98) rfl (l' := ls12) (by rw [hls8, hls12]; rfl) k) ?_
  refine step (fun t k => XS.iload X0.here hx rfl (B d12_100) (by rw [hls12]; rfl) k) ?_
  refine step (fun t k => XS.bipush X0.here hx rfl (B d12_102) k) ?_
  refine step (fun t k => XS.imul X0.here hx rfl (B d12_104) rfl k) ?_
  refine step (fun t k => XS.iload X0.here hx rfl (B d12_105) (by rw [hls12]; rfl) k) ?_
  refine step (fun t k => XS.isub X0.here hx rfl (B d12_107) rfl k) ?_
  show G s₁ (mkF m 108 ls12 [(.int ((y10 * (100 : Int32)) - y6))])
  obtain ⟨r13, hr13⟩ := own_ex ((y10 * (100 : Int32)) - y6)
  rw [← hr13]
  have br14 := own_br bq11 (by omega) hr13
  have bd15 : -1000 < y10.toInt ∧ y10.toInt ≤ -100 := by
    omega
  obtain ⟨ls16, hls16⟩ := own_sl #[vL q0, s_, vI 6, vR o3, u_, u_, vI r13, vI 6, vI 1, vI y10, vI y6]
  refine step (fun t k => XS.istore X0.here hx rfl (B d12_108) rfl (l' := ls16) (by rw [hls12, hls16]; rfl) k) ?_
  refine step (fun t k => XS.iload X0.here hx rfl (B d12_110) (by rw [hls16]; rfl) k) ?_
  obtain ⟨ls17, hls17⟩ := own_sl #[vL q0, s_, vI 6, vR o3, u_, u_, vI r13, vI 6, vI 1, vI y10, vI y10]
  refine step (fun t k => XS.istore X0.here hx rfl (B d12_112) rfl (l' := ls17) (by rw [hls16, hls17]; rfl) k) ?_
  refine step (fun t k => XS.aloadN X0.here hx rfl (B d12_114) (by rw [hls17]; rfl) rfl k) ?_
  obtain ⟨ls18, hls18⟩ := own_sl #[vL q0, s_, vI 6, vR o3, u_, u_, vI r13, vI 5, vI 1, vI y10, vI y10]
  refine step (fun t k => XS.iinc X0.here hx rfl (B d12_115) (by rw [hls17]; rfl) (l' := ls18) (by rw [hls17, hls18]; rfl) k) ?_
  refine step (fun t k => XS.iload X0.here hx rfl (B d12_118) (by rw [hls18]; rfl) k) ?_
  show G s₁ (mkF m 120 ls18 [(.int 5), (.ref o3)])
  obtain ⟨T19, X19, e19, st19⟩ := getS2 X0 hx hZ hown (host := "") (Or.inl (ww98 hw)) Via.refl e0 (Sta.ext O0.2 ST.k10) (g := (mkF m 120 ls18 [(.int 5), (.ref o3)])) rfl (B d12_120)
  refine step st19 ?_
  refine step (fun t k => XS.iload X19.here hx rfl (B d12_123) (by rw [hls18]; rfl) k) ?_
  have hj20 := own_hj br14
  obtain ⟨z20, hz20, st20⟩ := own_ldDig X19 hx hZ e19 ST.k23 O0.2 hj20 (g := (mkF m 125 ls18 [(.int r13), (.ref w_5), (.int 5), (.ref o3)])) rfl rfl (B d12_125)
  refine step st20 ?_
  obtain ⟨T21, h21, X21, e21, W21, V21, st21⟩ := own_stB X19 hx hZ e19 Va (j := (5 : Int32)) (by decide) (i := 5) rfl (by show 5 < 6; decide) (g := (mkF m 126 ls18 [(.int z20), (.int 5), (.ref o3)])) rfl rfl (B d12_126)
  replace V21 : Arv Z h21 o3 kk .byte (6 : Int32) [(.int 0), (.int 0), (.int 0), (.int 0), (.int 0), (.int (nar .byte z20))] (.int 0) := V21
  have N21 := Fr.snoc X21 N0 geo
  obtain ⟨lc21, X21, N21⟩ := own_gen X21 N21
  have O21 := O0.wr W21 geo
  have K21 : Keep h0 h21 [o3] := K0.wr W21 (Or.inl (List.mem_of_getElem? (i := 0) rfl))
  refine step st21 ?_
  refine step (fun t k => XS.aloadN X21.here hx rfl (B d12_127) (by rw [hls18]; rfl) rfl k) ?_
  obtain ⟨ls22, hls22⟩ := own_sl #[vL q0, s_, vI 6, vR o3, u_, u_, vI r13, vI 4, vI 1, vI y10, vI y10]
  refine step (fun t k => XS.iinc X21.here hx rfl (B d12_128) (by rw [hls18]; rfl) (l' := ls22) (by rw [hls18, hls22]; rfl) k) ?_
  refine step (fun t k => XS.iload X21.here hx rfl (B d12_131) (by rw [hls22]; rfl) k) ?_
  obtain ⟨T23, X23, e23, st23⟩ := getS2 X21 hx hZ hown (host := "") (Or.inl (ww185 hw)) Via.refl e21 (Sta.ext O21.2 ST.k12) (g := (mkF m 133 ls22 [(.int 4), (.ref o3)])) rfl (B d12_133)
  refine step st23 ?_
  refine step (fun t k => XS.iload X23.here hx rfl (B d12_136) (by rw [hls22]; rfl) k) ?_
  have hj24 := own_hj br14
  obtain ⟨z24, hz24, st24⟩ := own_ldDig X23 hx hZ e23 ST.k24 O21.2 hj24 (g := (mkF m 138 ls22 [(.int r13), (.ref w_6), (.int 4), (.ref o3)])) rfl rfl (B d12_138)
  refine step st24 ?_
  obtain ⟨T25, h25, X25, e25, W25, V25, st25⟩ := own_stB X23 hx hZ e23 V21 (j := (4 : Int32)) (by decide) (i := 4) rfl (by show 4 < 6; decide) (g := (mkF m 139 ls22 [(.int z24), (.int 4), (.ref o3)])) rfl rfl (B d12_139)
  replace V25 : Arv Z h25 o3 kk .byte (6 : Int32) [(.int 0), (.int 0), (.int 0), (.int 0), (.int (nar .byte z24)), (.int (nar .byte z20))] (.int 0) := V25
  have N25 := Fr.snoc X25 N21 geo
  obtain ⟨lc25, X25, N25⟩ := own_gen X25 N25
  have O25 := O21.wr W25 geo
  have K25 : Keep h0 h25 [o3] := K21.wr W25 (Or.inl (List.mem_of_getElem? (i := 0) rfl))
  refine step st25 ?_
  refine step (fun t k => XS.goto X25.here hx rfl (pc0 := 140) (pc' := 86) rfl (B d12_140) (by decide) (by decide) k) ?_
  refine step (fun t k => XS.iload X25.here hx rfl (B d12_86) (by rw [hls22]; rfl) k) ?_
  refine step (fun t k => XS.bipush X25.here hx rfl (B d12_88) k) ?_
  show G T25 (mkF m 90 ls22 [(.int (-100)), (.int y10)])
  have ho26 := own_n (b := y10) (by decide : (-100 : Int32).toInt = -100) (by omega)
  refine step (fun t k => XS.icmpNo X25.here hx rfl (B d12_90) rfl (flt ho26).2.2.1 k) ?_
  refine step (fun t k => XS.iload X25.here hx rfl (B d12_93) (by rw [hls22]; rfl) k) ?_
  refine step (fun t k => XS.bipush X25.here hx rfl (B d12_95) k) ?_
  refine step (fun t k => XS.idiv X25.here hx rfl (B d12_97) rfl (by decide) k) ?_
  show G T25 (mkF m 98 ls22 [(.int (y10 / (100 : Int32)))])
  obtain ⟨y27, hy27⟩ := own_ex (y10 / (100 : Int32))
  rw [← hy27]
  have bq28 := own_bq hy27 (by omega)
  obtain ⟨ls29, hls29⟩ := own_sl #[vL q0, s_, vI 6, vR o3, u_, u_, vI r13, vI 4, vI 1, vI y27, vI y10]
  refine step (fun t k => XS.istore X25.here hx rfl (B d12_98) rfl (l' := ls29) (by rw [hls22, hls29]; rfl) k) ?_
  refine step (fun t k => XS.iload X25.here hx rfl (B d12_100) (by rw [hls29]; rfl) k) ?_
  refine step (fun t k => XS.bipush X25.here hx rfl (B d12_102) k) ?_
  refine step (fun t k => XS.imul X25.here hx rfl (B d12_104) rfl k) ?_
  refine step (fun t k => XS.iload X25.here hx rfl (B d12_105) (by rw [hls29]; rfl) k) ?_
  refine step (fun t k => XS.isub X25.here hx rfl (B d12_107) rfl k) ?_
  show G T25 (mkF m 108 ls29 [(.int ((y27 * (100 : Int32)) - y10))])
  obtain ⟨r30, hr30⟩ := own_ex ((y27 * (100 : Int32)) - y10)
  rw [← hr30]
  have br31 := own_br bq28 (by omega) hr30
  have bd32 : -10 < y27.toInt ∧ y27.toInt ≤ 0 := by
    omega
  obtain ⟨ls33, hls33⟩ := own_sl #[vL q0, s_, vI 6, vR o3, u_, u_, vI r30, vI 4, vI 1, vI y27, vI y10]
  refine step (fun t k => XS.istore X25.here hx rfl (B d12_108) rfl (l' := ls33) (by rw [hls29, hls33]; rfl) k) ?_
  refine step (fun t k => XS.iload X25.here hx rfl (B d12_110) (by rw [hls33]; rfl) k) ?_
  obtain ⟨ls34, hls34⟩ := own_sl #[vL q0, s_, vI 6, vR o3, u_, u_, vI r30, vI 4, vI 1, vI y27, vI y27]
  refine step (fun t k => XS.istore X25.here hx rfl (B d12_112) rfl (l' := ls34) (by rw [hls33, hls34]; rfl) k) ?_
  refine step (fun t k => XS.aloadN X25.here hx rfl (B d12_114) (by rw [hls34]; rfl) rfl k) ?_
  obtain ⟨ls35, hls35⟩ := own_sl #[vL q0, s_, vI 6, vR o3, u_, u_, vI r30, vI 3, vI 1, vI y27, vI y27]
  refine step (fun t k => XS.iinc X25.here hx rfl (B d12_115) (by rw [hls34]; rfl) (l' := ls35) (by rw [hls34, hls35]; rfl) k) ?_
  refine step (fun t k => XS.iload X25.here hx rfl (B d12_118) (by rw [hls35]; rfl) k) ?_
  show G T25 (mkF m 120 ls35 [(.int 3), (.ref o3)])
  obtain ⟨T36, X36, e36, st36⟩ := getS2 X25 hx hZ hown (host := "") (Or.inl (ww98 hw)) Via.refl e25 (Sta.ext O25.2 ST.k10) (g := (mkF m 120 ls35 [(.int 3), (.ref o3)])) rfl (B d12_120)
  refine step st36 ?_
  refine step (fun t k => XS.iload X36.here hx rfl (B d12_123) (by rw [hls35]; rfl) k) ?_
  have hj37 := own_hj br31
  obtain ⟨z37, hz37, st37⟩ := own_ldDig X36 hx hZ e36 ST.k23 O25.2 hj37 (g := (mkF m 125 ls35 [(.int r30), (.ref w_5), (.int 3), (.ref o3)])) rfl rfl (B d12_125)
  refine step st37 ?_
  obtain ⟨T38, h38, X38, e38, W38, V38, st38⟩ := own_stB X36 hx hZ e36 V25 (j := (3 : Int32)) (by decide) (i := 3) rfl (by show 3 < 6; decide) (g := (mkF m 126 ls35 [(.int z37), (.int 3), (.ref o3)])) rfl rfl (B d12_126)
  replace V38 : Arv Z h38 o3 kk .byte (6 : Int32) [(.int 0), (.int 0), (.int 0), (.int (nar .byte z37)), (.int (nar .byte z24)), (.int (nar .byte z20))] (.int 0) := V38
  have N38 := Fr.snoc X38 N25 geo
  obtain ⟨lc38, X38, N38⟩ := own_gen X38 N38
  have O38 := O25.wr W38 geo
  have K38 : Keep h0 h38 [o3] := K25.wr W38 (Or.inl (List.mem_of_getElem? (i := 0) rfl))
  refine step st38 ?_
  refine step (fun t k => XS.aloadN X38.here hx rfl (B d12_127) (by rw [hls35]; rfl) rfl k) ?_
  obtain ⟨ls39, hls39⟩ := own_sl #[vL q0, s_, vI 6, vR o3, u_, u_, vI r30, vI 2, vI 1, vI y27, vI y27]
  refine step (fun t k => XS.iinc X38.here hx rfl (B d12_128) (by rw [hls35]; rfl) (l' := ls39) (by rw [hls35, hls39]; rfl) k) ?_
  refine step (fun t k => XS.iload X38.here hx rfl (B d12_131) (by rw [hls39]; rfl) k) ?_
  obtain ⟨T40, X40, e40, st40⟩ := getS2 X38 hx hZ hown (host := "") (Or.inl (ww185 hw)) Via.refl e38 (Sta.ext O38.2 ST.k12) (g := (mkF m 133 ls39 [(.int 2), (.ref o3)])) rfl (B d12_133)
  refine step st40 ?_
  refine step (fun t k => XS.iload X40.here hx rfl (B d12_136) (by rw [hls39]; rfl) k) ?_
  have hj41 := own_hj br31
  obtain ⟨z41, hz41, st41⟩ := own_ldDig X40 hx hZ e40 ST.k24 O38.2 hj41 (g := (mkF m 138 ls39 [(.int r30), (.ref w_6), (.int 2), (.ref o3)])) rfl rfl (B d12_138)
  refine step st41 ?_
  obtain ⟨T42, h42, X42, e42, W42, V42, st42⟩ := own_stB X40 hx hZ e40 V38 (j := (2 : Int32)) (by decide) (i := 2) rfl (by show 2 < 6; decide) (g := (mkF m 139 ls39 [(.int z41), (.int 2), (.ref o3)])) rfl rfl (B d12_139)
  replace V42 : Arv Z h42 o3 kk .byte (6 : Int32) [(.int 0), (.int 0), (.int (nar .byte z41)), (.int (nar .byte z37)), (.int (nar .byte z24)), (.int (nar .byte z20))] (.int 0) := V42
  have N42 := Fr.snoc X42 N38 geo
  obtain ⟨lc42, X42, N42⟩ := own_gen X42 N42
  have O42 := O38.wr W42 geo
  have K42 : Keep h0 h42 [o3] := K38.wr W42 (Or.inl (List.mem_of_getElem? (i := 0) rfl))
  refine step st42 ?_
  refine step (fun t k => XS.goto X42.here hx rfl (pc0 := 140) (pc' := 86) rfl (B d12_140) (by decide) (by decide) k) ?_
  refine step (fun t k => XS.iload X42.here hx rfl (B d12_86) (by rw [hls39]; rfl) k) ?_
  refine step (fun t k => XS.bipush X42.here hx rfl (B d12_88) k) ?_
  show G T42 (mkF m 90 ls39 [(.int (-100)), (.int y27)])
  have ho43 := own_y (b := y27) (by decide : (-100 : Int32).toInt = -100) (by omega)
  refine step (fun t k => XS.icmpYes X42.here hx rfl (pc0 := 90) (pc' := 143) rfl (B d12_90) rfl (tlt ho43).2.2.1 (by decide) (by decide) k) ?_
  refine step (fun t k => XS.aloadN X42.here hx rfl (B d12_143) (by rw [hls39]; rfl) rfl k) ?_
  obtain ⟨ls44, hls44⟩ := own_sl #[vL q0, s_, vI 6, vR o3, u_, u_, vI r30, vI 1, vI 1, vI y27, vI y27]
  refine step (fun t k => XS.iinc X42.here hx rfl (B d12_144) (by rw [hls39]; rfl) (l' := ls44) (by rw [hls39, hls44]; rfl) k) ?_
  refine step (fun t k => XS.iload X42.here hx rfl (B d12_147) (by rw [hls44]; rfl) k) ?_
  obtain ⟨T45, X45, e45, st45⟩ := getS2 X42 hx hZ hown (host := "") (Or.inl (ww98 hw)) Via.refl e42 (Sta.ext O42.2 ST.k10) (g := (mkF m 149 ls44 [(.int 1), (.ref o3)])) rfl (B d12_149)
  refine step st45 ?_
  refine step (fun t k => XS.iload X45.here hx rfl (B d12_152) (by rw [hls44]; rfl) k) ?_
  refine step (fun t k => XS.ineg X45.here hx rfl (B d12_154) rfl k) ?_
  have hj46 := own_hj (own_ng y27 (by omega))
  obtain ⟨z46, hz46, st46⟩ := own_ldDig X45 hx hZ e45 ST.k23 O42.2 hj46 (g := (mkF m 155 ls44 [(.int (-y27)), (.ref w_5), (.int 1), (.ref o3)])) rfl rfl (B d12_155)
  refine step st46 ?_
  obtain ⟨T47, h47, X47, e47, W47, V47, st47⟩ := own_stB X45 hx hZ e45 V42 (j := (1 : Int32)) (by decide) (i := 1) rfl (by show 1 < 6; decide) (g := (mkF m 156 ls44 [(.int z46), (.int 1), (.ref o3)])) rfl rfl (B d12_156)
  replace V47 : Arv Z h47 o3 kk .byte (6 : Int32) [(.int 0), (.int (nar .byte z46)), (.int (nar .byte z41)), (.int (nar .byte z37)), (.int (nar .byte z24)), (.int (nar .byte z20))] (.int 0) := V47
  have N47 := Fr.snoc X47 N42 geo
  obtain ⟨lc47, X47, N47⟩ := own_gen X47 N47
  have K47 : Keep h0 h47 [o3] := K42.wr W47 (Or.inl (List.mem_of_getElem? (i := 0) rfl))
  refine step st47 ?_
  refine step (fun t k => XS.iload X47.here hx rfl (B d12_157) (by rw [hls44]; rfl) k) ?_
  refine step (fun t k => XS.bipush X47.here hx rfl (B d12_159) k) ?_
  show G T47 (mkF m 161 ls44 [(.int (-9)), (.int y27)])
  have ho48 := own_nr (b := y27) (by decide : (-9 : Int32).toInt = -9) (by omega)
  refine step (fun t k => XS.icmpYes X47.here hx rfl (pc0 := 161) (pc' := 178) rfl (B d12_161) rfl (flt ho48).2.1 (by decide) (by decide) k) ?_
  refine step (fun t k => XS.iload X47.here hx rfl (B d12_178) (by rw [hls44]; rfl) k) ?_
  refine step (fun t k => XS.ifNo X47.here hx rfl (B d12_180) rfl ((if0 _ _).trans (feq (by decide : ¬ ((1 : Int32) = (0 : Int32)))).1) k) ?_
  refine step (fun t k => XS.aloadN X47.here hx rfl (B d12_183) (by rw [hls44]; rfl) rfl k) ?_
  obtain ⟨ls49, hls49⟩ := own_sl #[vL q0, s_, vI 6, vR o3, u_, u_, vI r30, vI 0, vI 1, vI y27, vI y27]
  refine step (fun t k => XS.iinc X47.here hx rfl (B d12_184) (by rw [hls44]; rfl) (l' := ls49) (by rw [hls44, hls49]; rfl) k) ?_
  refine step (fun t k => XS.iload X47.here hx rfl (B d12_187) (by rw [hls49]; rfl) k) ?_
  show G T47 (mkF m 189 ls49 [(.int 0), (.ref o3)])
  refine step (fun t k => XS.bipush X47.here hx rfl (B d12_189) k) ?_
  show G T47 (mkF m 191 ls49 [(.int 45), (.int 0), (.ref o3)])
  obtain ⟨T50, h50, X50, e50, W50, V50, st50⟩ := own_stB X47 hx hZ e47 V47 (j := (0 : Int32)) (by decide) (i := 0) rfl (by show 0 < 6; decide) (g := (mkF m 191 ls49 [(.int 45), (.int 0), (.ref o3)])) rfl rfl (B d12_191)
  replace V50 : Arv Z h50 o3 kk .byte (6 : Int32) [(.int (nar .byte (45 : Int32))), (.int (nar .byte z46)), (.int (nar .byte z41)), (.int (nar .byte z37)), (.int (nar .byte z24)), (.int (nar .byte z20))] (.int 0) := V50
  have N50 := Fr.snoc X50 N47 geo
  obtain ⟨lc50, X50, N50⟩ := own_gen X50 N50
  have K50 : Keep h0 h50 [o3] := K47.wr W50 (Or.inl (List.mem_of_getElem? (i := 0) rfl))
  refine step st50 ?_
  refine step (fun t k => XS.iload X50.here hx rfl (B d12_192) (by rw [hls49]; rfl) k) ?_
  exact ret (v := some (.int 0)) X50 (fun h => by rw [Bd.returns] at h; cases h) (fun fs hr => retI X50 hx Bd.returns (B d12_194) hr) e50 ⟨(nar .byte (45 : Int32)), (nar .byte z46), (nar .byte z41), (nar .byte z37), (nar .byte z24), (nar .byte z20), rfl, N50, K50, V50, hz20⟩ (by decide) (by decide)
abbrev rr_gc6p : Room := { frames := 0, cells := 0, slots := 0, locals := 0 }
theorem ef_gc6p (m : MethodId) (q0 : Int64) (o3 : Addr) : entryFrame m #[(.long q0), (.int 6), (.ref o3)] 11 = mkF m 0 #[vL q0, s_, vI 6, vR o3, u_, u_, u_, u_, u_, u_, u_] [] := by first | (simp [entryFrame, mkF, argsToLocals, Value.category]; done) | rfl
def Q_gc6p (Z : State) (w_0 : Addr) (w_1 : Addr) (w_2 : Addr) (w_3 : Addr) (w_4 : Addr) (w_5 : Addr) (w_6 : Addr) (w_7 : Int32) (w_8 : Value) (q0 : Int64) (o3 : Addr) (kk : ClassId) (h0 : Heap) (n0 : Nat) (v : Option Value) (h : Heap) (L : List Loc) : Prop := ∃ c0 : Int32, ∃ c1 : Int32, ∃ c2 : Int32, ∃ c3 : Int32, ∃ c4 : Int32, ∃ c5 : Int32, v = some (.int 0) ∧ Fr n0 L ∧ Keep h0 h [o3] ∧ Arv Z h o3 kk .byte (6 : Int32) [(.int c0), (.int c1), (.int c2), (.int c3), (.int c4), (.int c5)] (.int 0) ∧ ¬ (c5 &&& (255 : Int32)) = (32 : Int32)
theorem rm_gc6p (l : Launch) (Z : State) (a0 : Array Value) (hw : HW Z a0) (ws : List Jvm.Cond) (w_0 : Addr) (w_1 : Addr) (w_2 : Addr) (w_3 : Addr) (w_4 : Addr) (w_5 : Addr) (w_6 : Addr) (w_7 : Int32) (w_8 : Value) (q0 : Int64) (o3 : Addr) (kk : ClassId) (h0 : Heap) (n0 : Nat) (Z0 : n0 ≤ h0.size) (ST : own_St Z w_0 w_1 w_2 w_3 w_4 w_5 w_6 w_7 w_8) (O0 : Old Z n0 h0) (hrg : -2147483648 ≤ q0.toInt ∧ q0.toInt ≤ 2147483647) (hsg : ¬ (q0 < (0 : Int64))) (hlo : (-1000000 : Int64) < (-q0)) (hhi : ¬ ((-100000 : Int64) < (-q0))) (Va : Arv Z h0 o3 kk .byte (6 : Int32) [(.int 0), (.int 0), (.int 0), (.int 0), (.int 0), (.int 0)] (.int 0)) (geo : n0 ≤ o3) :
    MetFree l y_12 (head1 (Jvm.Cond.code y_12 jdk_35_method_14_code 11 (some .int) :: ws) rr_gc6p) (fun a U => a = #[(.long q0), (.int 6), (.ref o3)] ∧ Z.Warmed39 U.vm ∧ U.heap = h0) (fun _ _ _ _ _ => True) (fun _ U o U' => ∃ v L, o = .returned v ∧ Q_gc6p Z w_0 w_1 w_2 w_3 w_4 w_5 w_6 w_7 w_8 q0 o3 kk h0 n0 v U'.heap L ∧ FrameEnd U o U' L rr_gc6p.cells rr_gc6p.slots) := by
  refine MetFree.of_bodySF (plainFor_of_name pn_5) hisR ?_
  intro p e s m args below meth c s₁ Bd hml0 hP hK
  obtain ⟨rfl, hZ, hh⟩ := hP
  have hx := Bd.exec
  have hby := Bd.bytes
  have B := @hb _ _ hby
  have hml : c.maxLocals = 11 := hml0
  have hown : s.vm.findClass cn_3 = some m.cls := findClass_of_methodNamed Bd.named
  have X0 : Stand p l e rr_gc6p s m #[(.long q0), (.int 6), (.ref o3)] below meth c s₁ [] 0 0 := Stand.of_body Bd
  have e0 : s₁.heap = h0 := by rw [← hh, Bd.state]; rfl
  have N0 := Fr.nil n0
  have K0 : Keep h0 h0 [o3] := Keep.refl _ _
  obtain ⟨G, step, ret, fin⟩ := own_openX X0 (rr_gc6p.cells) (rr_gc6p.slots) (Q_gc6p Z w_0 w_1 w_2 w_3 w_4 w_5 w_6 w_7 w_8 q0 o3 kk h0 n0) Bd.notSynchronized
  refine fin (g := entryFrame m #[(.long q0), (.int 6), (.ref o3)] 11) ?_
  rw [ef_gc6p m q0 o3]
  obtain ⟨ls0, hls0⟩ := own_sl #[vL q0, s_, vI 6, vR o3, u_, u_, u_, u_, u_, u_, u_]
  suffices hG0 : G s₁ (mkF m 0 ls0 []) by rw [hls0] at hG0; exact hG0
  refine step (fun t k => XS.iloadN X0.here hx rfl (B d12_0) (by rw [hls0]; rfl) k) ?_
  obtain ⟨ls1, hls1⟩ := own_sl #[vL q0, s_, vI 6, vR o3, u_, u_, u_, vI 6, u_, u_, u_]
  refine step (fun t k => XS.istore X0.here hx rfl (B d12_1) rfl (l' := ls1) (by rw [hls0, hls1]; rfl) k) ?_
  refine step (fun t k => XS.lloadN X0.here hx rfl (B d12_3) (by rw [hls1]; rfl) k) ?_
  refine step (fun t k => XS.lconst X0.here hx rfl (B d12_4) k) ?_
  refine step (fun t k => XS.lcmp X0.here hx rfl (B d12_5) rfl k) ?_
  refine step (fun t k => XS.ifYes X0.here hx rfl (pc0 := 6) (pc' := 13) rfl (B d12_6) rfl ((if0 _ _).trans (flt (fun q => hsg ((lw_lt _ _).mp q))).2.1) (by decide) (by decide) k) ?_
  show G s₁ (mkF m 13 ls1 [])
  refine step (fun t k => XS.iconst X0.here hx rfl (B d12_13) k) ?_
  obtain ⟨ls2, hls2⟩ := own_sl #[vL q0, s_, vI 6, vR o3, u_, u_, u_, vI 6, vI 0, u_, u_]
  refine step (fun t k => XS.istore X0.here hx rfl (B d12_14) rfl (l' := ls2) (by rw [hls1, hls2]; rfl) k) ?_
  refine step (fun t k => XS.iload X0.here hx rfl (B d12_16) (by rw [hls2]; rfl) k) ?_
  refine step (fun t k => XS.ifNo X0.here hx rfl (B d12_18) rfl ((if0 _ _).trans (teq (by decide : (0 : Int32) = (0 : Int32))).2) k) ?_
  refine step (fun t k => XS.lloadN X0.here hx rfl (B d12_21) (by rw [hls2]; rfl) k) ?_
  refine step (fun t k => XS.lneg X0.here hx rfl (B d12_22) rfl k) ?_
  show G s₁ (mkF m 23 ls2 [(.long (-q0))])
  obtain ⟨x0, hx0⟩ : ∃ z : Int64, z = (-q0) := ⟨_, rfl⟩
  rw [← hx0]
  have bd3 : -1000000 < x0.toInt ∧ x0.toInt ≤ -100000 := by
    rw [hx0]
    have c1 := c_lneg q0
    have r1 := rng64 (-q0)
    have k0 : (0 : Int64).toInt = 0 := by decide
    rw [own_xltL] at hsg
    have k1 : (-1000000 : Int64).toInt = -1000000 := by decide
    rw [own_xltL] at hlo
    have k2 : (-100000 : Int64).toInt = -100000 := by decide
    rw [own_xltL] at hhi
    omega
  obtain ⟨ls4, hls4⟩ := own_sl #[vL x0, s_, vI 6, vR o3, u_, u_, u_, vI 6, vI 0, u_, u_]
  refine step (fun t k => XS.lstoreN X0.here hx rfl (B d12_23) rfl (l' := ls4) (by rw [hls2, hls4]; rfl) k) ?_
  refine step (fun t k => XS.lloadN X0.here hx rfl (B d12_24) (by rw [hls4]; rfl) k) ?_
  have q5 := X0.ldc2Long hx hown (mvT hZ (ww97 hw)) (g := (mkF m 25 ls4 [(.long x0)])) rfl (B d12_25)
  refine step q5 ?_
  refine step (fun t k => XS.lcmp X0.here hx rfl (B d12_28) rfl k) ?_
  have ho6 := own_yL (b := x0) (by decide : (-2147483648 : Int64).toInt = -2147483648) (by omega)
  refine step (fun t k => XS.ifYes X0.here hx rfl (pc0 := 29) (pc' := 82) rfl (B d12_29) rfl ((if0 _ _).trans (tlt ((lw_gt _ _).mpr ho6)).2.2.1) (by decide) (by decide) k) ?_
  refine step (fun t k => XS.lloadN X0.here hx rfl (B d12_82) (by rw [hls4]; rfl) k) ?_
  refine step (fun t k => XS.l2i X0.here hx rfl (B d12_83) rfl k) ?_
  show G s₁ (mkF m 84 ls4 [(.int (x0.toInt32))])
  obtain ⟨y7, hy7⟩ := own_ex (x0.toInt32)
  rw [← hy7]
  have bd8 : -1000000 < y7.toInt ∧ y7.toInt ≤ -100000 := by
    rw [hy7]
    have c1 := c_l2i x0
    have r1 := rng32 x0.toInt32
    omega
  obtain ⟨ls9, hls9⟩ := own_sl #[vL x0, s_, vI 6, vR o3, u_, u_, u_, vI 6, vI 0, u_, vI y7]
  refine step (fun t k => XS.istore X0.here hx rfl (B d12_84) rfl (l' := ls9) (by rw [hls4, hls9]; rfl) k) ?_
  refine step (fun t k => XS.iload X0.here hx rfl (B d12_86) (by rw [hls9]; rfl) k) ?_
  refine step (fun t k => XS.bipush X0.here hx rfl (B d12_88) k) ?_
  show G s₁ (mkF m 90 ls9 [(.int (-100)), (.int y7)])
  have ho10 := own_n (b := y7) (by decide : (-100 : Int32).toInt = -100) (by omega)
  refine step (fun t k => XS.icmpNo X0.here hx rfl (B d12_90) rfl (flt ho10).2.2.1 k) ?_
  refine step (fun t k => XS.iload X0.here hx rfl (B d12_93) (by rw [hls9]; rfl) k) ?_
  refine step (fun t k => XS.bipush X0.here hx rfl (B d12_95) k) ?_
  refine step (fun t k => XS.idiv X0.here hx rfl (B d12_97) rfl (by decide) k) ?_
  show G s₁ (mkF m 98 ls9 [(.int (y7 / (100 : Int32)))])
  obtain ⟨y11, hy11⟩ := own_ex (y7 / (100 : Int32))
  rw [← hy11]
  have bq12 := own_bq hy11 (by omega)
  obtain ⟨ls13, hls13⟩ := own_sl #[vL x0, s_, vI 6, vR o3, u_, u_, u_, vI 6, vI 0, vI y11, vI y7]
  refine step (fun t k => XS.istore X0.here hx rfl (B d12_98) rfl (l' := ls13) (by rw [hls9, hls13]; rfl) k) ?_
  refine step (fun t k => XS.iload X0.here hx rfl (B d12_100) (by rw [hls13]; rfl) k) ?_
  refine step (fun t k => XS.bipush X0.here hx rfl (B d12_102) k) ?_
  refine step (fun t k => XS.imul X0.here hx rfl (B d12_104) rfl k) ?_
  refine step (fun t k => XS.iload X0.here hx rfl (B d12_105) (by rw [hls13]; rfl) k) ?_
  refine step (fun t k => XS.isub X0.here hx rfl (B d12_107) rfl k) ?_
  show G s₁ (mkF m 108 ls13 [(.int ((y11 * (100 : Int32)) - y7))])
  obtain ⟨r14, hr14⟩ := own_ex ((y11 * (100 : Int32)) - y7)
  rw [← hr14]
  have br15 := own_br bq12 (by omega) hr14
  have bd16 : -10000 < y11.toInt ∧ y11.toInt ≤ -1000 := by
    omega
  obtain ⟨ls17, hls17⟩ := own_sl #[vL x0, s_, vI 6, vR o3, u_, u_, vI r14, vI 6, vI 0, vI y11, vI y7]
  refine step (fun t k => XS.istore X0.here hx rfl (B d12_108) rfl (l' := ls17) (by rw [hls13, hls17]; rfl) k) ?_
  refine step (fun t k => XS.iload X0.here hx rfl (B d12_110) (by rw [hls17]; rfl) k) ?_
  obtain ⟨ls18, hls18⟩ := own_sl #[vL x0, s_, vI 6, vR o3, u_, u_, vI r14, vI 6, vI 0, vI y11, vI y11]
  refine step (fun t k => XS.istore X0.here hx rfl (B d12_112) rfl (l' := ls18) (by rw [hls17, hls18]; rfl) k) ?_
  refine step (fun t k => XS.aloadN X0.here hx rfl (B d12_114) (by rw [hls18]; rfl) rfl k) ?_
  obtain ⟨ls19, hls19⟩ := own_sl #[vL x0, s_, vI 6, vR o3, u_, u_, vI r14, vI 5, vI 0, vI y11, vI y11]
  refine step (fun t k => XS.iinc X0.here hx rfl (B d12_115) (by rw [hls18]; rfl) (l' := ls19) (by rw [hls18, hls19]; rfl) k) ?_
  refine step (fun t k => XS.iload X0.here hx rfl (B d12_118) (by rw [hls19]; rfl) k) ?_
  show G s₁ (mkF m 120 ls19 [(.int 5), (.ref o3)])
  obtain ⟨T20, X20, e20, st20⟩ := getS2 X0 hx hZ hown (host := "") (Or.inl (ww98 hw)) Via.refl e0 (Sta.ext O0.2 ST.k10) (g := (mkF m 120 ls19 [(.int 5), (.ref o3)])) rfl (B d12_120)
  refine step st20 ?_
  refine step (fun t k => XS.iload X20.here hx rfl (B d12_123) (by rw [hls19]; rfl) k) ?_
  have hj21 := own_hj br15
  obtain ⟨z21, hz21, st21⟩ := own_ldDig X20 hx hZ e20 ST.k23 O0.2 hj21 (g := (mkF m 125 ls19 [(.int r14), (.ref w_5), (.int 5), (.ref o3)])) rfl rfl (B d12_125)
  refine step st21 ?_
  obtain ⟨T22, h22, X22, e22, W22, V22, st22⟩ := own_stB X20 hx hZ e20 Va (j := (5 : Int32)) (by decide) (i := 5) rfl (by show 5 < 6; decide) (g := (mkF m 126 ls19 [(.int z21), (.int 5), (.ref o3)])) rfl rfl (B d12_126)
  replace V22 : Arv Z h22 o3 kk .byte (6 : Int32) [(.int 0), (.int 0), (.int 0), (.int 0), (.int 0), (.int (nar .byte z21))] (.int 0) := V22
  have N22 := Fr.snoc X22 N0 geo
  obtain ⟨lc22, X22, N22⟩ := own_gen X22 N22
  have O22 := O0.wr W22 geo
  have K22 : Keep h0 h22 [o3] := K0.wr W22 (Or.inl (List.mem_of_getElem? (i := 0) rfl))
  refine step st22 ?_
  refine step (fun t k => XS.aloadN X22.here hx rfl (B d12_127) (by rw [hls19]; rfl) rfl k) ?_
  obtain ⟨ls23, hls23⟩ := own_sl #[vL x0, s_, vI 6, vR o3, u_, u_, vI r14, vI 4, vI 0, vI y11, vI y11]
  refine step (fun t k => XS.iinc X22.here hx rfl (B d12_128) (by rw [hls19]; rfl) (l' := ls23) (by rw [hls19, hls23]; rfl) k) ?_
  refine step (fun t k => XS.iload X22.here hx rfl (B d12_131) (by rw [hls23]; rfl) k) ?_
  obtain ⟨T24, X24, e24, st24⟩ := getS2 X22 hx hZ hown (host := "") (Or.inl (ww185 hw)) Via.refl e22 (Sta.ext O22.2 ST.k12) (g := (mkF m 133 ls23 [(.int 4), (.ref o3)])) rfl (B d12_133)
  refine step st24 ?_
  refine step (fun t k => XS.iload X24.here hx rfl (B d12_136) (by rw [hls23]; rfl) k) ?_
  have hj25 := own_hj br15
  obtain ⟨z25, hz25, st25⟩ := own_ldDig X24 hx hZ e24 ST.k24 O22.2 hj25 (g := (mkF m 138 ls23 [(.int r14), (.ref w_6), (.int 4), (.ref o3)])) rfl rfl (B d12_138)
  refine step st25 ?_
  obtain ⟨T26, h26, X26, e26, W26, V26, st26⟩ := own_stB X24 hx hZ e24 V22 (j := (4 : Int32)) (by decide) (i := 4) rfl (by show 4 < 6; decide) (g := (mkF m 139 ls23 [(.int z25), (.int 4), (.ref o3)])) rfl rfl (B d12_139)
  replace V26 : Arv Z h26 o3 kk .byte (6 : Int32) [(.int 0), (.int 0), (.int 0), (.int 0), (.int (nar .byte z25)), (.int (nar .byte z21))] (.int 0) := V26
  have N26 := Fr.snoc X26 N22 geo
  obtain ⟨lc26, X26, N26⟩ := own_gen X26 N26
  have O26 := O22.wr W26 geo
  have K26 : Keep h0 h26 [o3] := K22.wr W26 (Or.inl (List.mem_of_getElem? (i := 0) rfl))
  refine step st26 ?_
  refine step (fun t k => XS.goto X26.here hx rfl (pc0 := 140) (pc' := 86) rfl (B d12_140) (by decide) (by decide) k) ?_
  refine step (fun t k => XS.iload X26.here hx rfl (B d12_86) (by rw [hls23]; rfl) k) ?_
  refine step (fun t k => XS.bipush X26.here hx rfl (B d12_88) k) ?_
  show G T26 (mkF m 90 ls23 [(.int (-100)), (.int y11)])
  have ho27 := own_n (b := y11) (by decide : (-100 : Int32).toInt = -100) (by omega)
  refine step (fun t k => XS.icmpNo X26.here hx rfl (B d12_90) rfl (flt ho27).2.2.1 k) ?_
  refine step (fun t k => XS.iload X26.here hx rfl (B d12_93) (by rw [hls23]; rfl) k) ?_
  refine step (fun t k => XS.bipush X26.here hx rfl (B d12_95) k) ?_
  refine step (fun t k => XS.idiv X26.here hx rfl (B d12_97) rfl (by decide) k) ?_
  show G T26 (mkF m 98 ls23 [(.int (y11 / (100 : Int32)))])
  obtain ⟨y28, hy28⟩ := own_ex (y11 / (100 : Int32))
  rw [← hy28]
  have bq29 := own_bq hy28 (by omega)
  obtain ⟨ls30, hls30⟩ := own_sl #[vL x0, s_, vI 6, vR o3, u_, u_, vI r14, vI 4, vI 0, vI y28, vI y11]
  refine step (fun t k => XS.istore X26.here hx rfl (B d12_98) rfl (l' := ls30) (by rw [hls23, hls30]; rfl) k) ?_
  refine step (fun t k => XS.iload X26.here hx rfl (B d12_100) (by rw [hls30]; rfl) k) ?_
  refine step (fun t k => XS.bipush X26.here hx rfl (B d12_102) k) ?_
  refine step (fun t k => XS.imul X26.here hx rfl (B d12_104) rfl k) ?_
  refine step (fun t k => XS.iload X26.here hx rfl (B d12_105) (by rw [hls30]; rfl) k) ?_
  refine step (fun t k => XS.isub X26.here hx rfl (B d12_107) rfl k) ?_
  show G T26 (mkF m 108 ls30 [(.int ((y28 * (100 : Int32)) - y11))])
  obtain ⟨r31, hr31⟩ := own_ex ((y28 * (100 : Int32)) - y11)
  rw [← hr31]
  have br32 := own_br bq29 (by omega) hr31
  have bd33 : -100 < y28.toInt ∧ y28.toInt ≤ -10 := by
    omega
  obtain ⟨ls34, hls34⟩ := own_sl #[vL x0, s_, vI 6, vR o3, u_, u_, vI r31, vI 4, vI 0, vI y28, vI y11]
  refine step (fun t k => XS.istore X26.here hx rfl (B d12_108) rfl (l' := ls34) (by rw [hls30, hls34]; rfl) k) ?_
  refine step (fun t k => XS.iload X26.here hx rfl (B d12_110) (by rw [hls34]; rfl) k) ?_
  obtain ⟨ls35, hls35⟩ := own_sl #[vL x0, s_, vI 6, vR o3, u_, u_, vI r31, vI 4, vI 0, vI y28, vI y28]
  refine step (fun t k => XS.istore X26.here hx rfl (B d12_112) rfl (l' := ls35) (by rw [hls34, hls35]; rfl) k) ?_
  refine step (fun t k => XS.aloadN X26.here hx rfl (B d12_114) (by rw [hls35]; rfl) rfl k) ?_
  obtain ⟨ls36, hls36⟩ := own_sl #[vL x0, s_, vI 6, vR o3, u_, u_, vI r31, vI 3, vI 0, vI y28, vI y28]
  refine step (fun t k => XS.iinc X26.here hx rfl (B d12_115) (by rw [hls35]; rfl) (l' := ls36) (by rw [hls35, hls36]; rfl) k) ?_
  refine step (fun t k => XS.iload X26.here hx rfl (B d12_118) (by rw [hls36]; rfl) k) ?_
  show G T26 (mkF m 120 ls36 [(.int 3), (.ref o3)])
  obtain ⟨T37, X37, e37, st37⟩ := getS2 X26 hx hZ hown (host := "") (Or.inl (ww98 hw)) Via.refl e26 (Sta.ext O26.2 ST.k10) (g := (mkF m 120 ls36 [(.int 3), (.ref o3)])) rfl (B d12_120)
  refine step st37 ?_
  refine step (fun t k => XS.iload X37.here hx rfl (B d12_123) (by rw [hls36]; rfl) k) ?_
  have hj38 := own_hj br32
  obtain ⟨z38, hz38, st38⟩ := own_ldDig X37 hx hZ e37 ST.k23 O26.2 hj38 (g := (mkF m 125 ls36 [(.int r31), (.ref w_5), (.int 3), (.ref o3)])) rfl rfl (B d12_125)
  refine step st38 ?_
  obtain ⟨T39, h39, X39, e39, W39, V39, st39⟩ := own_stB X37 hx hZ e37 V26 (j := (3 : Int32)) (by decide) (i := 3) rfl (by show 3 < 6; decide) (g := (mkF m 126 ls36 [(.int z38), (.int 3), (.ref o3)])) rfl rfl (B d12_126)
  replace V39 : Arv Z h39 o3 kk .byte (6 : Int32) [(.int 0), (.int 0), (.int 0), (.int (nar .byte z38)), (.int (nar .byte z25)), (.int (nar .byte z21))] (.int 0) := V39
  have N39 := Fr.snoc X39 N26 geo
  obtain ⟨lc39, X39, N39⟩ := own_gen X39 N39
  have O39 := O26.wr W39 geo
  have K39 : Keep h0 h39 [o3] := K26.wr W39 (Or.inl (List.mem_of_getElem? (i := 0) rfl))
  refine step st39 ?_
  refine step (fun t k => XS.aloadN X39.here hx rfl (B d12_127) (by rw [hls36]; rfl) rfl k) ?_
  obtain ⟨ls40, hls40⟩ := own_sl #[vL x0, s_, vI 6, vR o3, u_, u_, vI r31, vI 2, vI 0, vI y28, vI y28]
  refine step (fun t k => XS.iinc X39.here hx rfl (B d12_128) (by rw [hls36]; rfl) (l' := ls40) (by rw [hls36, hls40]; rfl) k) ?_
  refine step (fun t k => XS.iload X39.here hx rfl (B d12_131) (by rw [hls40]; rfl) k) ?_
  obtain ⟨T41, X41, e41, st41⟩ := getS2 X39 hx hZ hown (host := "") (Or.inl (ww185 hw)) Via.refl e39 (Sta.ext O39.2 ST.k12) (g := (mkF m 133 ls40 [(.int 2), (.ref o3)])) rfl (B d12_133)
  refine step st41 ?_
  refine step (fun t k => XS.iload X41.here hx rfl (B d12_136) (by rw [hls40]; rfl) k) ?_
  have hj42 := own_hj br32
  obtain ⟨z42, hz42, st42⟩ := own_ldDig X41 hx hZ e41 ST.k24 O39.2 hj42 (g := (mkF m 138 ls40 [(.int r31), (.ref w_6), (.int 2), (.ref o3)])) rfl rfl (B d12_138)
  refine step st42 ?_
  obtain ⟨T43, h43, X43, e43, W43, V43, st43⟩ := own_stB X41 hx hZ e41 V39 (j := (2 : Int32)) (by decide) (i := 2) rfl (by show 2 < 6; decide) (g := (mkF m 139 ls40 [(.int z42), (.int 2), (.ref o3)])) rfl rfl (B d12_139)
  replace V43 : Arv Z h43 o3 kk .byte (6 : Int32) [(.int 0), (.int 0), (.int (nar .byte z42)), (.int (nar .byte z38)), (.int (nar .byte z25)), (.int (nar .byte z21))] (.int 0) := V43
  have N43 := Fr.snoc X43 N39 geo
  obtain ⟨lc43, X43, N43⟩ := own_gen X43 N43
  have O43 := O39.wr W43 geo
  have K43 : Keep h0 h43 [o3] := K39.wr W43 (Or.inl (List.mem_of_getElem? (i := 0) rfl))
  refine step st43 ?_
  refine step (fun t k => XS.goto X43.here hx rfl (pc0 := 140) (pc' := 86) rfl (B d12_140) (by decide) (by decide) k) ?_
  refine step (fun t k => XS.iload X43.here hx rfl (B d12_86) (by rw [hls40]; rfl) k) ?_
  refine step (fun t k => XS.bipush X43.here hx rfl (B d12_88) k) ?_
  show G T43 (mkF m 90 ls40 [(.int (-100)), (.int y28)])
  have ho44 := own_y (b := y28) (by decide : (-100 : Int32).toInt = -100) (by omega)
  refine step (fun t k => XS.icmpYes X43.here hx rfl (pc0 := 90) (pc' := 143) rfl (B d12_90) rfl (tlt ho44).2.2.1 (by decide) (by decide) k) ?_
  refine step (fun t k => XS.aloadN X43.here hx rfl (B d12_143) (by rw [hls40]; rfl) rfl k) ?_
  obtain ⟨ls45, hls45⟩ := own_sl #[vL x0, s_, vI 6, vR o3, u_, u_, vI r31, vI 1, vI 0, vI y28, vI y28]
  refine step (fun t k => XS.iinc X43.here hx rfl (B d12_144) (by rw [hls40]; rfl) (l' := ls45) (by rw [hls40, hls45]; rfl) k) ?_
  refine step (fun t k => XS.iload X43.here hx rfl (B d12_147) (by rw [hls45]; rfl) k) ?_
  obtain ⟨T46, X46, e46, st46⟩ := getS2 X43 hx hZ hown (host := "") (Or.inl (ww98 hw)) Via.refl e43 (Sta.ext O43.2 ST.k10) (g := (mkF m 149 ls45 [(.int 1), (.ref o3)])) rfl (B d12_149)
  refine step st46 ?_
  refine step (fun t k => XS.iload X46.here hx rfl (B d12_152) (by rw [hls45]; rfl) k) ?_
  refine step (fun t k => XS.ineg X46.here hx rfl (B d12_154) rfl k) ?_
  have hj47 := own_hj (own_ng y28 (by omega))
  obtain ⟨z47, hz47, st47⟩ := own_ldDig X46 hx hZ e46 ST.k23 O43.2 hj47 (g := (mkF m 155 ls45 [(.int (-y28)), (.ref w_5), (.int 1), (.ref o3)])) rfl rfl (B d12_155)
  refine step st47 ?_
  obtain ⟨T48, h48, X48, e48, W48, V48, st48⟩ := own_stB X46 hx hZ e46 V43 (j := (1 : Int32)) (by decide) (i := 1) rfl (by show 1 < 6; decide) (g := (mkF m 156 ls45 [(.int z47), (.int 1), (.ref o3)])) rfl rfl (B d12_156)
  replace V48 : Arv Z h48 o3 kk .byte (6 : Int32) [(.int 0), (.int (nar .byte z47)), (.int (nar .byte z42)), (.int (nar .byte z38)), (.int (nar .byte z25)), (.int (nar .byte z21))] (.int 0) := V48
  have N48 := Fr.snoc X48 N43 geo
  obtain ⟨lc48, X48, N48⟩ := own_gen X48 N48
  have O48 := O43.wr W48 geo
  have K48 : Keep h0 h48 [o3] := K43.wr W48 (Or.inl (List.mem_of_getElem? (i := 0) rfl))
  refine step st48 ?_
  refine step (fun t k => XS.iload X48.here hx rfl (B d12_157) (by rw [hls45]; rfl) k) ?_
  refine step (fun t k => XS.bipush X48.here hx rfl (B d12_159) k) ?_
  show G T48 (mkF m 161 ls45 [(.int (-9)), (.int y28)])
  have ho49 := own_yr (b := y28) (by decide : (-9 : Int32).toInt = -9) (by omega)
  refine step (fun t k => XS.icmpNo X48.here hx rfl (B d12_161) rfl (tlt ho49).2.1 k) ?_
  refine step (fun t k => XS.aloadN X48.here hx rfl (B d12_164) (by rw [hls45]; rfl) rfl k) ?_
  obtain ⟨ls50, hls50⟩ := own_sl #[vL x0, s_, vI 6, vR o3, u_, u_, vI r31, vI 0, vI 0, vI y28, vI y28]
  refine step (fun t k => XS.iinc X48.here hx rfl (B d12_165) (by rw [hls45]; rfl) (l' := ls50) (by rw [hls45, hls50]; rfl) k) ?_
  refine step (fun t k => XS.iload X48.here hx rfl (B d12_168) (by rw [hls50]; rfl) k) ?_
  obtain ⟨T51, X51, e51, st51⟩ := getS2 X48 hx hZ hown (host := "") (Or.inl (ww185 hw)) Via.refl e48 (Sta.ext O48.2 ST.k12) (g := (mkF m 170 ls50 [(.int 0), (.ref o3)])) rfl (B d12_170)
  refine step st51 ?_
  refine step (fun t k => XS.iload X51.here hx rfl (B d12_173) (by rw [hls50]; rfl) k) ?_
  refine step (fun t k => XS.ineg X51.here hx rfl (B d12_175) rfl k) ?_
  have hj52 := own_hj (own_ng y28 (by omega))
  obtain ⟨z52, hz52, st52⟩ := own_ldDig X51 hx hZ e51 ST.k24 O48.2 hj52 (g := (mkF m 176 ls50 [(.int (-y28)), (.ref w_6), (.int 0), (.ref o3)])) rfl rfl (B d12_176)
  refine step st52 ?_
  obtain ⟨T53, h53, X53, e53, W53, V53, st53⟩ := own_stB X51 hx hZ e51 V48 (j := (0 : Int32)) (by decide) (i := 0) rfl (by show 0 < 6; decide) (g := (mkF m 177 ls50 [(.int z52), (.int 0), (.ref o3)])) rfl rfl (B d12_177)
  replace V53 : Arv Z h53 o3 kk .byte (6 : Int32) [(.int (nar .byte z52)), (.int (nar .byte z47)), (.int (nar .byte z42)), (.int (nar .byte z38)), (.int (nar .byte z25)), (.int (nar .byte z21))] (.int 0) := V53
  have N53 := Fr.snoc X53 N48 geo
  obtain ⟨lc53, X53, N53⟩ := own_gen X53 N53
  have K53 : Keep h0 h53 [o3] := K48.wr W53 (Or.inl (List.mem_of_getElem? (i := 0) rfl))
  refine step st53 ?_
  refine step (fun t k => XS.iload X53.here hx rfl (B d12_178) (by rw [hls50]; rfl) k) ?_
  refine step (fun t k => XS.ifYes X53.here hx rfl (pc0 := 180) (pc' := 192) rfl (B d12_180) rfl ((if0 _ _).trans (teq (by decide : (0 : Int32) = (0 : Int32))).1) (by decide) (by decide) k) ?_
  refine step (fun t k => XS.iload X53.here hx rfl (B d12_192) (by rw [hls50]; rfl) k) ?_
  exact ret (v := some (.int 0)) X53 (fun h => by rw [Bd.returns] at h; cases h) (fun fs hr => retI X53 hx Bd.returns (B d12_194) hr) e53 ⟨(nar .byte z52), (nar .byte z47), (nar .byte z42), (nar .byte z38), (nar .byte z25), (nar .byte z21), rfl, N53, K53, V53, hz21⟩ (by decide) (by decide)
abbrev rr_gc6n : Room := { frames := 0, cells := 0, slots := 0, locals := 0 }
theorem ef_gc6n (m : MethodId) (q0 : Int64) (o3 : Addr) : entryFrame m #[(.long q0), (.int 7), (.ref o3)] 11 = mkF m 0 #[vL q0, s_, vI 7, vR o3, u_, u_, u_, u_, u_, u_, u_] [] := by first | (simp [entryFrame, mkF, argsToLocals, Value.category]; done) | rfl
def Q_gc6n (Z : State) (w_0 : Addr) (w_1 : Addr) (w_2 : Addr) (w_3 : Addr) (w_4 : Addr) (w_5 : Addr) (w_6 : Addr) (w_7 : Int32) (w_8 : Value) (q0 : Int64) (o3 : Addr) (kk : ClassId) (h0 : Heap) (n0 : Nat) (v : Option Value) (h : Heap) (L : List Loc) : Prop := ∃ c0 : Int32, ∃ c1 : Int32, ∃ c2 : Int32, ∃ c3 : Int32, ∃ c4 : Int32, ∃ c5 : Int32, ∃ c6 : Int32, v = some (.int 0) ∧ Fr n0 L ∧ Keep h0 h [o3] ∧ Arv Z h o3 kk .byte (7 : Int32) [(.int c0), (.int c1), (.int c2), (.int c3), (.int c4), (.int c5), (.int c6)] (.int 0) ∧ ¬ (c6 &&& (255 : Int32)) = (32 : Int32)
theorem rm_gc6n (l : Launch) (Z : State) (a0 : Array Value) (hw : HW Z a0) (ws : List Jvm.Cond) (w_0 : Addr) (w_1 : Addr) (w_2 : Addr) (w_3 : Addr) (w_4 : Addr) (w_5 : Addr) (w_6 : Addr) (w_7 : Int32) (w_8 : Value) (q0 : Int64) (o3 : Addr) (kk : ClassId) (h0 : Heap) (n0 : Nat) (Z0 : n0 ≤ h0.size) (ST : own_St Z w_0 w_1 w_2 w_3 w_4 w_5 w_6 w_7 w_8) (O0 : Old Z n0 h0) (hrg : -2147483648 ≤ q0.toInt ∧ q0.toInt ≤ 2147483647) (hsg : q0 < (0 : Int64)) (hlo : (-1000000 : Int64) < q0) (hhi : ¬ ((-100000 : Int64) < q0)) (Va : Arv Z h0 o3 kk .byte (7 : Int32) [(.int 0), (.int 0), (.int 0), (.int 0), (.int 0), (.int 0), (.int 0)] (.int 0)) (geo : n0 ≤ o3) :
    MetFree l y_12 (head1 (Jvm.Cond.code y_12 jdk_35_method_14_code 11 (some .int) :: ws) rr_gc6n) (fun a U => a = #[(.long q0), (.int 7), (.ref o3)] ∧ Z.Warmed39 U.vm ∧ U.heap = h0) (fun _ _ _ _ _ => True) (fun _ U o U' => ∃ v L, o = .returned v ∧ Q_gc6n Z w_0 w_1 w_2 w_3 w_4 w_5 w_6 w_7 w_8 q0 o3 kk h0 n0 v U'.heap L ∧ FrameEnd U o U' L rr_gc6n.cells rr_gc6n.slots) := by
  refine MetFree.of_bodySF (plainFor_of_name pn_5) hisR ?_
  intro p e s m args below meth c s₁ Bd hml0 hP hK
  obtain ⟨rfl, hZ, hh⟩ := hP
  have hx := Bd.exec
  have hby := Bd.bytes
  have B := @hb _ _ hby
  have hml : c.maxLocals = 11 := hml0
  have hown : s.vm.findClass cn_3 = some m.cls := findClass_of_methodNamed Bd.named
  have X0 : Stand p l e rr_gc6n s m #[(.long q0), (.int 7), (.ref o3)] below meth c s₁ [] 0 0 := Stand.of_body Bd
  have e0 : s₁.heap = h0 := by rw [← hh, Bd.state]; rfl
  have N0 := Fr.nil n0
  have K0 : Keep h0 h0 [o3] := Keep.refl _ _
  obtain ⟨G, step, ret, fin⟩ := own_openX X0 (rr_gc6n.cells) (rr_gc6n.slots) (Q_gc6n Z w_0 w_1 w_2 w_3 w_4 w_5 w_6 w_7 w_8 q0 o3 kk h0 n0) Bd.notSynchronized
  refine fin (g := entryFrame m #[(.long q0), (.int 7), (.ref o3)] 11) ?_
  rw [ef_gc6n m q0 o3]
  obtain ⟨ls0, hls0⟩ := own_sl #[vL q0, s_, vI 7, vR o3, u_, u_, u_, u_, u_, u_, u_]
  suffices hG0 : G s₁ (mkF m 0 ls0 []) by rw [hls0] at hG0; exact hG0
  refine step (fun t k => XS.iloadN X0.here hx rfl (B d12_0) (by rw [hls0]; rfl) k) ?_
  obtain ⟨ls1, hls1⟩ := own_sl #[vL q0, s_, vI 7, vR o3, u_, u_, u_, vI 7, u_, u_, u_]
  refine step (fun t k => XS.istore X0.here hx rfl (B d12_1) rfl (l' := ls1) (by rw [hls0, hls1]; rfl) k) ?_
  refine step (fun t k => XS.lloadN X0.here hx rfl (B d12_3) (by rw [hls1]; rfl) k) ?_
  refine step (fun t k => XS.lconst X0.here hx rfl (B d12_4) k) ?_
  refine step (fun t k => XS.lcmp X0.here hx rfl (B d12_5) rfl k) ?_
  refine step (fun t k => XS.ifNo X0.here hx rfl (B d12_6) rfl ((if0 _ _).trans (tlt ((lw_lt _ _).mpr hsg)).2.1) k) ?_
  show G s₁ (mkF m 9 ls1 [])
  refine step (fun t k => XS.iconst X0.here hx rfl (B d12_9) k) ?_
  refine step (fun t k => XS.goto X0.here hx rfl (pc0 := 10) (pc' := 14) rfl (B d12_10) (by decide) (by decide) k) ?_
  obtain ⟨ls2, hls2⟩ := own_sl #[vL q0, s_, vI 7, vR o3, u_, u_, u_, vI 7, vI 1, u_, u_]
  refine step (fun t k => XS.istore X0.here hx rfl (B d12_14) rfl (l' := ls2) (by rw [hls1, hls2]; rfl) k) ?_
  refine step (fun t k => XS.iload X0.here hx rfl (B d12_16) (by rw [hls2]; rfl) k) ?_
  refine step (fun t k => XS.ifYes X0.here hx rfl (pc0 := 18) (pc' := 24) rfl (B d12_18) rfl ((if0 _ _).trans (feq (by decide : ¬ ((1 : Int32) = (0 : Int32)))).2) (by decide) (by decide) k) ?_
  have bd3 : -1000000 < q0.toInt ∧ q0.toInt ≤ -100000 := by
    have k0 : (0 : Int64).toInt = 0 := by decide
    rw [own_xltL] at hsg
    have k1 : (-1000000 : Int64).toInt = -1000000 := by decide
    rw [own_xltL] at hlo
    have k2 : (-100000 : Int64).toInt = -100000 := by decide
    rw [own_xltL] at hhi
    omega
  refine step (fun t k => XS.lloadN X0.here hx rfl (B d12_24) (by rw [hls2]; rfl) k) ?_
  show G s₁ (mkF m 25 ls2 [(.long q0)])
  have q4 := X0.ldc2Long hx hown (mvT hZ (ww97 hw)) (g := (mkF m 25 ls2 [(.long q0)])) rfl (B d12_25)
  refine step q4 ?_
  refine step (fun t k => XS.lcmp X0.here hx rfl (B d12_28) rfl k) ?_
  have ho5 := own_yL (b := q0) (by decide : (-2147483648 : Int64).toInt = -2147483648) (by omega)
  refine step (fun t k => XS.ifYes X0.here hx rfl (pc0 := 29) (pc' := 82) rfl (B d12_29) rfl ((if0 _ _).trans (tlt ((lw_gt _ _).mpr ho5)).2.2.1) (by decide) (by decide) k) ?_
  refine step (fun t k => XS.lloadN X0.here hx rfl (B d12_82) (by rw [hls2]; rfl) k) ?_
  refine step (fun t k => XS.l2i X0.here hx rfl (B d12_83) rfl k) ?_
  show G s₁ (mkF m 84 ls2 [(.int (q0.toInt32))])
  obtain ⟨y6, hy6⟩ := own_ex (q0.toInt32)
  rw [← hy6]
  have bd7 : -1000000 < y6.toInt ∧ y6.toInt ≤ -100000 := by
    rw [hy6]
    have c1 := c_l2i q0
    have r1 := rng32 q0.toInt32
    omega
  obtain ⟨ls8, hls8⟩ := own_sl #[vL q0, s_, vI 7, vR o3, u_, u_, u_, vI 7, vI 1, u_, vI y6]
  refine step (fun t k => XS.istore X0.here hx rfl (B d12_84) rfl (l' := ls8) (by rw [hls2, hls8]; rfl) k) ?_
  refine step (fun t k => XS.iload X0.here hx rfl (B d12_86) (by rw [hls8]; rfl) k) ?_
  refine step (fun t k => XS.bipush X0.here hx rfl (B d12_88) k) ?_
  show G s₁ (mkF m 90 ls8 [(.int (-100)), (.int y6)])
  have ho9 := own_n (b := y6) (by decide : (-100 : Int32).toInt = -100) (by omega)
  refine step (fun t k => XS.icmpNo X0.here hx rfl (B d12_90) rfl (flt ho9).2.2.1 k) ?_
  refine step (fun t k => XS.iload X0.here hx rfl (B d12_93) (by rw [hls8]; rfl) k) ?_
  refine step (fun t k => XS.bipush X0.here hx rfl (B d12_95) k) ?_
  refine step (fun t k => XS.idiv X0.here hx rfl (B d12_97) rfl (by decide) k) ?_
  show G s₁ (mkF m 98 ls8 [(.int (y6 / (100 : Int32)))])
  obtain ⟨y10, hy10⟩ := own_ex (y6 / (100 : Int32))
  rw [← hy10]
  have bq11 := own_bq hy10 (by omega)
  obtain ⟨ls12, hls12⟩ := own_sl #[vL q0, s_, vI 7, vR o3, u_, u_, u_, vI 7, vI 1, vI y10, vI y6]
  refine step (fun t k => XS.istore X0.here hx rfl (B d12_98) rfl (l' := ls12) (by rw [hls8, hls12]; rfl) k) ?_
  refine step (fun t k => XS.iload X0.here hx rfl (B d12_100) (by rw [hls12]; rfl) k) ?_
  refine step (fun t k => XS.bipush X0.here hx rfl (B d12_102) k) ?_
  refine step (fun t k => XS.imul X0.here hx rfl (B d12_104) rfl k) ?_
  refine step (fun t k => XS.iload X0.here hx rfl (B d12_105) (by rw [hls12]; rfl) k) ?_
  refine step (fun t k => XS.isub X0.here hx rfl (B d12_107) rfl k) ?_
  show G s₁ (mkF m 108 ls12 [(.int ((y10 * (100 : Int32)) - y6))])
  obtain ⟨r13, hr13⟩ := own_ex ((y10 * (100 : Int32)) - y6)
  rw [← hr13]
  have br14 := own_br bq11 (by omega) hr13
  have bd15 : -10000 < y10.toInt ∧ y10.toInt ≤ -1000 := by
    omega
  obtain ⟨ls16, hls16⟩ := own_sl #[vL q0, s_, vI 7, vR o3, u_, u_, vI r13, vI 7, vI 1, vI y10, vI y6]
  refine step (fun t k => XS.istore X0.here hx rfl (B d12_108) rfl (l' := ls16) (by rw [hls12, hls16]; rfl) k) ?_
  refine step (fun t k => XS.iload X0.here hx rfl (B d12_110) (by rw [hls16]; rfl) k) ?_
  obtain ⟨ls17, hls17⟩ := own_sl #[vL q0, s_, vI 7, vR o3, u_, u_, vI r13, vI 7, vI 1, vI y10, vI y10]
  refine step (fun t k => XS.istore X0.here hx rfl (B d12_112) rfl (l' := ls17) (by rw [hls16, hls17]; rfl) k) ?_
  refine step (fun t k => XS.aloadN X0.here hx rfl (B d12_114) (by rw [hls17]; rfl) rfl k) ?_
  obtain ⟨ls18, hls18⟩ := own_sl #[vL q0, s_, vI 7, vR o3, u_, u_, vI r13, vI 6, vI 1, vI y10, vI y10]
  refine step (fun t k => XS.iinc X0.here hx rfl (B d12_115) (by rw [hls17]; rfl) (l' := ls18) (by rw [hls17, hls18]; rfl) k) ?_
  refine step (fun t k => XS.iload X0.here hx rfl (B d12_118) (by rw [hls18]; rfl) k) ?_
  show G s₁ (mkF m 120 ls18 [(.int 6), (.ref o3)])
  obtain ⟨T19, X19, e19, st19⟩ := getS2 X0 hx hZ hown (host := "") (Or.inl (ww98 hw)) Via.refl e0 (Sta.ext O0.2 ST.k10) (g := (mkF m 120 ls18 [(.int 6), (.ref o3)])) rfl (B d12_120)
  refine step st19 ?_
  refine step (fun t k => XS.iload X19.here hx rfl (B d12_123) (by rw [hls18]; rfl) k) ?_
  have hj20 := own_hj br14
  obtain ⟨z20, hz20, st20⟩ := own_ldDig X19 hx hZ e19 ST.k23 O0.2 hj20 (g := (mkF m 125 ls18 [(.int r13), (.ref w_5), (.int 6), (.ref o3)])) rfl rfl (B d12_125)
  refine step st20 ?_
  obtain ⟨T21, h21, X21, e21, W21, V21, st21⟩ := own_stB X19 hx hZ e19 Va (j := (6 : Int32)) (by decide) (i := 6) rfl (by show 6 < 7; decide) (g := (mkF m 126 ls18 [(.int z20), (.int 6), (.ref o3)])) rfl rfl (B d12_126)
  replace V21 : Arv Z h21 o3 kk .byte (7 : Int32) [(.int 0), (.int 0), (.int 0), (.int 0), (.int 0), (.int 0), (.int (nar .byte z20))] (.int 0) := V21
  have N21 := Fr.snoc X21 N0 geo
  obtain ⟨lc21, X21, N21⟩ := own_gen X21 N21
  have O21 := O0.wr W21 geo
  have K21 : Keep h0 h21 [o3] := K0.wr W21 (Or.inl (List.mem_of_getElem? (i := 0) rfl))
  refine step st21 ?_
  refine step (fun t k => XS.aloadN X21.here hx rfl (B d12_127) (by rw [hls18]; rfl) rfl k) ?_
  obtain ⟨ls22, hls22⟩ := own_sl #[vL q0, s_, vI 7, vR o3, u_, u_, vI r13, vI 5, vI 1, vI y10, vI y10]
  refine step (fun t k => XS.iinc X21.here hx rfl (B d12_128) (by rw [hls18]; rfl) (l' := ls22) (by rw [hls18, hls22]; rfl) k) ?_
  refine step (fun t k => XS.iload X21.here hx rfl (B d12_131) (by rw [hls22]; rfl) k) ?_
  obtain ⟨T23, X23, e23, st23⟩ := getS2 X21 hx hZ hown (host := "") (Or.inl (ww185 hw)) Via.refl e21 (Sta.ext O21.2 ST.k12) (g := (mkF m 133 ls22 [(.int 5), (.ref o3)])) rfl (B d12_133)
  refine step st23 ?_
  refine step (fun t k => XS.iload X23.here hx rfl (B d12_136) (by rw [hls22]; rfl) k) ?_
  have hj24 := own_hj br14
  obtain ⟨z24, hz24, st24⟩ := own_ldDig X23 hx hZ e23 ST.k24 O21.2 hj24 (g := (mkF m 138 ls22 [(.int r13), (.ref w_6), (.int 5), (.ref o3)])) rfl rfl (B d12_138)
  refine step st24 ?_
  obtain ⟨T25, h25, X25, e25, W25, V25, st25⟩ := own_stB X23 hx hZ e23 V21 (j := (5 : Int32)) (by decide) (i := 5) rfl (by show 5 < 7; decide) (g := (mkF m 139 ls22 [(.int z24), (.int 5), (.ref o3)])) rfl rfl (B d12_139)
  replace V25 : Arv Z h25 o3 kk .byte (7 : Int32) [(.int 0), (.int 0), (.int 0), (.int 0), (.int 0), (.int (nar .byte z24)), (.int (nar .byte z20))] (.int 0) := V25
  have N25 := Fr.snoc X25 N21 geo
  obtain ⟨lc25, X25, N25⟩ := own_gen X25 N25
  have O25 := O21.wr W25 geo
  have K25 : Keep h0 h25 [o3] := K21.wr W25 (Or.inl (List.mem_of_getElem? (i := 0) rfl))
  refine step st25 ?_
  refine step (fun t k => XS.goto X25.here hx rfl (pc0 := 140) (pc' := 86) rfl (B d12_140) (by decide) (by decide) k) ?_
  refine step (fun t k => XS.iload X25.here hx rfl (B d12_86) (by rw [hls22]; rfl) k) ?_
  refine step (fun t k => XS.bipush X25.here hx rfl (B d12_88) k) ?_
  show G T25 (mkF m 90 ls22 [(.int (-100)), (.int y10)])
  have ho26 := own_n (b := y10) (by decide : (-100 : Int32).toInt = -100) (by omega)
  refine step (fun t k => XS.icmpNo X25.here hx rfl (B d12_90) rfl (flt ho26).2.2.1 k) ?_
  refine step (fun t k => XS.iload X25.here hx rfl (B d12_93) (by rw [hls22]; rfl) k) ?_
  refine step (fun t k => XS.bipush X25.here hx rfl (B d12_95) k) ?_
  refine step (fun t k => XS.idiv X25.here hx rfl (B d12_97) rfl (by decide) k) ?_
  show G T25 (mkF m 98 ls22 [(.int (y10 / (100 : Int32)))])
  obtain ⟨y27, hy27⟩ := own_ex (y10 / (100 : Int32))
  rw [← hy27]
  have bq28 := own_bq hy27 (by omega)
  obtain ⟨ls29, hls29⟩ := own_sl #[vL q0, s_, vI 7, vR o3, u_, u_, vI r13, vI 5, vI 1, vI y27, vI y10]
  refine step (fun t k => XS.istore X25.here hx rfl (B d12_98) rfl (l' := ls29) (by rw [hls22, hls29]; rfl) k) ?_
  refine step (fun t k => XS.iload X25.here hx rfl (B d12_100) (by rw [hls29]; rfl) k) ?_
  refine step (fun t k => XS.bipush X25.here hx rfl (B d12_102) k) ?_
  refine step (fun t k => XS.imul X25.here hx rfl (B d12_104) rfl k) ?_
  refine step (fun t k => XS.iload X25.here hx rfl (B d12_105) (by rw [hls29]; rfl) k) ?_
  refine step (fun t k => XS.isub X25.here hx rfl (B d12_107) rfl k) ?_
  show G T25 (mkF m 108 ls29 [(.int ((y27 * (100 : Int32)) - y10))])
  obtain ⟨r30, hr30⟩ := own_ex ((y27 * (100 : Int32)) - y10)
  rw [← hr30]
  have br31 := own_br bq28 (by omega) hr30
  have bd32 : -100 < y27.toInt ∧ y27.toInt ≤ -10 := by
    omega
  obtain ⟨ls33, hls33⟩ := own_sl #[vL q0, s_, vI 7, vR o3, u_, u_, vI r30, vI 5, vI 1, vI y27, vI y10]
  refine step (fun t k => XS.istore X25.here hx rfl (B d12_108) rfl (l' := ls33) (by rw [hls29, hls33]; rfl) k) ?_
  refine step (fun t k => XS.iload X25.here hx rfl (B d12_110) (by rw [hls33]; rfl) k) ?_
  obtain ⟨ls34, hls34⟩ := own_sl #[vL q0, s_, vI 7, vR o3, u_, u_, vI r30, vI 5, vI 1, vI y27, vI y27]
  refine step (fun t k => XS.istore X25.here hx rfl (B d12_112) rfl (l' := ls34) (by rw [hls33, hls34]; rfl) k) ?_
  refine step (fun t k => XS.aloadN X25.here hx rfl (B d12_114) (by rw [hls34]; rfl) rfl k) ?_
  obtain ⟨ls35, hls35⟩ := own_sl #[vL q0, s_, vI 7, vR o3, u_, u_, vI r30, vI 4, vI 1, vI y27, vI y27]
  refine step (fun t k => XS.iinc X25.here hx rfl (B d12_115) (by rw [hls34]; rfl) (l' := ls35) (by rw [hls34, hls35]; rfl) k) ?_
  refine step (fun t k => XS.iload X25.here hx rfl (B d12_118) (by rw [hls35]; rfl) k) ?_
  show G T25 (mkF m 120 ls35 [(.int 4), (.ref o3)])
  obtain ⟨T36, X36, e36, st36⟩ := getS2 X25 hx hZ hown (host := "") (Or.inl (ww98 hw)) Via.refl e25 (Sta.ext O25.2 ST.k10) (g := (mkF m 120 ls35 [(.int 4), (.ref o3)])) rfl (B d12_120)
  refine step st36 ?_
  refine step (fun t k => XS.iload X36.here hx rfl (B d12_123) (by rw [hls35]; rfl) k) ?_
  have hj37 := own_hj br31
  obtain ⟨z37, hz37, st37⟩ := own_ldDig X36 hx hZ e36 ST.k23 O25.2 hj37 (g := (mkF m 125 ls35 [(.int r30), (.ref w_5), (.int 4), (.ref o3)])) rfl rfl (B d12_125)
  refine step st37 ?_
  obtain ⟨T38, h38, X38, e38, W38, V38, st38⟩ := own_stB X36 hx hZ e36 V25 (j := (4 : Int32)) (by decide) (i := 4) rfl (by show 4 < 7; decide) (g := (mkF m 126 ls35 [(.int z37), (.int 4), (.ref o3)])) rfl rfl (B d12_126)
  replace V38 : Arv Z h38 o3 kk .byte (7 : Int32) [(.int 0), (.int 0), (.int 0), (.int 0), (.int (nar .byte z37)), (.int (nar .byte z24)), (.int (nar .byte z20))] (.int 0) := V38
  have N38 := Fr.snoc X38 N25 geo
  obtain ⟨lc38, X38, N38⟩ := own_gen X38 N38
  have O38 := O25.wr W38 geo
  have K38 : Keep h0 h38 [o3] := K25.wr W38 (Or.inl (List.mem_of_getElem? (i := 0) rfl))
  refine step st38 ?_
  refine step (fun t k => XS.aloadN X38.here hx rfl (B d12_127) (by rw [hls35]; rfl) rfl k) ?_
  obtain ⟨ls39, hls39⟩ := own_sl #[vL q0, s_, vI 7, vR o3, u_, u_, vI r30, vI 3, vI 1, vI y27, vI y27]
  refine step (fun t k => XS.iinc X38.here hx rfl (B d12_128) (by rw [hls35]; rfl) (l' := ls39) (by rw [hls35, hls39]; rfl) k) ?_
  refine step (fun t k => XS.iload X38.here hx rfl (B d12_131) (by rw [hls39]; rfl) k) ?_
  obtain ⟨T40, X40, e40, st40⟩ := getS2 X38 hx hZ hown (host := "") (Or.inl (ww185 hw)) Via.refl e38 (Sta.ext O38.2 ST.k12) (g := (mkF m 133 ls39 [(.int 3), (.ref o3)])) rfl (B d12_133)
  refine step st40 ?_
  refine step (fun t k => XS.iload X40.here hx rfl (B d12_136) (by rw [hls39]; rfl) k) ?_
  have hj41 := own_hj br31
  obtain ⟨z41, hz41, st41⟩ := own_ldDig X40 hx hZ e40 ST.k24 O38.2 hj41 (g := (mkF m 138 ls39 [(.int r30), (.ref w_6), (.int 3), (.ref o3)])) rfl rfl (B d12_138)
  refine step st41 ?_
  obtain ⟨T42, h42, X42, e42, W42, V42, st42⟩ := own_stB X40 hx hZ e40 V38 (j := (3 : Int32)) (by decide) (i := 3) rfl (by show 3 < 7; decide) (g := (mkF m 139 ls39 [(.int z41), (.int 3), (.ref o3)])) rfl rfl (B d12_139)
  replace V42 : Arv Z h42 o3 kk .byte (7 : Int32) [(.int 0), (.int 0), (.int 0), (.int (nar .byte z41)), (.int (nar .byte z37)), (.int (nar .byte z24)), (.int (nar .byte z20))] (.int 0) := V42
  have N42 := Fr.snoc X42 N38 geo
  obtain ⟨lc42, X42, N42⟩ := own_gen X42 N42
  have O42 := O38.wr W42 geo
  have K42 : Keep h0 h42 [o3] := K38.wr W42 (Or.inl (List.mem_of_getElem? (i := 0) rfl))
  refine step st42 ?_
  refine step (fun t k => XS.goto X42.here hx rfl (pc0 := 140) (pc' := 86) rfl (B d12_140) (by decide) (by decide) k) ?_
  refine step (fun t k => XS.iload X42.here hx rfl (B d12_86) (by rw [hls39]; rfl) k) ?_
  refine step (fun t k => XS.bipush X42.here hx rfl (B d12_88) k) ?_
  show G T42 (mkF m 90 ls39 [(.int (-100)), (.int y27)])
  have ho43 := own_y (b := y27) (by decide : (-100 : Int32).toInt = -100) (by omega)
  refine step (fun t k => XS.icmpYes X42.here hx rfl (pc0 := 90) (pc' := 143) rfl (B d12_90) rfl (tlt ho43).2.2.1 (by decide) (by decide) k) ?_
  refine step (fun t k => XS.aloadN X42.here hx rfl (B d12_143) (by rw [hls39]; rfl) rfl k) ?_
  obtain ⟨ls44, hls44⟩ := own_sl #[vL q0, s_, vI 7, vR o3, u_, u_, vI r30, vI 2, vI 1, vI y27, vI y27]
  refine step (fun t k => XS.iinc X42.here hx rfl (B d12_144) (by rw [hls39]; rfl) (l' := ls44) (by rw [hls39, hls44]; rfl) k) ?_
  refine step (fun t k => XS.iload X42.here hx rfl (B d12_147) (by rw [hls44]; rfl) k) ?_
  obtain ⟨T45, X45, e45, st45⟩ := getS2 X42 hx hZ hown (host := "") (Or.inl (ww98 hw)) Via.refl e42 (Sta.ext O42.2 ST.k10) (g := (mkF m 149 ls44 [(.int 2), (.ref o3)])) rfl (B d12_149)
  refine step st45 ?_
  refine step (fun t k => XS.iload X45.here hx rfl (B d12_152) (by rw [hls44]; rfl) k) ?_
  refine step (fun t k => XS.ineg X45.here hx rfl (B d12_154) rfl k) ?_
  have hj46 := own_hj (own_ng y27 (by omega))
  obtain ⟨z46, hz46, st46⟩ := own_ldDig X45 hx hZ e45 ST.k23 O42.2 hj46 (g := (mkF m 155 ls44 [(.int (-y27)), (.ref w_5), (.int 2), (.ref o3)])) rfl rfl (B d12_155)
  refine step st46 ?_
  obtain ⟨T47, h47, X47, e47, W47, V47, st47⟩ := own_stB X45 hx hZ e45 V42 (j := (2 : Int32)) (by decide) (i := 2) rfl (by show 2 < 7; decide) (g := (mkF m 156 ls44 [(.int z46), (.int 2), (.ref o3)])) rfl rfl (B d12_156)
  replace V47 : Arv Z h47 o3 kk .byte (7 : Int32) [(.int 0), (.int 0), (.int (nar .byte z46)), (.int (nar .byte z41)), (.int (nar .byte z37)), (.int (nar .byte z24)), (.int (nar .byte z20))] (.int 0) := V47
  have N47 := Fr.snoc X47 N42 geo
  obtain ⟨lc47, X47, N47⟩ := own_gen X47 N47
  have O47 := O42.wr W47 geo
  have K47 : Keep h0 h47 [o3] := K42.wr W47 (Or.inl (List.mem_of_getElem? (i := 0) rfl))
  refine step st47 ?_
  refine step (fun t k => XS.iload X47.here hx rfl (B d12_157) (by rw [hls44]; rfl) k) ?_
  refine step (fun t k => XS.bipush X47.here hx rfl (B d12_159) k) ?_
  show G T47 (mkF m 161 ls44 [(.int (-9)), (.int y27)])
  have ho48 := own_yr (b := y27) (by decide : (-9 : Int32).toInt = -9) (by omega)
  refine step (fun t k => XS.icmpNo X47.here hx rfl (B d12_161) rfl (tlt ho48).2.1 k) ?_
  refine step (fun t k => XS.aloadN X47.here hx rfl (B d12_164) (by rw [hls44]; rfl) rfl k) ?_
  obtain ⟨ls49, hls49⟩ := own_sl #[vL q0, s_, vI 7, vR o3, u_, u_, vI r30, vI 1, vI 1, vI y27, vI y27]
  refine step (fun t k => XS.iinc X47.here hx rfl (B d12_165) (by rw [hls44]; rfl) (l' := ls49) (by rw [hls44, hls49]; rfl) k) ?_
  refine step (fun t k => XS.iload X47.here hx rfl (B d12_168) (by rw [hls49]; rfl) k) ?_
  obtain ⟨T50, X50, e50, st50⟩ := getS2 X47 hx hZ hown (host := "") (Or.inl (ww185 hw)) Via.refl e47 (Sta.ext O47.2 ST.k12) (g := (mkF m 170 ls49 [(.int 1), (.ref o3)])) rfl (B d12_170)
  refine step st50 ?_
  refine step (fun t k => XS.iload X50.here hx rfl (B d12_173) (by rw [hls49]; rfl) k) ?_
  refine step (fun t k => XS.ineg X50.here hx rfl (B d12_175) rfl k) ?_
  have hj51 := own_hj (own_ng y27 (by omega))
  obtain ⟨z51, hz51, st51⟩ := own_ldDig X50 hx hZ e50 ST.k24 O47.2 hj51 (g := (mkF m 176 ls49 [(.int (-y27)), (.ref w_6), (.int 1), (.ref o3)])) rfl rfl (B d12_176)
  refine step st51 ?_
  obtain ⟨T52, h52, X52, e52, W52, V52, st52⟩ := own_stB X50 hx hZ e50 V47 (j := (1 : Int32)) (by decide) (i := 1) rfl (by show 1 < 7; decide) (g := (mkF m 177 ls49 [(.int z51), (.int 1), (.ref o3)])) rfl rfl (B d12_177)
  replace V52 : Arv Z h52 o3 kk .byte (7 : Int32) [(.int 0), (.int (nar .byte z51)), (.int (nar .byte z46)), (.int (nar .byte z41)), (.int (nar .byte z37)), (.int (nar .byte z24)), (.int (nar .byte z20))] (.int 0) := V52
  have N52 := Fr.snoc X52 N47 geo
  obtain ⟨lc52, X52, N52⟩ := own_gen X52 N52
  have K52 : Keep h0 h52 [o3] := K47.wr W52 (Or.inl (List.mem_of_getElem? (i := 0) rfl))
  refine step st52 ?_
  refine step (fun t k => XS.iload X52.here hx rfl (B d12_178) (by rw [hls49]; rfl) k) ?_
  refine step (fun t k => XS.ifNo X52.here hx rfl (B d12_180) rfl ((if0 _ _).trans (feq (by decide : ¬ ((1 : Int32) = (0 : Int32)))).1) k) ?_
  refine step (fun t k => XS.aloadN X52.here hx rfl (B d12_183) (by rw [hls49]; rfl) rfl k) ?_
  obtain ⟨ls53, hls53⟩ := own_sl #[vL q0, s_, vI 7, vR o3, u_, u_, vI r30, vI 0, vI 1, vI y27, vI y27]
  refine step (fun t k => XS.iinc X52.here hx rfl (B d12_184) (by rw [hls49]; rfl) (l' := ls53) (by rw [hls49, hls53]; rfl) k) ?_
  refine step (fun t k => XS.iload X52.here hx rfl (B d12_187) (by rw [hls53]; rfl) k) ?_
  show G T52 (mkF m 189 ls53 [(.int 0), (.ref o3)])
  refine step (fun t k => XS.bipush X52.here hx rfl (B d12_189) k) ?_
  show G T52 (mkF m 191 ls53 [(.int 45), (.int 0), (.ref o3)])
  obtain ⟨T54, h54, X54, e54, W54, V54, st54⟩ := own_stB X52 hx hZ e52 V52 (j := (0 : Int32)) (by decide) (i := 0) rfl (by show 0 < 7; decide) (g := (mkF m 191 ls53 [(.int 45), (.int 0), (.ref o3)])) rfl rfl (B d12_191)
  replace V54 : Arv Z h54 o3 kk .byte (7 : Int32) [(.int (nar .byte (45 : Int32))), (.int (nar .byte z51)), (.int (nar .byte z46)), (.int (nar .byte z41)), (.int (nar .byte z37)), (.int (nar .byte z24)), (.int (nar .byte z20))] (.int 0) := V54
  have N54 := Fr.snoc X54 N52 geo
  obtain ⟨lc54, X54, N54⟩ := own_gen X54 N54
  have K54 : Keep h0 h54 [o3] := K52.wr W54 (Or.inl (List.mem_of_getElem? (i := 0) rfl))
  refine step st54 ?_
  refine step (fun t k => XS.iload X54.here hx rfl (B d12_192) (by rw [hls53]; rfl) k) ?_
  exact ret (v := some (.int 0)) X54 (fun h => by rw [Bd.returns] at h; cases h) (fun fs hr => retI X54 hx Bd.returns (B d12_194) hr) e54 ⟨(nar .byte (45 : Int32)), (nar .byte z51), (nar .byte z46), (nar .byte z41), (nar .byte z37), (nar .byte z24), (nar .byte z20), rfl, N54, K54, V54, hz20⟩ (by decide) (by decide)
abbrev rr_gc7p : Room := { frames := 0, cells := 0, slots := 0, locals := 0 }
theorem ef_gc7p (m : MethodId) (q0 : Int64) (o3 : Addr) : entryFrame m #[(.long q0), (.int 7), (.ref o3)] 11 = mkF m 0 #[vL q0, s_, vI 7, vR o3, u_, u_, u_, u_, u_, u_, u_] [] := by first | (simp [entryFrame, mkF, argsToLocals, Value.category]; done) | rfl
def Q_gc7p (Z : State) (w_0 : Addr) (w_1 : Addr) (w_2 : Addr) (w_3 : Addr) (w_4 : Addr) (w_5 : Addr) (w_6 : Addr) (w_7 : Int32) (w_8 : Value) (q0 : Int64) (o3 : Addr) (kk : ClassId) (h0 : Heap) (n0 : Nat) (v : Option Value) (h : Heap) (L : List Loc) : Prop := ∃ c0 : Int32, ∃ c1 : Int32, ∃ c2 : Int32, ∃ c3 : Int32, ∃ c4 : Int32, ∃ c5 : Int32, ∃ c6 : Int32, v = some (.int 0) ∧ Fr n0 L ∧ Keep h0 h [o3] ∧ Arv Z h o3 kk .byte (7 : Int32) [(.int c0), (.int c1), (.int c2), (.int c3), (.int c4), (.int c5), (.int c6)] (.int 0) ∧ ¬ (c6 &&& (255 : Int32)) = (32 : Int32)
theorem rm_gc7p (l : Launch) (Z : State) (a0 : Array Value) (hw : HW Z a0) (ws : List Jvm.Cond) (w_0 : Addr) (w_1 : Addr) (w_2 : Addr) (w_3 : Addr) (w_4 : Addr) (w_5 : Addr) (w_6 : Addr) (w_7 : Int32) (w_8 : Value) (q0 : Int64) (o3 : Addr) (kk : ClassId) (h0 : Heap) (n0 : Nat) (Z0 : n0 ≤ h0.size) (ST : own_St Z w_0 w_1 w_2 w_3 w_4 w_5 w_6 w_7 w_8) (O0 : Old Z n0 h0) (hrg : -2147483648 ≤ q0.toInt ∧ q0.toInt ≤ 2147483647) (hsg : ¬ (q0 < (0 : Int64))) (hlo : (-10000000 : Int64) < (-q0)) (hhi : ¬ ((-1000000 : Int64) < (-q0))) (Va : Arv Z h0 o3 kk .byte (7 : Int32) [(.int 0), (.int 0), (.int 0), (.int 0), (.int 0), (.int 0), (.int 0)] (.int 0)) (geo : n0 ≤ o3) :
    MetFree l y_12 (head1 (Jvm.Cond.code y_12 jdk_35_method_14_code 11 (some .int) :: ws) rr_gc7p) (fun a U => a = #[(.long q0), (.int 7), (.ref o3)] ∧ Z.Warmed39 U.vm ∧ U.heap = h0) (fun _ _ _ _ _ => True) (fun _ U o U' => ∃ v L, o = .returned v ∧ Q_gc7p Z w_0 w_1 w_2 w_3 w_4 w_5 w_6 w_7 w_8 q0 o3 kk h0 n0 v U'.heap L ∧ FrameEnd U o U' L rr_gc7p.cells rr_gc7p.slots) := by
  refine MetFree.of_bodySF (plainFor_of_name pn_5) hisR ?_
  intro p e s m args below meth c s₁ Bd hml0 hP hK
  obtain ⟨rfl, hZ, hh⟩ := hP
  have hx := Bd.exec
  have hby := Bd.bytes
  have B := @hb _ _ hby
  have hml : c.maxLocals = 11 := hml0
  have hown : s.vm.findClass cn_3 = some m.cls := findClass_of_methodNamed Bd.named
  have X0 : Stand p l e rr_gc7p s m #[(.long q0), (.int 7), (.ref o3)] below meth c s₁ [] 0 0 := Stand.of_body Bd
  have e0 : s₁.heap = h0 := by rw [← hh, Bd.state]; rfl
  have N0 := Fr.nil n0
  have K0 : Keep h0 h0 [o3] := Keep.refl _ _
  obtain ⟨G, step, ret, fin⟩ := own_openX X0 (rr_gc7p.cells) (rr_gc7p.slots) (Q_gc7p Z w_0 w_1 w_2 w_3 w_4 w_5 w_6 w_7 w_8 q0 o3 kk h0 n0) Bd.notSynchronized
  refine fin (g := entryFrame m #[(.long q0), (.int 7), (.ref o3)] 11) ?_
  rw [ef_gc7p m q0 o3]
  obtain ⟨ls0, hls0⟩ := own_sl #[vL q0, s_, vI 7, vR o3, u_, u_, u_, u_, u_, u_, u_]
  suffices hG0 : G s₁ (mkF m 0 ls0 []) by rw [hls0] at hG0; exact hG0
  refine step (fun t k => XS.iloadN X0.here hx rfl (B d12_0) (by rw [hls0]; rfl) k) ?_
  obtain ⟨ls1, hls1⟩ := own_sl #[vL q0, s_, vI 7, vR o3, u_, u_, u_, vI 7, u_, u_, u_]
  refine step (fun t k => XS.istore X0.here hx rfl (B d12_1) rfl (l' := ls1) (by rw [hls0, hls1]; rfl) k) ?_
  refine step (fun t k => XS.lloadN X0.here hx rfl (B d12_3) (by rw [hls1]; rfl) k) ?_
  refine step (fun t k => XS.lconst X0.here hx rfl (B d12_4) k) ?_
  refine step (fun t k => XS.lcmp X0.here hx rfl (B d12_5) rfl k) ?_
  refine step (fun t k => XS.ifYes X0.here hx rfl (pc0 := 6) (pc' := 13) rfl (B d12_6) rfl ((if0 _ _).trans (flt (fun q => hsg ((lw_lt _ _).mp q))).2.1) (by decide) (by decide) k) ?_
  show G s₁ (mkF m 13 ls1 [])
  refine step (fun t k => XS.iconst X0.here hx rfl (B d12_13) k) ?_
  obtain ⟨ls2, hls2⟩ := own_sl #[vL q0, s_, vI 7, vR o3, u_, u_, u_, vI 7, vI 0, u_, u_]
  refine step (fun t k => XS.istore X0.here hx rfl (B d12_14) rfl (l' := ls2) (by rw [hls1, hls2]; rfl) k) ?_
  refine step (fun t k => XS.iload X0.here hx rfl (B d12_16) (by rw [hls2]; rfl) k) ?_
  refine step (fun t k => XS.ifNo X0.here hx rfl (B d12_18) rfl ((if0 _ _).trans (teq (by decide : (0 : Int32) = (0 : Int32))).2) k) ?_
  refine step (fun t k => XS.lloadN X0.here hx rfl (B d12_21) (by rw [hls2]; rfl) k) ?_
  refine step (fun t k => XS.lneg X0.here hx rfl (B d12_22) rfl k) ?_
  show G s₁ (mkF m 23 ls2 [(.long (-q0))])
  obtain ⟨x0, hx0⟩ : ∃ z : Int64, z = (-q0) := ⟨_, rfl⟩
  rw [← hx0]
  have bd3 : -10000000 < x0.toInt ∧ x0.toInt ≤ -1000000 := by
    rw [hx0]
    have c1 := c_lneg q0
    have r1 := rng64 (-q0)
    have k0 : (0 : Int64).toInt = 0 := by decide
    rw [own_xltL] at hsg
    have k1 : (-10000000 : Int64).toInt = -10000000 := by decide
    rw [own_xltL] at hlo
    have k2 : (-1000000 : Int64).toInt = -1000000 := by decide
    rw [own_xltL] at hhi
    omega
  obtain ⟨ls4, hls4⟩ := own_sl #[vL x0, s_, vI 7, vR o3, u_, u_, u_, vI 7, vI 0, u_, u_]
  refine step (fun t k => XS.lstoreN X0.here hx rfl (B d12_23) rfl (l' := ls4) (by rw [hls2, hls4]; rfl) k) ?_
  refine step (fun t k => XS.lloadN X0.here hx rfl (B d12_24) (by rw [hls4]; rfl) k) ?_
  have q5 := X0.ldc2Long hx hown (mvT hZ (ww97 hw)) (g := (mkF m 25 ls4 [(.long x0)])) rfl (B d12_25)
  refine step q5 ?_
  refine step (fun t k => XS.lcmp X0.here hx rfl (B d12_28) rfl k) ?_
  have ho6 := own_yL (b := x0) (by decide : (-2147483648 : Int64).toInt = -2147483648) (by omega)
  refine step (fun t k => XS.ifYes X0.here hx rfl (pc0 := 29) (pc' := 82) rfl (B d12_29) rfl ((if0 _ _).trans (tlt ((lw_gt _ _).mpr ho6)).2.2.1) (by decide) (by decide) k) ?_
  refine step (fun t k => XS.lloadN X0.here hx rfl (B d12_82) (by rw [hls4]; rfl) k) ?_
  refine step (fun t k => XS.l2i X0.here hx rfl (B d12_83) rfl k) ?_
  show G s₁ (mkF m 84 ls4 [(.int (x0.toInt32))])
  obtain ⟨y7, hy7⟩ := own_ex (x0.toInt32)
  rw [← hy7]
  have bd8 : -10000000 < y7.toInt ∧ y7.toInt ≤ -1000000 := by
    rw [hy7]
    have c1 := c_l2i x0
    have r1 := rng32 x0.toInt32
    omega
  obtain ⟨ls9, hls9⟩ := own_sl #[vL x0, s_, vI 7, vR o3, u_, u_, u_, vI 7, vI 0, u_, vI y7]
  refine step (fun t k => XS.istore X0.here hx rfl (B d12_84) rfl (l' := ls9) (by rw [hls4, hls9]; rfl) k) ?_
  refine step (fun t k => XS.iload X0.here hx rfl (B d12_86) (by rw [hls9]; rfl) k) ?_
  refine step (fun t k => XS.bipush X0.here hx rfl (B d12_88) k) ?_
  show G s₁ (mkF m 90 ls9 [(.int (-100)), (.int y7)])
  have ho10 := own_n (b := y7) (by decide : (-100 : Int32).toInt = -100) (by omega)
  refine step (fun t k => XS.icmpNo X0.here hx rfl (B d12_90) rfl (flt ho10).2.2.1 k) ?_
  refine step (fun t k => XS.iload X0.here hx rfl (B d12_93) (by rw [hls9]; rfl) k) ?_
  refine step (fun t k => XS.bipush X0.here hx rfl (B d12_95) k) ?_
  refine step (fun t k => XS.idiv X0.here hx rfl (B d12_97) rfl (by decide) k) ?_
  show G s₁ (mkF m 98 ls9 [(.int (y7 / (100 : Int32)))])
  obtain ⟨y11, hy11⟩ := own_ex (y7 / (100 : Int32))
  rw [← hy11]
  have bq12 := own_bq hy11 (by omega)
  obtain ⟨ls13, hls13⟩ := own_sl #[vL x0, s_, vI 7, vR o3, u_, u_, u_, vI 7, vI 0, vI y11, vI y7]
  refine step (fun t k => XS.istore X0.here hx rfl (B d12_98) rfl (l' := ls13) (by rw [hls9, hls13]; rfl) k) ?_
  refine step (fun t k => XS.iload X0.here hx rfl (B d12_100) (by rw [hls13]; rfl) k) ?_
  refine step (fun t k => XS.bipush X0.here hx rfl (B d12_102) k) ?_
  refine step (fun t k => XS.imul X0.here hx rfl (B d12_104) rfl k) ?_
  refine step (fun t k => XS.iload X0.here hx rfl (B d12_105) (by rw [hls13]; rfl) k) ?_
  refine step (fun t k => XS.isub X0.here hx rfl (B d12_107) rfl k) ?_
  show G s₁ (mkF m 108 ls13 [(.int ((y11 * (100 : Int32)) - y7))])
  obtain ⟨r14, hr14⟩ := own_ex ((y11 * (100 : Int32)) - y7)
  rw [← hr14]
  have br15 := own_br bq12 (by omega) hr14
  have bd16 : -100000 < y11.toInt ∧ y11.toInt ≤ -10000 := by
    omega
  obtain ⟨ls17, hls17⟩ := own_sl #[vL x0, s_, vI 7, vR o3, u_, u_, vI r14, vI 7, vI 0, vI y11, vI y7]
  refine step (fun t k => XS.istore X0.here hx rfl (B d12_108) rfl (l' := ls17) (by rw [hls13, hls17]; rfl) k) ?_
  refine step (fun t k => XS.iload X0.here hx rfl (B d12_110) (by rw [hls17]; rfl) k) ?_
  obtain ⟨ls18, hls18⟩ := own_sl #[vL x0, s_, vI 7, vR o3, u_, u_, vI r14, vI 7, vI 0, vI y11, vI y11]
  refine step (fun t k => XS.istore X0.here hx rfl (B d12_112) rfl (l' := ls18) (by rw [hls17, hls18]; rfl) k) ?_
  refine step (fun t k => XS.aloadN X0.here hx rfl (B d12_114) (by rw [hls18]; rfl) rfl k) ?_
  obtain ⟨ls19, hls19⟩ := own_sl #[vL x0, s_, vI 7, vR o3, u_, u_, vI r14, vI 6, vI 0, vI y11, vI y11]
  refine step (fun t k => XS.iinc X0.here hx rfl (B d12_115) (by rw [hls18]; rfl) (l' := ls19) (by rw [hls18, hls19]; rfl) k) ?_
  refine step (fun t k => XS.iload X0.here hx rfl (B d12_118) (by rw [hls19]; rfl) k) ?_
  show G s₁ (mkF m 120 ls19 [(.int 6), (.ref o3)])
  obtain ⟨T20, X20, e20, st20⟩ := getS2 X0 hx hZ hown (host := "") (Or.inl (ww98 hw)) Via.refl e0 (Sta.ext O0.2 ST.k10) (g := (mkF m 120 ls19 [(.int 6), (.ref o3)])) rfl (B d12_120)
  refine step st20 ?_
  refine step (fun t k => XS.iload X20.here hx rfl (B d12_123) (by rw [hls19]; rfl) k) ?_
  have hj21 := own_hj br15
  obtain ⟨z21, hz21, st21⟩ := own_ldDig X20 hx hZ e20 ST.k23 O0.2 hj21 (g := (mkF m 125 ls19 [(.int r14), (.ref w_5), (.int 6), (.ref o3)])) rfl rfl (B d12_125)
  refine step st21 ?_
  obtain ⟨T22, h22, X22, e22, W22, V22, st22⟩ := own_stB X20 hx hZ e20 Va (j := (6 : Int32)) (by decide) (i := 6) rfl (by show 6 < 7; decide) (g := (mkF m 126 ls19 [(.int z21), (.int 6), (.ref o3)])) rfl rfl (B d12_126)
  replace V22 : Arv Z h22 o3 kk .byte (7 : Int32) [(.int 0), (.int 0), (.int 0), (.int 0), (.int 0), (.int 0), (.int (nar .byte z21))] (.int 0) := V22
  have N22 := Fr.snoc X22 N0 geo
  obtain ⟨lc22, X22, N22⟩ := own_gen X22 N22
  have O22 := O0.wr W22 geo
  have K22 : Keep h0 h22 [o3] := K0.wr W22 (Or.inl (List.mem_of_getElem? (i := 0) rfl))
  refine step st22 ?_
  refine step (fun t k => XS.aloadN X22.here hx rfl (B d12_127) (by rw [hls19]; rfl) rfl k) ?_
  obtain ⟨ls23, hls23⟩ := own_sl #[vL x0, s_, vI 7, vR o3, u_, u_, vI r14, vI 5, vI 0, vI y11, vI y11]
  refine step (fun t k => XS.iinc X22.here hx rfl (B d12_128) (by rw [hls19]; rfl) (l' := ls23) (by rw [hls19, hls23]; rfl) k) ?_
  refine step (fun t k => XS.iload X22.here hx rfl (B d12_131) (by rw [hls23]; rfl) k) ?_
  obtain ⟨T24, X24, e24, st24⟩ := getS2 X22 hx hZ hown (host := "") (Or.inl (ww185 hw)) Via.refl e22 (Sta.ext O22.2 ST.k12) (g := (mkF m 133 ls23 [(.int 5), (.ref o3)])) rfl (B d12_133)
  refine step st24 ?_
  refine step (fun t k => XS.iload X24.here hx rfl (B d12_136) (by rw [hls23]; rfl) k) ?_
  have hj25 := own_hj br15
  obtain ⟨z25, hz25, st25⟩ := own_ldDig X24 hx hZ e24 ST.k24 O22.2 hj25 (g := (mkF m 138 ls23 [(.int r14), (.ref w_6), (.int 5), (.ref o3)])) rfl rfl (B d12_138)
  refine step st25 ?_
  obtain ⟨T26, h26, X26, e26, W26, V26, st26⟩ := own_stB X24 hx hZ e24 V22 (j := (5 : Int32)) (by decide) (i := 5) rfl (by show 5 < 7; decide) (g := (mkF m 139 ls23 [(.int z25), (.int 5), (.ref o3)])) rfl rfl (B d12_139)
  replace V26 : Arv Z h26 o3 kk .byte (7 : Int32) [(.int 0), (.int 0), (.int 0), (.int 0), (.int 0), (.int (nar .byte z25)), (.int (nar .byte z21))] (.int 0) := V26
  have N26 := Fr.snoc X26 N22 geo
  obtain ⟨lc26, X26, N26⟩ := own_gen X26 N26
  have O26 := O22.wr W26 geo
  have K26 : Keep h0 h26 [o3] := K22.wr W26 (Or.inl (List.mem_of_getElem? (i := 0) rfl))
  refine step st26 ?_
  refine step (fun t k => XS.goto X26.here hx rfl (pc0 := 140) (pc' := 86) rfl (B d12_140) (by decide) (by decide) k) ?_
  refine step (fun t k => XS.iload X26.here hx rfl (B d12_86) (by rw [hls23]; rfl) k) ?_
  refine step (fun t k => XS.bipush X26.here hx rfl (B d12_88) k) ?_
  show G T26 (mkF m 90 ls23 [(.int (-100)), (.int y11)])
  have ho27 := own_n (b := y11) (by decide : (-100 : Int32).toInt = -100) (by omega)
  refine step (fun t k => XS.icmpNo X26.here hx rfl (B d12_90) rfl (flt ho27).2.2.1 k) ?_
  refine step (fun t k => XS.iload X26.here hx rfl (B d12_93) (by rw [hls23]; rfl) k) ?_
  refine step (fun t k => XS.bipush X26.here hx rfl (B d12_95) k) ?_
  refine step (fun t k => XS.idiv X26.here hx rfl (B d12_97) rfl (by decide) k) ?_
  show G T26 (mkF m 98 ls23 [(.int (y11 / (100 : Int32)))])
  obtain ⟨y28, hy28⟩ := own_ex (y11 / (100 : Int32))
  rw [← hy28]
  have bq29 := own_bq hy28 (by omega)
  obtain ⟨ls30, hls30⟩ := own_sl #[vL x0, s_, vI 7, vR o3, u_, u_, vI r14, vI 5, vI 0, vI y28, vI y11]
  refine step (fun t k => XS.istore X26.here hx rfl (B d12_98) rfl (l' := ls30) (by rw [hls23, hls30]; rfl) k) ?_
  refine step (fun t k => XS.iload X26.here hx rfl (B d12_100) (by rw [hls30]; rfl) k) ?_
  refine step (fun t k => XS.bipush X26.here hx rfl (B d12_102) k) ?_
  refine step (fun t k => XS.imul X26.here hx rfl (B d12_104) rfl k) ?_
  refine step (fun t k => XS.iload X26.here hx rfl (B d12_105) (by rw [hls30]; rfl) k) ?_
  refine step (fun t k => XS.isub X26.here hx rfl (B d12_107) rfl k) ?_
  show G T26 (mkF m 108 ls30 [(.int ((y28 * (100 : Int32)) - y11))])
  obtain ⟨r31, hr31⟩ := own_ex ((y28 * (100 : Int32)) - y11)
  rw [← hr31]
  have br32 := own_br bq29 (by omega) hr31
  have bd33 : -1000 < y28.toInt ∧ y28.toInt ≤ -100 := by
    omega
  obtain ⟨ls34, hls34⟩ := own_sl #[vL x0, s_, vI 7, vR o3, u_, u_, vI r31, vI 5, vI 0, vI y28, vI y11]
  refine step (fun t k => XS.istore X26.here hx rfl (B d12_108) rfl (l' := ls34) (by rw [hls30, hls34]; rfl) k) ?_
  refine step (fun t k => XS.iload X26.here hx rfl (B d12_110) (by rw [hls34]; rfl) k) ?_
  obtain ⟨ls35, hls35⟩ := own_sl #[vL x0, s_, vI 7, vR o3, u_, u_, vI r31, vI 5, vI 0, vI y28, vI y28]
  refine step (fun t k => XS.istore X26.here hx rfl (B d12_112) rfl (l' := ls35) (by rw [hls34, hls35]; rfl) k) ?_
  refine step (fun t k => XS.aloadN X26.here hx rfl (B d12_114) (by rw [hls35]; rfl) rfl k) ?_
  obtain ⟨ls36, hls36⟩ := own_sl #[vL x0, s_, vI 7, vR o3, u_, u_, vI r31, vI 4, vI 0, vI y28, vI y28]
  refine step (fun t k => XS.iinc X26.here hx rfl (B d12_115) (by rw [hls35]; rfl) (l' := ls36) (by rw [hls35, hls36]; rfl) k) ?_
  refine step (fun t k => XS.iload X26.here hx rfl (B d12_118) (by rw [hls36]; rfl) k) ?_
  show G T26 (mkF m 120 ls36 [(.int 4), (.ref o3)])
  obtain ⟨T37, X37, e37, st37⟩ := getS2 X26 hx hZ hown (host := "") (Or.inl (ww98 hw)) Via.refl e26 (Sta.ext O26.2 ST.k10) (g := (mkF m 120 ls36 [(.int 4), (.ref o3)])) rfl (B d12_120)
  refine step st37 ?_
  refine step (fun t k => XS.iload X37.here hx rfl (B d12_123) (by rw [hls36]; rfl) k) ?_
  have hj38 := own_hj br32
  obtain ⟨z38, hz38, st38⟩ := own_ldDig X37 hx hZ e37 ST.k23 O26.2 hj38 (g := (mkF m 125 ls36 [(.int r31), (.ref w_5), (.int 4), (.ref o3)])) rfl rfl (B d12_125)
  refine step st38 ?_
  obtain ⟨T39, h39, X39, e39, W39, V39, st39⟩ := own_stB X37 hx hZ e37 V26 (j := (4 : Int32)) (by decide) (i := 4) rfl (by show 4 < 7; decide) (g := (mkF m 126 ls36 [(.int z38), (.int 4), (.ref o3)])) rfl rfl (B d12_126)
  replace V39 : Arv Z h39 o3 kk .byte (7 : Int32) [(.int 0), (.int 0), (.int 0), (.int 0), (.int (nar .byte z38)), (.int (nar .byte z25)), (.int (nar .byte z21))] (.int 0) := V39
  have N39 := Fr.snoc X39 N26 geo
  obtain ⟨lc39, X39, N39⟩ := own_gen X39 N39
  have O39 := O26.wr W39 geo
  have K39 : Keep h0 h39 [o3] := K26.wr W39 (Or.inl (List.mem_of_getElem? (i := 0) rfl))
  refine step st39 ?_
  refine step (fun t k => XS.aloadN X39.here hx rfl (B d12_127) (by rw [hls36]; rfl) rfl k) ?_
  obtain ⟨ls40, hls40⟩ := own_sl #[vL x0, s_, vI 7, vR o3, u_, u_, vI r31, vI 3, vI 0, vI y28, vI y28]
  refine step (fun t k => XS.iinc X39.here hx rfl (B d12_128) (by rw [hls36]; rfl) (l' := ls40) (by rw [hls36, hls40]; rfl) k) ?_
  refine step (fun t k => XS.iload X39.here hx rfl (B d12_131) (by rw [hls40]; rfl) k) ?_
  obtain ⟨T41, X41, e41, st41⟩ := getS2 X39 hx hZ hown (host := "") (Or.inl (ww185 hw)) Via.refl e39 (Sta.ext O39.2 ST.k12) (g := (mkF m 133 ls40 [(.int 3), (.ref o3)])) rfl (B d12_133)
  refine step st41 ?_
  refine step (fun t k => XS.iload X41.here hx rfl (B d12_136) (by rw [hls40]; rfl) k) ?_
  have hj42 := own_hj br32
  obtain ⟨z42, hz42, st42⟩ := own_ldDig X41 hx hZ e41 ST.k24 O39.2 hj42 (g := (mkF m 138 ls40 [(.int r31), (.ref w_6), (.int 3), (.ref o3)])) rfl rfl (B d12_138)
  refine step st42 ?_
  obtain ⟨T43, h43, X43, e43, W43, V43, st43⟩ := own_stB X41 hx hZ e41 V39 (j := (3 : Int32)) (by decide) (i := 3) rfl (by show 3 < 7; decide) (g := (mkF m 139 ls40 [(.int z42), (.int 3), (.ref o3)])) rfl rfl (B d12_139)
  replace V43 : Arv Z h43 o3 kk .byte (7 : Int32) [(.int 0), (.int 0), (.int 0), (.int (nar .byte z42)), (.int (nar .byte z38)), (.int (nar .byte z25)), (.int (nar .byte z21))] (.int 0) := V43
  have N43 := Fr.snoc X43 N39 geo
  obtain ⟨lc43, X43, N43⟩ := own_gen X43 N43
  have O43 := O39.wr W43 geo
  have K43 : Keep h0 h43 [o3] := K39.wr W43 (Or.inl (List.mem_of_getElem? (i := 0) rfl))
  refine step st43 ?_
  refine step (fun t k => XS.goto X43.here hx rfl (pc0 := 140) (pc' := 86) rfl (B d12_140) (by decide) (by decide) k) ?_
  refine step (fun t k => XS.iload X43.here hx rfl (B d12_86) (by rw [hls40]; rfl) k) ?_
  refine step (fun t k => XS.bipush X43.here hx rfl (B d12_88) k) ?_
  show G T43 (mkF m 90 ls40 [(.int (-100)), (.int y28)])
  have ho44 := own_n (b := y28) (by decide : (-100 : Int32).toInt = -100) (by omega)
  refine step (fun t k => XS.icmpNo X43.here hx rfl (B d12_90) rfl (flt ho44).2.2.1 k) ?_
  refine step (fun t k => XS.iload X43.here hx rfl (B d12_93) (by rw [hls40]; rfl) k) ?_
  refine step (fun t k => XS.bipush X43.here hx rfl (B d12_95) k) ?_
  refine step (fun t k => XS.idiv X43.here hx rfl (B d12_97) rfl (by decide) k) ?_
  show G T43 (mkF m 98 ls40 [(.int (y28 / (100 : Int32)))])
  obtain ⟨y45, hy45⟩ := own_ex (y28 / (100 : Int32))
  rw [← hy45]
  have bq46 := own_bq hy45 (by omega)
  obtain ⟨ls47, hls47⟩ := own_sl #[vL x0, s_, vI 7, vR o3, u_, u_, vI r31, vI 3, vI 0, vI y45, vI y28]
  refine step (fun t k => XS.istore X43.here hx rfl (B d12_98) rfl (l' := ls47) (by rw [hls40, hls47]; rfl) k) ?_
  refine step (fun t k => XS.iload X43.here hx rfl (B d12_100) (by rw [hls47]; rfl) k) ?_
  refine step (fun t k => XS.bipush X43.here hx rfl (B d12_102) k) ?_
  refine step (fun t k => XS.imul X43.here hx rfl (B d12_104) rfl k) ?_
  refine step (fun t k => XS.iload X43.here hx rfl (B d12_105) (by rw [hls47]; rfl) k) ?_
  refine step (fun t k => XS.isub X43.here hx rfl (B d12_107) rfl k) ?_
  show G T43 (mkF m 108 ls47 [(.int ((y45 * (100 : Int32)) - y28))])
  obtain ⟨r48, hr48⟩ := own_ex ((y45 * (100 : Int32)) - y28)
  rw [← hr48]
  have br49 := own_br bq46 (by omega) hr48
  have bd50 : -10 < y45.toInt ∧ y45.toInt ≤ 0 := by
    omega
  obtain ⟨ls51, hls51⟩ := own_sl #[vL x0, s_, vI 7, vR o3, u_, u_, vI r48, vI 3, vI 0, vI y45, vI y28]
  refine step (fun t k => XS.istore X43.here hx rfl (B d12_108) rfl (l' := ls51) (by rw [hls47, hls51]; rfl) k) ?_
  refine step (fun t k => XS.iload X43.here hx rfl (B d12_110) (by rw [hls51]; rfl) k) ?_
  obtain ⟨ls52, hls52⟩ := own_sl #[vL x0, s_, vI 7, vR o3, u_, u_, vI r48, vI 3, vI 0, vI y45, vI y45]
  refine step (fun t k => XS.istore X43.here hx rfl (B d12_112) rfl (l' := ls52) (by rw [hls51, hls52]; rfl) k) ?_
  refine step (fun t k => XS.aloadN X43.here hx rfl (B d12_114) (by rw [hls52]; rfl) rfl k) ?_
  obtain ⟨ls53, hls53⟩ := own_sl #[vL x0, s_, vI 7, vR o3, u_, u_, vI r48, vI 2, vI 0, vI y45, vI y45]
  refine step (fun t k => XS.iinc X43.here hx rfl (B d12_115) (by rw [hls52]; rfl) (l' := ls53) (by rw [hls52, hls53]; rfl) k) ?_
  refine step (fun t k => XS.iload X43.here hx rfl (B d12_118) (by rw [hls53]; rfl) k) ?_
  show G T43 (mkF m 120 ls53 [(.int 2), (.ref o3)])
  obtain ⟨T54, X54, e54, st54⟩ := getS2 X43 hx hZ hown (host := "") (Or.inl (ww98 hw)) Via.refl e43 (Sta.ext O43.2 ST.k10) (g := (mkF m 120 ls53 [(.int 2), (.ref o3)])) rfl (B d12_120)
  refine step st54 ?_
  refine step (fun t k => XS.iload X54.here hx rfl (B d12_123) (by rw [hls53]; rfl) k) ?_
  have hj55 := own_hj br49
  obtain ⟨z55, hz55, st55⟩ := own_ldDig X54 hx hZ e54 ST.k23 O43.2 hj55 (g := (mkF m 125 ls53 [(.int r48), (.ref w_5), (.int 2), (.ref o3)])) rfl rfl (B d12_125)
  refine step st55 ?_
  obtain ⟨T56, h56, X56, e56, W56, V56, st56⟩ := own_stB X54 hx hZ e54 V43 (j := (2 : Int32)) (by decide) (i := 2) rfl (by show 2 < 7; decide) (g := (mkF m 126 ls53 [(.int z55), (.int 2), (.ref o3)])) rfl rfl (B d12_126)
  replace V56 : Arv Z h56 o3 kk .byte (7 : Int32) [(.int 0), (.int 0), (.int (nar .byte z55)), (.int (nar .byte z42)), (.int (nar .byte z38)), (.int (nar .byte z25)), (.int (nar .byte z21))] (.int 0) := V56
  have N56 := Fr.snoc X56 N43 geo
  obtain ⟨lc56, X56, N56⟩ := own_gen X56 N56
  have O56 := O43.wr W56 geo
  have K56 : Keep h0 h56 [o3] := K43.wr W56 (Or.inl (List.mem_of_getElem? (i := 0) rfl))
  refine step st56 ?_
  refine step (fun t k => XS.aloadN X56.here hx rfl (B d12_127) (by rw [hls53]; rfl) rfl k) ?_
  obtain ⟨ls57, hls57⟩ := own_sl #[vL x0, s_, vI 7, vR o3, u_, u_, vI r48, vI 1, vI 0, vI y45, vI y45]
  refine step (fun t k => XS.iinc X56.here hx rfl (B d12_128) (by rw [hls53]; rfl) (l' := ls57) (by rw [hls53, hls57]; rfl) k) ?_
  refine step (fun t k => XS.iload X56.here hx rfl (B d12_131) (by rw [hls57]; rfl) k) ?_
  obtain ⟨T58, X58, e58, st58⟩ := getS2 X56 hx hZ hown (host := "") (Or.inl (ww185 hw)) Via.refl e56 (Sta.ext O56.2 ST.k12) (g := (mkF m 133 ls57 [(.int 1), (.ref o3)])) rfl (B d12_133)
  refine step st58 ?_
  refine step (fun t k => XS.iload X58.here hx rfl (B d12_136) (by rw [hls57]; rfl) k) ?_
  have hj59 := own_hj br49
  obtain ⟨z59, hz59, st59⟩ := own_ldDig X58 hx hZ e58 ST.k24 O56.2 hj59 (g := (mkF m 138 ls57 [(.int r48), (.ref w_6), (.int 1), (.ref o3)])) rfl rfl (B d12_138)
  refine step st59 ?_
  obtain ⟨T60, h60, X60, e60, W60, V60, st60⟩ := own_stB X58 hx hZ e58 V56 (j := (1 : Int32)) (by decide) (i := 1) rfl (by show 1 < 7; decide) (g := (mkF m 139 ls57 [(.int z59), (.int 1), (.ref o3)])) rfl rfl (B d12_139)
  replace V60 : Arv Z h60 o3 kk .byte (7 : Int32) [(.int 0), (.int (nar .byte z59)), (.int (nar .byte z55)), (.int (nar .byte z42)), (.int (nar .byte z38)), (.int (nar .byte z25)), (.int (nar .byte z21))] (.int 0) := V60
  have N60 := Fr.snoc X60 N56 geo
  obtain ⟨lc60, X60, N60⟩ := own_gen X60 N60
  have O60 := O56.wr W60 geo
  have K60 : Keep h0 h60 [o3] := K56.wr W60 (Or.inl (List.mem_of_getElem? (i := 0) rfl))
  refine step st60 ?_
  refine step (fun t k => XS.goto X60.here hx rfl (pc0 := 140) (pc' := 86) rfl (B d12_140) (by decide) (by decide) k) ?_
  refine step (fun t k => XS.iload X60.here hx rfl (B d12_86) (by rw [hls57]; rfl) k) ?_
  refine step (fun t k => XS.bipush X60.here hx rfl (B d12_88) k) ?_
  show G T60 (mkF m 90 ls57 [(.int (-100)), (.int y45)])
  have ho61 := own_y (b := y45) (by decide : (-100 : Int32).toInt = -100) (by omega)
  refine step (fun t k => XS.icmpYes X60.here hx rfl (pc0 := 90) (pc' := 143) rfl (B d12_90) rfl (tlt ho61).2.2.1 (by decide) (by decide) k) ?_
  refine step (fun t k => XS.aloadN X60.here hx rfl (B d12_143) (by rw [hls57]; rfl) rfl k) ?_
  obtain ⟨ls62, hls62⟩ := own_sl #[vL x0, s_, vI 7, vR o3, u_, u_, vI r48, vI 0, vI 0, vI y45, vI y45]
  refine step (fun t k => XS.iinc X60.here hx rfl (B d12_144) (by rw [hls57]; rfl) (l' := ls62) (by rw [hls57, hls62]; rfl) k) ?_
  refine step (fun t k => XS.iload X60.here hx rfl (B d12_147) (by rw [hls62]; rfl) k) ?_
  obtain ⟨T63, X63, e63, st63⟩ := getS2 X60 hx hZ hown (host := "") (Or.inl (ww98 hw)) Via.refl e60 (Sta.ext O60.2 ST.k10) (g := (mkF m 149 ls62 [(.int 0), (.ref o3)])) rfl (B d12_149)
  refine step st63 ?_
  refine step (fun t k => XS.iload X63.here hx rfl (B d12_152) (by rw [hls62]; rfl) k) ?_
  refine step (fun t k => XS.ineg X63.here hx rfl (B d12_154) rfl k) ?_
  have hj64 := own_hj (own_ng y45 (by omega))
  obtain ⟨z64, hz64, st64⟩ := own_ldDig X63 hx hZ e63 ST.k23 O60.2 hj64 (g := (mkF m 155 ls62 [(.int (-y45)), (.ref w_5), (.int 0), (.ref o3)])) rfl rfl (B d12_155)
  refine step st64 ?_
  obtain ⟨T65, h65, X65, e65, W65, V65, st65⟩ := own_stB X63 hx hZ e63 V60 (j := (0 : Int32)) (by decide) (i := 0) rfl (by show 0 < 7; decide) (g := (mkF m 156 ls62 [(.int z64), (.int 0), (.ref o3)])) rfl rfl (B d12_156)
  replace V65 : Arv Z h65 o3 kk .byte (7 : Int32) [(.int (nar .byte z64)), (.int (nar .byte z59)), (.int (nar .byte z55)), (.int (nar .byte z42)), (.int (nar .byte z38)), (.int (nar .byte z25)), (.int (nar .byte z21))] (.int 0) := V65
  have N65 := Fr.snoc X65 N60 geo
  obtain ⟨lc65, X65, N65⟩ := own_gen X65 N65
  have K65 : Keep h0 h65 [o3] := K60.wr W65 (Or.inl (List.mem_of_getElem? (i := 0) rfl))
  refine step st65 ?_
  refine step (fun t k => XS.iload X65.here hx rfl (B d12_157) (by rw [hls62]; rfl) k) ?_
  refine step (fun t k => XS.bipush X65.here hx rfl (B d12_159) k) ?_
  show G T65 (mkF m 161 ls62 [(.int (-9)), (.int y45)])
  have ho66 := own_nr (b := y45) (by decide : (-9 : Int32).toInt = -9) (by omega)
  refine step (fun t k => XS.icmpYes X65.here hx rfl (pc0 := 161) (pc' := 178) rfl (B d12_161) rfl (flt ho66).2.1 (by decide) (by decide) k) ?_
  refine step (fun t k => XS.iload X65.here hx rfl (B d12_178) (by rw [hls62]; rfl) k) ?_
  refine step (fun t k => XS.ifYes X65.here hx rfl (pc0 := 180) (pc' := 192) rfl (B d12_180) rfl ((if0 _ _).trans (teq (by decide : (0 : Int32) = (0 : Int32))).1) (by decide) (by decide) k) ?_
  refine step (fun t k => XS.iload X65.here hx rfl (B d12_192) (by rw [hls62]; rfl) k) ?_
  exact ret (v := some (.int 0)) X65 (fun h => by rw [Bd.returns] at h; cases h) (fun fs hr => retI X65 hx Bd.returns (B d12_194) hr) e65 ⟨(nar .byte z64), (nar .byte z59), (nar .byte z55), (nar .byte z42), (nar .byte z38), (nar .byte z25), (nar .byte z21), rfl, N65, K65, V65, hz21⟩ (by decide) (by decide)
abbrev rr_gc7n : Room := { frames := 0, cells := 0, slots := 0, locals := 0 }
theorem ef_gc7n (m : MethodId) (q0 : Int64) (o3 : Addr) : entryFrame m #[(.long q0), (.int 8), (.ref o3)] 11 = mkF m 0 #[vL q0, s_, vI 8, vR o3, u_, u_, u_, u_, u_, u_, u_] [] := by first | (simp [entryFrame, mkF, argsToLocals, Value.category]; done) | rfl
def Q_gc7n (Z : State) (w_0 : Addr) (w_1 : Addr) (w_2 : Addr) (w_3 : Addr) (w_4 : Addr) (w_5 : Addr) (w_6 : Addr) (w_7 : Int32) (w_8 : Value) (q0 : Int64) (o3 : Addr) (kk : ClassId) (h0 : Heap) (n0 : Nat) (v : Option Value) (h : Heap) (L : List Loc) : Prop := ∃ c0 : Int32, ∃ c1 : Int32, ∃ c2 : Int32, ∃ c3 : Int32, ∃ c4 : Int32, ∃ c5 : Int32, ∃ c6 : Int32, ∃ c7 : Int32, v = some (.int 0) ∧ Fr n0 L ∧ Keep h0 h [o3] ∧ Arv Z h o3 kk .byte (8 : Int32) [(.int c0), (.int c1), (.int c2), (.int c3), (.int c4), (.int c5), (.int c6), (.int c7)] (.int 0) ∧ ¬ (c7 &&& (255 : Int32)) = (32 : Int32)
theorem rm_gc7n (l : Launch) (Z : State) (a0 : Array Value) (hw : HW Z a0) (ws : List Jvm.Cond) (w_0 : Addr) (w_1 : Addr) (w_2 : Addr) (w_3 : Addr) (w_4 : Addr) (w_5 : Addr) (w_6 : Addr) (w_7 : Int32) (w_8 : Value) (q0 : Int64) (o3 : Addr) (kk : ClassId) (h0 : Heap) (n0 : Nat) (Z0 : n0 ≤ h0.size) (ST : own_St Z w_0 w_1 w_2 w_3 w_4 w_5 w_6 w_7 w_8) (O0 : Old Z n0 h0) (hrg : -2147483648 ≤ q0.toInt ∧ q0.toInt ≤ 2147483647) (hsg : q0 < (0 : Int64)) (hlo : (-10000000 : Int64) < q0) (hhi : ¬ ((-1000000 : Int64) < q0)) (Va : Arv Z h0 o3 kk .byte (8 : Int32) [(.int 0), (.int 0), (.int 0), (.int 0), (.int 0), (.int 0), (.int 0), (.int 0)] (.int 0)) (geo : n0 ≤ o3) :
    MetFree l y_12 (head1 (Jvm.Cond.code y_12 jdk_35_method_14_code 11 (some .int) :: ws) rr_gc7n) (fun a U => a = #[(.long q0), (.int 8), (.ref o3)] ∧ Z.Warmed39 U.vm ∧ U.heap = h0) (fun _ _ _ _ _ => True) (fun _ U o U' => ∃ v L, o = .returned v ∧ Q_gc7n Z w_0 w_1 w_2 w_3 w_4 w_5 w_6 w_7 w_8 q0 o3 kk h0 n0 v U'.heap L ∧ FrameEnd U o U' L rr_gc7n.cells rr_gc7n.slots) := by
  refine MetFree.of_bodySF (plainFor_of_name pn_5) hisR ?_
  intro p e s m args below meth c s₁ Bd hml0 hP hK
  obtain ⟨rfl, hZ, hh⟩ := hP
  have hx := Bd.exec
  have hby := Bd.bytes
  have B := @hb _ _ hby
  have hml : c.maxLocals = 11 := hml0
  have hown : s.vm.findClass cn_3 = some m.cls := findClass_of_methodNamed Bd.named
  have X0 : Stand p l e rr_gc7n s m #[(.long q0), (.int 8), (.ref o3)] below meth c s₁ [] 0 0 := Stand.of_body Bd
  have e0 : s₁.heap = h0 := by rw [← hh, Bd.state]; rfl
  have N0 := Fr.nil n0
  have K0 : Keep h0 h0 [o3] := Keep.refl _ _
  obtain ⟨G, step, ret, fin⟩ := own_openX X0 (rr_gc7n.cells) (rr_gc7n.slots) (Q_gc7n Z w_0 w_1 w_2 w_3 w_4 w_5 w_6 w_7 w_8 q0 o3 kk h0 n0) Bd.notSynchronized
  refine fin (g := entryFrame m #[(.long q0), (.int 8), (.ref o3)] 11) ?_
  rw [ef_gc7n m q0 o3]
  obtain ⟨ls0, hls0⟩ := own_sl #[vL q0, s_, vI 8, vR o3, u_, u_, u_, u_, u_, u_, u_]
  suffices hG0 : G s₁ (mkF m 0 ls0 []) by rw [hls0] at hG0; exact hG0
  refine step (fun t k => XS.iloadN X0.here hx rfl (B d12_0) (by rw [hls0]; rfl) k) ?_
  obtain ⟨ls1, hls1⟩ := own_sl #[vL q0, s_, vI 8, vR o3, u_, u_, u_, vI 8, u_, u_, u_]
  refine step (fun t k => XS.istore X0.here hx rfl (B d12_1) rfl (l' := ls1) (by rw [hls0, hls1]; rfl) k) ?_
  refine step (fun t k => XS.lloadN X0.here hx rfl (B d12_3) (by rw [hls1]; rfl) k) ?_
  refine step (fun t k => XS.lconst X0.here hx rfl (B d12_4) k) ?_
  refine step (fun t k => XS.lcmp X0.here hx rfl (B d12_5) rfl k) ?_
  refine step (fun t k => XS.ifNo X0.here hx rfl (B d12_6) rfl ((if0 _ _).trans (tlt ((lw_lt _ _).mpr hsg)).2.1) k) ?_
  show G s₁ (mkF m 9 ls1 [])
  refine step (fun t k => XS.iconst X0.here hx rfl (B d12_9) k) ?_
  refine step (fun t k => XS.goto X0.here hx rfl (pc0 := 10) (pc' := 14) rfl (B d12_10) (by decide) (by decide) k) ?_
  obtain ⟨ls2, hls2⟩ := own_sl #[vL q0, s_, vI 8, vR o3, u_, u_, u_, vI 8, vI 1, u_, u_]
  refine step (fun t k => XS.istore X0.here hx rfl (B d12_14) rfl (l' := ls2) (by rw [hls1, hls2]; rfl) k) ?_
  refine step (fun t k => XS.iload X0.here hx rfl (B d12_16) (by rw [hls2]; rfl) k) ?_
  refine step (fun t k => XS.ifYes X0.here hx rfl (pc0 := 18) (pc' := 24) rfl (B d12_18) rfl ((if0 _ _).trans (feq (by decide : ¬ ((1 : Int32) = (0 : Int32)))).2) (by decide) (by decide) k) ?_
  have bd3 : -10000000 < q0.toInt ∧ q0.toInt ≤ -1000000 := by
    have k0 : (0 : Int64).toInt = 0 := by decide
    rw [own_xltL] at hsg
    have k1 : (-10000000 : Int64).toInt = -10000000 := by decide
    rw [own_xltL] at hlo
    have k2 : (-1000000 : Int64).toInt = -1000000 := by decide
    rw [own_xltL] at hhi
    omega
  refine step (fun t k => XS.lloadN X0.here hx rfl (B d12_24) (by rw [hls2]; rfl) k) ?_
  show G s₁ (mkF m 25 ls2 [(.long q0)])
  have q4 := X0.ldc2Long hx hown (mvT hZ (ww97 hw)) (g := (mkF m 25 ls2 [(.long q0)])) rfl (B d12_25)
  refine step q4 ?_
  refine step (fun t k => XS.lcmp X0.here hx rfl (B d12_28) rfl k) ?_
  have ho5 := own_yL (b := q0) (by decide : (-2147483648 : Int64).toInt = -2147483648) (by omega)
  refine step (fun t k => XS.ifYes X0.here hx rfl (pc0 := 29) (pc' := 82) rfl (B d12_29) rfl ((if0 _ _).trans (tlt ((lw_gt _ _).mpr ho5)).2.2.1) (by decide) (by decide) k) ?_
  refine step (fun t k => XS.lloadN X0.here hx rfl (B d12_82) (by rw [hls2]; rfl) k) ?_
  refine step (fun t k => XS.l2i X0.here hx rfl (B d12_83) rfl k) ?_
  show G s₁ (mkF m 84 ls2 [(.int (q0.toInt32))])
  obtain ⟨y6, hy6⟩ := own_ex (q0.toInt32)
  rw [← hy6]
  have bd7 : -10000000 < y6.toInt ∧ y6.toInt ≤ -1000000 := by
    rw [hy6]
    have c1 := c_l2i q0
    have r1 := rng32 q0.toInt32
    omega
  obtain ⟨ls8, hls8⟩ := own_sl #[vL q0, s_, vI 8, vR o3, u_, u_, u_, vI 8, vI 1, u_, vI y6]
  refine step (fun t k => XS.istore X0.here hx rfl (B d12_84) rfl (l' := ls8) (by rw [hls2, hls8]; rfl) k) ?_
  refine step (fun t k => XS.iload X0.here hx rfl (B d12_86) (by rw [hls8]; rfl) k) ?_
  refine step (fun t k => XS.bipush X0.here hx rfl (B d12_88) k) ?_
  show G s₁ (mkF m 90 ls8 [(.int (-100)), (.int y6)])
  have ho9 := own_n (b := y6) (by decide : (-100 : Int32).toInt = -100) (by omega)
  refine step (fun t k => XS.icmpNo X0.here hx rfl (B d12_90) rfl (flt ho9).2.2.1 k) ?_
  refine step (fun t k => XS.iload X0.here hx rfl (B d12_93) (by rw [hls8]; rfl) k) ?_
  refine step (fun t k => XS.bipush X0.here hx rfl (B d12_95) k) ?_
  refine step (fun t k => XS.idiv X0.here hx rfl (B d12_97) rfl (by decide) k) ?_
  show G s₁ (mkF m 98 ls8 [(.int (y6 / (100 : Int32)))])
  obtain ⟨y10, hy10⟩ := own_ex (y6 / (100 : Int32))
  rw [← hy10]
  have bq11 := own_bq hy10 (by omega)
  obtain ⟨ls12, hls12⟩ := own_sl #[vL q0, s_, vI 8, vR o3, u_, u_, u_, vI 8, vI 1, vI y10, vI y6]
  refine step (fun t k => XS.istore X0.here hx rfl (B d12_98) rfl (l' := ls12) (by rw [hls8, hls12]; rfl) k) ?_
  refine step (fun t k => XS.iload X0.here hx rfl (B d12_100) (by rw [hls12]; rfl) k) ?_
  refine step (fun t k => XS.bipush X0.here hx rfl (B d12_102) k) ?_
  refine step (fun t k => XS.imul X0.here hx rfl (B d12_104) rfl k) ?_
  refine step (fun t k => XS.iload X0.here hx rfl (B d12_105) (by rw [hls12]; rfl) k) ?_
  refine step (fun t k => XS.isub X0.here hx rfl (B d12_107) rfl k) ?_
  show G s₁ (mkF m 108 ls12 [(.int ((y10 * (100 : Int32)) - y6))])
  obtain ⟨r13, hr13⟩ := own_ex ((y10 * (100 : Int32)) - y6)
  rw [← hr13]
  have br14 := own_br bq11 (by omega) hr13
  have bd15 : -100000 < y10.toInt ∧ y10.toInt ≤ -10000 := by
    omega
  obtain ⟨ls16, hls16⟩ := own_sl #[vL q0, s_, vI 8, vR o3, u_, u_, vI r13, vI 8, vI 1, vI y10, vI y6]
  refine step (fun t k => XS.istore X0.here hx rfl (B d12_108) rfl (l' := ls16) (by rw [hls12, hls16]; rfl) k) ?_
  refine step (fun t k => XS.iload X0.here hx rfl (B d12_110) (by rw [hls16]; rfl) k) ?_
  obtain ⟨ls17, hls17⟩ := own_sl #[vL q0, s_, vI 8, vR o3, u_, u_, vI r13, vI 8, vI 1, vI y10, vI y10]
  refine step (fun t k => XS.istore X0.here hx rfl (B d12_112) rfl (l' := ls17) (by rw [hls16, hls17]; rfl) k) ?_
  refine step (fun t k => XS.aloadN X0.here hx rfl (B d12_114) (by rw [hls17]; rfl) rfl k) ?_
  obtain ⟨ls18, hls18⟩ := own_sl #[vL q0, s_, vI 8, vR o3, u_, u_, vI r13, vI 7, vI 1, vI y10, vI y10]
  refine step (fun t k => XS.iinc X0.here hx rfl (B d12_115) (by rw [hls17]; rfl) (l' := ls18) (by rw [hls17, hls18]; rfl) k) ?_
  refine step (fun t k => XS.iload X0.here hx rfl (B d12_118) (by rw [hls18]; rfl) k) ?_
  show G s₁ (mkF m 120 ls18 [(.int 7), (.ref o3)])
  obtain ⟨T19, X19, e19, st19⟩ := getS2 X0 hx hZ hown (host := "") (Or.inl (ww98 hw)) Via.refl e0 (Sta.ext O0.2 ST.k10) (g := (mkF m 120 ls18 [(.int 7), (.ref o3)])) rfl (B d12_120)
  refine step st19 ?_
  refine step (fun t k => XS.iload X19.here hx rfl (B d12_123) (by rw [hls18]; rfl) k) ?_
  have hj20 := own_hj br14
  obtain ⟨z20, hz20, st20⟩ := own_ldDig X19 hx hZ e19 ST.k23 O0.2 hj20 (g := (mkF m 125 ls18 [(.int r13), (.ref w_5), (.int 7), (.ref o3)])) rfl rfl (B d12_125)
  refine step st20 ?_
  obtain ⟨T21, h21, X21, e21, W21, V21, st21⟩ := own_stB X19 hx hZ e19 Va (j := (7 : Int32)) (by decide) (i := 7) rfl (by show 7 < 8; decide) (g := (mkF m 126 ls18 [(.int z20), (.int 7), (.ref o3)])) rfl rfl (B d12_126)
  replace V21 : Arv Z h21 o3 kk .byte (8 : Int32) [(.int 0), (.int 0), (.int 0), (.int 0), (.int 0), (.int 0), (.int 0), (.int (nar .byte z20))] (.int 0) := V21
  have N21 := Fr.snoc X21 N0 geo
  obtain ⟨lc21, X21, N21⟩ := own_gen X21 N21
  have O21 := O0.wr W21 geo
  have K21 : Keep h0 h21 [o3] := K0.wr W21 (Or.inl (List.mem_of_getElem? (i := 0) rfl))
  refine step st21 ?_
  refine step (fun t k => XS.aloadN X21.here hx rfl (B d12_127) (by rw [hls18]; rfl) rfl k) ?_
  obtain ⟨ls22, hls22⟩ := own_sl #[vL q0, s_, vI 8, vR o3, u_, u_, vI r13, vI 6, vI 1, vI y10, vI y10]
  refine step (fun t k => XS.iinc X21.here hx rfl (B d12_128) (by rw [hls18]; rfl) (l' := ls22) (by rw [hls18, hls22]; rfl) k) ?_
  refine step (fun t k => XS.iload X21.here hx rfl (B d12_131) (by rw [hls22]; rfl) k) ?_
  obtain ⟨T23, X23, e23, st23⟩ := getS2 X21 hx hZ hown (host := "") (Or.inl (ww185 hw)) Via.refl e21 (Sta.ext O21.2 ST.k12) (g := (mkF m 133 ls22 [(.int 6), (.ref o3)])) rfl (B d12_133)
  refine step st23 ?_
  refine step (fun t k => XS.iload X23.here hx rfl (B d12_136) (by rw [hls22]; rfl) k) ?_
  have hj24 := own_hj br14
  obtain ⟨z24, hz24, st24⟩ := own_ldDig X23 hx hZ e23 ST.k24 O21.2 hj24 (g := (mkF m 138 ls22 [(.int r13), (.ref w_6), (.int 6), (.ref o3)])) rfl rfl (B d12_138)
  refine step st24 ?_
  obtain ⟨T25, h25, X25, e25, W25, V25, st25⟩ := own_stB X23 hx hZ e23 V21 (j := (6 : Int32)) (by decide) (i := 6) rfl (by show 6 < 8; decide) (g := (mkF m 139 ls22 [(.int z24), (.int 6), (.ref o3)])) rfl rfl (B d12_139)
  replace V25 : Arv Z h25 o3 kk .byte (8 : Int32) [(.int 0), (.int 0), (.int 0), (.int 0), (.int 0), (.int 0), (.int (nar .byte z24)), (.int (nar .byte z20))] (.int 0) := V25
  have N25 := Fr.snoc X25 N21 geo
  obtain ⟨lc25, X25, N25⟩ := own_gen X25 N25
  have O25 := O21.wr W25 geo
  have K25 : Keep h0 h25 [o3] := K21.wr W25 (Or.inl (List.mem_of_getElem? (i := 0) rfl))
  refine step st25 ?_
  refine step (fun t k => XS.goto X25.here hx rfl (pc0 := 140) (pc' := 86) rfl (B d12_140) (by decide) (by decide) k) ?_
  refine step (fun t k => XS.iload X25.here hx rfl (B d12_86) (by rw [hls22]; rfl) k) ?_
  refine step (fun t k => XS.bipush X25.here hx rfl (B d12_88) k) ?_
  show G T25 (mkF m 90 ls22 [(.int (-100)), (.int y10)])
  have ho26 := own_n (b := y10) (by decide : (-100 : Int32).toInt = -100) (by omega)
  refine step (fun t k => XS.icmpNo X25.here hx rfl (B d12_90) rfl (flt ho26).2.2.1 k) ?_
  refine step (fun t k => XS.iload X25.here hx rfl (B d12_93) (by rw [hls22]; rfl) k) ?_
  refine step (fun t k => XS.bipush X25.here hx rfl (B d12_95) k) ?_
  refine step (fun t k => XS.idiv X25.here hx rfl (B d12_97) rfl (by decide) k) ?_
  show G T25 (mkF m 98 ls22 [(.int (y10 / (100 : Int32)))])
  obtain ⟨y27, hy27⟩ := own_ex (y10 / (100 : Int32))
  rw [← hy27]
  have bq28 := own_bq hy27 (by omega)
  obtain ⟨ls29, hls29⟩ := own_sl #[vL q0, s_, vI 8, vR o3, u_, u_, vI r13, vI 6, vI 1, vI y27, vI y10]
  refine step (fun t k => XS.istore X25.here hx rfl (B d12_98) rfl (l' := ls29) (by rw [hls22, hls29]; rfl) k) ?_
  refine step (fun t k => XS.iload X25.here hx rfl (B d12_100) (by rw [hls29]; rfl) k) ?_
  refine step (fun t k => XS.bipush X25.here hx rfl (B d12_102) k) ?_
  refine step (fun t k => XS.imul X25.here hx rfl (B d12_104) rfl k) ?_
  refine step (fun t k => XS.iload X25.here hx rfl (B d12_105) (by rw [hls29]; rfl) k) ?_
  refine step (fun t k => XS.isub X25.here hx rfl (B d12_107) rfl k) ?_
  show G T25 (mkF m 108 ls29 [(.int ((y27 * (100 : Int32)) - y10))])
  obtain ⟨r30, hr30⟩ := own_ex ((y27 * (100 : Int32)) - y10)
  rw [← hr30]
  have br31 := own_br bq28 (by omega) hr30
  have bd32 : -1000 < y27.toInt ∧ y27.toInt ≤ -100 := by
    omega
  obtain ⟨ls33, hls33⟩ := own_sl #[vL q0, s_, vI 8, vR o3, u_, u_, vI r30, vI 6, vI 1, vI y27, vI y10]
  refine step (fun t k => XS.istore X25.here hx rfl (B d12_108) rfl (l' := ls33) (by rw [hls29, hls33]; rfl) k) ?_
  refine step (fun t k => XS.iload X25.here hx rfl (B d12_110) (by rw [hls33]; rfl) k) ?_
  obtain ⟨ls34, hls34⟩ := own_sl #[vL q0, s_, vI 8, vR o3, u_, u_, vI r30, vI 6, vI 1, vI y27, vI y27]
  refine step (fun t k => XS.istore X25.here hx rfl (B d12_112) rfl (l' := ls34) (by rw [hls33, hls34]; rfl) k) ?_
  refine step (fun t k => XS.aloadN X25.here hx rfl (B d12_114) (by rw [hls34]; rfl) rfl k) ?_
  obtain ⟨ls35, hls35⟩ := own_sl #[vL q0, s_, vI 8, vR o3, u_, u_, vI r30, vI 5, vI 1, vI y27, vI y27]
  refine step (fun t k => XS.iinc X25.here hx rfl (B d12_115) (by rw [hls34]; rfl) (l' := ls35) (by rw [hls34, hls35]; rfl) k) ?_
  refine step (fun t k => XS.iload X25.here hx rfl (B d12_118) (by rw [hls35]; rfl) k) ?_
  show G T25 (mkF m 120 ls35 [(.int 5), (.ref o3)])
  obtain ⟨T36, X36, e36, st36⟩ := getS2 X25 hx hZ hown (host := "") (Or.inl (ww98 hw)) Via.refl e25 (Sta.ext O25.2 ST.k10) (g := (mkF m 120 ls35 [(.int 5), (.ref o3)])) rfl (B d12_120)
  refine step st36 ?_
  refine step (fun t k => XS.iload X36.here hx rfl (B d12_123) (by rw [hls35]; rfl) k) ?_
  have hj37 := own_hj br31
  obtain ⟨z37, hz37, st37⟩ := own_ldDig X36 hx hZ e36 ST.k23 O25.2 hj37 (g := (mkF m 125 ls35 [(.int r30), (.ref w_5), (.int 5), (.ref o3)])) rfl rfl (B d12_125)
  refine step st37 ?_
  obtain ⟨T38, h38, X38, e38, W38, V38, st38⟩ := own_stB X36 hx hZ e36 V25 (j := (5 : Int32)) (by decide) (i := 5) rfl (by show 5 < 8; decide) (g := (mkF m 126 ls35 [(.int z37), (.int 5), (.ref o3)])) rfl rfl (B d12_126)
  replace V38 : Arv Z h38 o3 kk .byte (8 : Int32) [(.int 0), (.int 0), (.int 0), (.int 0), (.int 0), (.int (nar .byte z37)), (.int (nar .byte z24)), (.int (nar .byte z20))] (.int 0) := V38
  have N38 := Fr.snoc X38 N25 geo
  obtain ⟨lc38, X38, N38⟩ := own_gen X38 N38
  have O38 := O25.wr W38 geo
  have K38 : Keep h0 h38 [o3] := K25.wr W38 (Or.inl (List.mem_of_getElem? (i := 0) rfl))
  refine step st38 ?_
  refine step (fun t k => XS.aloadN X38.here hx rfl (B d12_127) (by rw [hls35]; rfl) rfl k) ?_
  obtain ⟨ls39, hls39⟩ := own_sl #[vL q0, s_, vI 8, vR o3, u_, u_, vI r30, vI 4, vI 1, vI y27, vI y27]
  refine step (fun t k => XS.iinc X38.here hx rfl (B d12_128) (by rw [hls35]; rfl) (l' := ls39) (by rw [hls35, hls39]; rfl) k) ?_
  refine step (fun t k => XS.iload X38.here hx rfl (B d12_131) (by rw [hls39]; rfl) k) ?_
  obtain ⟨T40, X40, e40, st40⟩ := getS2 X38 hx hZ hown (host := "") (Or.inl (ww185 hw)) Via.refl e38 (Sta.ext O38.2 ST.k12) (g := (mkF m 133 ls39 [(.int 4), (.ref o3)])) rfl (B d12_133)
  refine step st40 ?_
  refine step (fun t k => XS.iload X40.here hx rfl (B d12_136) (by rw [hls39]; rfl) k) ?_
  have hj41 := own_hj br31
  obtain ⟨z41, hz41, st41⟩ := own_ldDig X40 hx hZ e40 ST.k24 O38.2 hj41 (g := (mkF m 138 ls39 [(.int r30), (.ref w_6), (.int 4), (.ref o3)])) rfl rfl (B d12_138)
  refine step st41 ?_
  obtain ⟨T42, h42, X42, e42, W42, V42, st42⟩ := own_stB X40 hx hZ e40 V38 (j := (4 : Int32)) (by decide) (i := 4) rfl (by show 4 < 8; decide) (g := (mkF m 139 ls39 [(.int z41), (.int 4), (.ref o3)])) rfl rfl (B d12_139)
  replace V42 : Arv Z h42 o3 kk .byte (8 : Int32) [(.int 0), (.int 0), (.int 0), (.int 0), (.int (nar .byte z41)), (.int (nar .byte z37)), (.int (nar .byte z24)), (.int (nar .byte z20))] (.int 0) := V42
  have N42 := Fr.snoc X42 N38 geo
  obtain ⟨lc42, X42, N42⟩ := own_gen X42 N42
  have O42 := O38.wr W42 geo
  have K42 : Keep h0 h42 [o3] := K38.wr W42 (Or.inl (List.mem_of_getElem? (i := 0) rfl))
  refine step st42 ?_
  refine step (fun t k => XS.goto X42.here hx rfl (pc0 := 140) (pc' := 86) rfl (B d12_140) (by decide) (by decide) k) ?_
  refine step (fun t k => XS.iload X42.here hx rfl (B d12_86) (by rw [hls39]; rfl) k) ?_
  refine step (fun t k => XS.bipush X42.here hx rfl (B d12_88) k) ?_
  show G T42 (mkF m 90 ls39 [(.int (-100)), (.int y27)])
  have ho43 := own_n (b := y27) (by decide : (-100 : Int32).toInt = -100) (by omega)
  refine step (fun t k => XS.icmpNo X42.here hx rfl (B d12_90) rfl (flt ho43).2.2.1 k) ?_
  refine step (fun t k => XS.iload X42.here hx rfl (B d12_93) (by rw [hls39]; rfl) k) ?_
  refine step (fun t k => XS.bipush X42.here hx rfl (B d12_95) k) ?_
  refine step (fun t k => XS.idiv X42.here hx rfl (B d12_97) rfl (by decide) k) ?_
  show G T42 (mkF m 98 ls39 [(.int (y27 / (100 : Int32)))])
  obtain ⟨y44, hy44⟩ := own_ex (y27 / (100 : Int32))
  rw [← hy44]
  have bq45 := own_bq hy44 (by omega)
  obtain ⟨ls46, hls46⟩ := own_sl #[vL q0, s_, vI 8, vR o3, u_, u_, vI r30, vI 4, vI 1, vI y44, vI y27]
  refine step (fun t k => XS.istore X42.here hx rfl (B d12_98) rfl (l' := ls46) (by rw [hls39, hls46]; rfl) k) ?_
  refine step (fun t k => XS.iload X42.here hx rfl (B d12_100) (by rw [hls46]; rfl) k) ?_
  refine step (fun t k => XS.bipush X42.here hx rfl (B d12_102) k) ?_
  refine step (fun t k => XS.imul X42.here hx rfl (B d12_104) rfl k) ?_
  refine step (fun t k => XS.iload X42.here hx rfl (B d12_105) (by rw [hls46]; rfl) k) ?_
  refine step (fun t k => XS.isub X42.here hx rfl (B d12_107) rfl k) ?_
  show G T42 (mkF m 108 ls46 [(.int ((y44 * (100 : Int32)) - y27))])
  obtain ⟨r47, hr47⟩ := own_ex ((y44 * (100 : Int32)) - y27)
  rw [← hr47]
  have br48 := own_br bq45 (by omega) hr47
  have bd49 : -10 < y44.toInt ∧ y44.toInt ≤ 0 := by
    omega
  obtain ⟨ls50, hls50⟩ := own_sl #[vL q0, s_, vI 8, vR o3, u_, u_, vI r47, vI 4, vI 1, vI y44, vI y27]
  refine step (fun t k => XS.istore X42.here hx rfl (B d12_108) rfl (l' := ls50) (by rw [hls46, hls50]; rfl) k) ?_
  refine step (fun t k => XS.iload X42.here hx rfl (B d12_110) (by rw [hls50]; rfl) k) ?_
  obtain ⟨ls51, hls51⟩ := own_sl #[vL q0, s_, vI 8, vR o3, u_, u_, vI r47, vI 4, vI 1, vI y44, vI y44]
  refine step (fun t k => XS.istore X42.here hx rfl (B d12_112) rfl (l' := ls51) (by rw [hls50, hls51]; rfl) k) ?_
  refine step (fun t k => XS.aloadN X42.here hx rfl (B d12_114) (by rw [hls51]; rfl) rfl k) ?_
  obtain ⟨ls52, hls52⟩ := own_sl #[vL q0, s_, vI 8, vR o3, u_, u_, vI r47, vI 3, vI 1, vI y44, vI y44]
  refine step (fun t k => XS.iinc X42.here hx rfl (B d12_115) (by rw [hls51]; rfl) (l' := ls52) (by rw [hls51, hls52]; rfl) k) ?_
  refine step (fun t k => XS.iload X42.here hx rfl (B d12_118) (by rw [hls52]; rfl) k) ?_
  show G T42 (mkF m 120 ls52 [(.int 3), (.ref o3)])
  obtain ⟨T53, X53, e53, st53⟩ := getS2 X42 hx hZ hown (host := "") (Or.inl (ww98 hw)) Via.refl e42 (Sta.ext O42.2 ST.k10) (g := (mkF m 120 ls52 [(.int 3), (.ref o3)])) rfl (B d12_120)
  refine step st53 ?_
  refine step (fun t k => XS.iload X53.here hx rfl (B d12_123) (by rw [hls52]; rfl) k) ?_
  have hj54 := own_hj br48
  obtain ⟨z54, hz54, st54⟩ := own_ldDig X53 hx hZ e53 ST.k23 O42.2 hj54 (g := (mkF m 125 ls52 [(.int r47), (.ref w_5), (.int 3), (.ref o3)])) rfl rfl (B d12_125)
  refine step st54 ?_
  obtain ⟨T55, h55, X55, e55, W55, V55, st55⟩ := own_stB X53 hx hZ e53 V42 (j := (3 : Int32)) (by decide) (i := 3) rfl (by show 3 < 8; decide) (g := (mkF m 126 ls52 [(.int z54), (.int 3), (.ref o3)])) rfl rfl (B d12_126)
  replace V55 : Arv Z h55 o3 kk .byte (8 : Int32) [(.int 0), (.int 0), (.int 0), (.int (nar .byte z54)), (.int (nar .byte z41)), (.int (nar .byte z37)), (.int (nar .byte z24)), (.int (nar .byte z20))] (.int 0) := V55
  have N55 := Fr.snoc X55 N42 geo
  obtain ⟨lc55, X55, N55⟩ := own_gen X55 N55
  have O55 := O42.wr W55 geo
  have K55 : Keep h0 h55 [o3] := K42.wr W55 (Or.inl (List.mem_of_getElem? (i := 0) rfl))
  refine step st55 ?_
  refine step (fun t k => XS.aloadN X55.here hx rfl (B d12_127) (by rw [hls52]; rfl) rfl k) ?_
  obtain ⟨ls56, hls56⟩ := own_sl #[vL q0, s_, vI 8, vR o3, u_, u_, vI r47, vI 2, vI 1, vI y44, vI y44]
  refine step (fun t k => XS.iinc X55.here hx rfl (B d12_128) (by rw [hls52]; rfl) (l' := ls56) (by rw [hls52, hls56]; rfl) k) ?_
  refine step (fun t k => XS.iload X55.here hx rfl (B d12_131) (by rw [hls56]; rfl) k) ?_
  obtain ⟨T57, X57, e57, st57⟩ := getS2 X55 hx hZ hown (host := "") (Or.inl (ww185 hw)) Via.refl e55 (Sta.ext O55.2 ST.k12) (g := (mkF m 133 ls56 [(.int 2), (.ref o3)])) rfl (B d12_133)
  refine step st57 ?_
  refine step (fun t k => XS.iload X57.here hx rfl (B d12_136) (by rw [hls56]; rfl) k) ?_
  have hj58 := own_hj br48
  obtain ⟨z58, hz58, st58⟩ := own_ldDig X57 hx hZ e57 ST.k24 O55.2 hj58 (g := (mkF m 138 ls56 [(.int r47), (.ref w_6), (.int 2), (.ref o3)])) rfl rfl (B d12_138)
  refine step st58 ?_
  obtain ⟨T59, h59, X59, e59, W59, V59, st59⟩ := own_stB X57 hx hZ e57 V55 (j := (2 : Int32)) (by decide) (i := 2) rfl (by show 2 < 8; decide) (g := (mkF m 139 ls56 [(.int z58), (.int 2), (.ref o3)])) rfl rfl (B d12_139)
  replace V59 : Arv Z h59 o3 kk .byte (8 : Int32) [(.int 0), (.int 0), (.int (nar .byte z58)), (.int (nar .byte z54)), (.int (nar .byte z41)), (.int (nar .byte z37)), (.int (nar .byte z24)), (.int (nar .byte z20))] (.int 0) := V59
  have N59 := Fr.snoc X59 N55 geo
  obtain ⟨lc59, X59, N59⟩ := own_gen X59 N59
  have O59 := O55.wr W59 geo
  have K59 : Keep h0 h59 [o3] := K55.wr W59 (Or.inl (List.mem_of_getElem? (i := 0) rfl))
  refine step st59 ?_
  refine step (fun t k => XS.goto X59.here hx rfl (pc0 := 140) (pc' := 86) rfl (B d12_140) (by decide) (by decide) k) ?_
  refine step (fun t k => XS.iload X59.here hx rfl (B d12_86) (by rw [hls56]; rfl) k) ?_
  refine step (fun t k => XS.bipush X59.here hx rfl (B d12_88) k) ?_
  show G T59 (mkF m 90 ls56 [(.int (-100)), (.int y44)])
  have ho60 := own_y (b := y44) (by decide : (-100 : Int32).toInt = -100) (by omega)
  refine step (fun t k => XS.icmpYes X59.here hx rfl (pc0 := 90) (pc' := 143) rfl (B d12_90) rfl (tlt ho60).2.2.1 (by decide) (by decide) k) ?_
  refine step (fun t k => XS.aloadN X59.here hx rfl (B d12_143) (by rw [hls56]; rfl) rfl k) ?_
  obtain ⟨ls61, hls61⟩ := own_sl #[vL q0, s_, vI 8, vR o3, u_, u_, vI r47, vI 1, vI 1, vI y44, vI y44]
  refine step (fun t k => XS.iinc X59.here hx rfl (B d12_144) (by rw [hls56]; rfl) (l' := ls61) (by rw [hls56, hls61]; rfl) k) ?_
  refine step (fun t k => XS.iload X59.here hx rfl (B d12_147) (by rw [hls61]; rfl) k) ?_
  obtain ⟨T62, X62, e62, st62⟩ := getS2 X59 hx hZ hown (host := "") (Or.inl (ww98 hw)) Via.refl e59 (Sta.ext O59.2 ST.k10) (g := (mkF m 149 ls61 [(.int 1), (.ref o3)])) rfl (B d12_149)
  refine step st62 ?_
  refine step (fun t k => XS.iload X62.here hx rfl (B d12_152) (by rw [hls61]; rfl) k) ?_
  refine step (fun t k => XS.ineg X62.here hx rfl (B d12_154) rfl k) ?_
  have hj63 := own_hj (own_ng y44 (by omega))
  obtain ⟨z63, hz63, st63⟩ := own_ldDig X62 hx hZ e62 ST.k23 O59.2 hj63 (g := (mkF m 155 ls61 [(.int (-y44)), (.ref w_5), (.int 1), (.ref o3)])) rfl rfl (B d12_155)
  refine step st63 ?_
  obtain ⟨T64, h64, X64, e64, W64, V64, st64⟩ := own_stB X62 hx hZ e62 V59 (j := (1 : Int32)) (by decide) (i := 1) rfl (by show 1 < 8; decide) (g := (mkF m 156 ls61 [(.int z63), (.int 1), (.ref o3)])) rfl rfl (B d12_156)
  replace V64 : Arv Z h64 o3 kk .byte (8 : Int32) [(.int 0), (.int (nar .byte z63)), (.int (nar .byte z58)), (.int (nar .byte z54)), (.int (nar .byte z41)), (.int (nar .byte z37)), (.int (nar .byte z24)), (.int (nar .byte z20))] (.int 0) := V64
  have N64 := Fr.snoc X64 N59 geo
  obtain ⟨lc64, X64, N64⟩ := own_gen X64 N64
  have K64 : Keep h0 h64 [o3] := K59.wr W64 (Or.inl (List.mem_of_getElem? (i := 0) rfl))
  refine step st64 ?_
  refine step (fun t k => XS.iload X64.here hx rfl (B d12_157) (by rw [hls61]; rfl) k) ?_
  refine step (fun t k => XS.bipush X64.here hx rfl (B d12_159) k) ?_
  show G T64 (mkF m 161 ls61 [(.int (-9)), (.int y44)])
  have ho65 := own_nr (b := y44) (by decide : (-9 : Int32).toInt = -9) (by omega)
  refine step (fun t k => XS.icmpYes X64.here hx rfl (pc0 := 161) (pc' := 178) rfl (B d12_161) rfl (flt ho65).2.1 (by decide) (by decide) k) ?_
  refine step (fun t k => XS.iload X64.here hx rfl (B d12_178) (by rw [hls61]; rfl) k) ?_
  refine step (fun t k => XS.ifNo X64.here hx rfl (B d12_180) rfl ((if0 _ _).trans (feq (by decide : ¬ ((1 : Int32) = (0 : Int32)))).1) k) ?_
  refine step (fun t k => XS.aloadN X64.here hx rfl (B d12_183) (by rw [hls61]; rfl) rfl k) ?_
  obtain ⟨ls66, hls66⟩ := own_sl #[vL q0, s_, vI 8, vR o3, u_, u_, vI r47, vI 0, vI 1, vI y44, vI y44]
  refine step (fun t k => XS.iinc X64.here hx rfl (B d12_184) (by rw [hls61]; rfl) (l' := ls66) (by rw [hls61, hls66]; rfl) k) ?_
  refine step (fun t k => XS.iload X64.here hx rfl (B d12_187) (by rw [hls66]; rfl) k) ?_
  show G T64 (mkF m 189 ls66 [(.int 0), (.ref o3)])
  refine step (fun t k => XS.bipush X64.here hx rfl (B d12_189) k) ?_
  show G T64 (mkF m 191 ls66 [(.int 45), (.int 0), (.ref o3)])
  obtain ⟨T67, h67, X67, e67, W67, V67, st67⟩ := own_stB X64 hx hZ e64 V64 (j := (0 : Int32)) (by decide) (i := 0) rfl (by show 0 < 8; decide) (g := (mkF m 191 ls66 [(.int 45), (.int 0), (.ref o3)])) rfl rfl (B d12_191)
  replace V67 : Arv Z h67 o3 kk .byte (8 : Int32) [(.int (nar .byte (45 : Int32))), (.int (nar .byte z63)), (.int (nar .byte z58)), (.int (nar .byte z54)), (.int (nar .byte z41)), (.int (nar .byte z37)), (.int (nar .byte z24)), (.int (nar .byte z20))] (.int 0) := V67
  have N67 := Fr.snoc X67 N64 geo
  obtain ⟨lc67, X67, N67⟩ := own_gen X67 N67
  have K67 : Keep h0 h67 [o3] := K64.wr W67 (Or.inl (List.mem_of_getElem? (i := 0) rfl))
  refine step st67 ?_
  refine step (fun t k => XS.iload X67.here hx rfl (B d12_192) (by rw [hls66]; rfl) k) ?_
  exact ret (v := some (.int 0)) X67 (fun h => by rw [Bd.returns] at h; cases h) (fun fs hr => retI X67 hx Bd.returns (B d12_194) hr) e67 ⟨(nar .byte (45 : Int32)), (nar .byte z63), (nar .byte z58), (nar .byte z54), (nar .byte z41), (nar .byte z37), (nar .byte z24), (nar .byte z20), rfl, N67, K67, V67, hz20⟩ (by decide) (by decide)
abbrev rr_gc8p : Room := { frames := 0, cells := 0, slots := 0, locals := 0 }
theorem ef_gc8p (m : MethodId) (q0 : Int64) (o3 : Addr) : entryFrame m #[(.long q0), (.int 8), (.ref o3)] 11 = mkF m 0 #[vL q0, s_, vI 8, vR o3, u_, u_, u_, u_, u_, u_, u_] [] := by first | (simp [entryFrame, mkF, argsToLocals, Value.category]; done) | rfl
def Q_gc8p (Z : State) (w_0 : Addr) (w_1 : Addr) (w_2 : Addr) (w_3 : Addr) (w_4 : Addr) (w_5 : Addr) (w_6 : Addr) (w_7 : Int32) (w_8 : Value) (q0 : Int64) (o3 : Addr) (kk : ClassId) (h0 : Heap) (n0 : Nat) (v : Option Value) (h : Heap) (L : List Loc) : Prop := ∃ c0 : Int32, ∃ c1 : Int32, ∃ c2 : Int32, ∃ c3 : Int32, ∃ c4 : Int32, ∃ c5 : Int32, ∃ c6 : Int32, ∃ c7 : Int32, v = some (.int 0) ∧ Fr n0 L ∧ Keep h0 h [o3] ∧ Arv Z h o3 kk .byte (8 : Int32) [(.int c0), (.int c1), (.int c2), (.int c3), (.int c4), (.int c5), (.int c6), (.int c7)] (.int 0) ∧ ¬ (c7 &&& (255 : Int32)) = (32 : Int32)
theorem rm_gc8p (l : Launch) (Z : State) (a0 : Array Value) (hw : HW Z a0) (ws : List Jvm.Cond) (w_0 : Addr) (w_1 : Addr) (w_2 : Addr) (w_3 : Addr) (w_4 : Addr) (w_5 : Addr) (w_6 : Addr) (w_7 : Int32) (w_8 : Value) (q0 : Int64) (o3 : Addr) (kk : ClassId) (h0 : Heap) (n0 : Nat) (Z0 : n0 ≤ h0.size) (ST : own_St Z w_0 w_1 w_2 w_3 w_4 w_5 w_6 w_7 w_8) (O0 : Old Z n0 h0) (hrg : -2147483648 ≤ q0.toInt ∧ q0.toInt ≤ 2147483647) (hsg : ¬ (q0 < (0 : Int64))) (hlo : (-100000000 : Int64) < (-q0)) (hhi : ¬ ((-10000000 : Int64) < (-q0))) (Va : Arv Z h0 o3 kk .byte (8 : Int32) [(.int 0), (.int 0), (.int 0), (.int 0), (.int 0), (.int 0), (.int 0), (.int 0)] (.int 0)) (geo : n0 ≤ o3) :
    MetFree l y_12 (head1 (Jvm.Cond.code y_12 jdk_35_method_14_code 11 (some .int) :: ws) rr_gc8p) (fun a U => a = #[(.long q0), (.int 8), (.ref o3)] ∧ Z.Warmed39 U.vm ∧ U.heap = h0) (fun _ _ _ _ _ => True) (fun _ U o U' => ∃ v L, o = .returned v ∧ Q_gc8p Z w_0 w_1 w_2 w_3 w_4 w_5 w_6 w_7 w_8 q0 o3 kk h0 n0 v U'.heap L ∧ FrameEnd U o U' L rr_gc8p.cells rr_gc8p.slots) := by
  refine MetFree.of_bodySF (plainFor_of_name pn_5) hisR ?_
  intro p e s m args below meth c s₁ Bd hml0 hP hK
  obtain ⟨rfl, hZ, hh⟩ := hP
  have hx := Bd.exec
  have hby := Bd.bytes
  have B := @hb _ _ hby
  have hml : c.maxLocals = 11 := hml0
  have hown : s.vm.findClass cn_3 = some m.cls := findClass_of_methodNamed Bd.named
  have X0 : Stand p l e rr_gc8p s m #[(.long q0), (.int 8), (.ref o3)] below meth c s₁ [] 0 0 := Stand.of_body Bd
  have e0 : s₁.heap = h0 := by rw [← hh, Bd.state]; rfl
  have N0 := Fr.nil n0
  have K0 : Keep h0 h0 [o3] := Keep.refl _ _
  obtain ⟨G, step, ret, fin⟩ := own_openX X0 (rr_gc8p.cells) (rr_gc8p.slots) (Q_gc8p Z w_0 w_1 w_2 w_3 w_4 w_5 w_6 w_7 w_8 q0 o3 kk h0 n0) Bd.notSynchronized
  refine fin (g := entryFrame m #[(.long q0), (.int 8), (.ref o3)] 11) ?_
  rw [ef_gc8p m q0 o3]
  obtain ⟨ls0, hls0⟩ := own_sl #[vL q0, s_, vI 8, vR o3, u_, u_, u_, u_, u_, u_, u_]
  suffices hG0 : G s₁ (mkF m 0 ls0 []) by rw [hls0] at hG0; exact hG0
  refine step (fun t k => XS.iloadN X0.here hx rfl (B d12_0) (by rw [hls0]; rfl) k) ?_
  obtain ⟨ls1, hls1⟩ := own_sl #[vL q0, s_, vI 8, vR o3, u_, u_, u_, vI 8, u_, u_, u_]
  refine step (fun t k => XS.istore X0.here hx rfl (B d12_1) rfl (l' := ls1) (by rw [hls0, hls1]; rfl) k) ?_
  refine step (fun t k => XS.lloadN X0.here hx rfl (B d12_3) (by rw [hls1]; rfl) k) ?_
  refine step (fun t k => XS.lconst X0.here hx rfl (B d12_4) k) ?_
  refine step (fun t k => XS.lcmp X0.here hx rfl (B d12_5) rfl k) ?_
  refine step (fun t k => XS.ifYes X0.here hx rfl (pc0 := 6) (pc' := 13) rfl (B d12_6) rfl ((if0 _ _).trans (flt (fun q => hsg ((lw_lt _ _).mp q))).2.1) (by decide) (by decide) k) ?_
  show G s₁ (mkF m 13 ls1 [])
  refine step (fun t k => XS.iconst X0.here hx rfl (B d12_13) k) ?_
  obtain ⟨ls2, hls2⟩ := own_sl #[vL q0, s_, vI 8, vR o3, u_, u_, u_, vI 8, vI 0, u_, u_]
  refine step (fun t k => XS.istore X0.here hx rfl (B d12_14) rfl (l' := ls2) (by rw [hls1, hls2]; rfl) k) ?_
  refine step (fun t k => XS.iload X0.here hx rfl (B d12_16) (by rw [hls2]; rfl) k) ?_
  refine step (fun t k => XS.ifNo X0.here hx rfl (B d12_18) rfl ((if0 _ _).trans (teq (by decide : (0 : Int32) = (0 : Int32))).2) k) ?_
  refine step (fun t k => XS.lloadN X0.here hx rfl (B d12_21) (by rw [hls2]; rfl) k) ?_
  refine step (fun t k => XS.lneg X0.here hx rfl (B d12_22) rfl k) ?_
  show G s₁ (mkF m 23 ls2 [(.long (-q0))])
  obtain ⟨x0, hx0⟩ : ∃ z : Int64, z = (-q0) := ⟨_, rfl⟩
  rw [← hx0]
  have bd3 : -100000000 < x0.toInt ∧ x0.toInt ≤ -10000000 := by
    rw [hx0]
    have c1 := c_lneg q0
    have r1 := rng64 (-q0)
    have k0 : (0 : Int64).toInt = 0 := by decide
    rw [own_xltL] at hsg
    have k1 : (-100000000 : Int64).toInt = -100000000 := by decide
    rw [own_xltL] at hlo
    have k2 : (-10000000 : Int64).toInt = -10000000 := by decide
    rw [own_xltL] at hhi
    omega
  obtain ⟨ls4, hls4⟩ := own_sl #[vL x0, s_, vI 8, vR o3, u_, u_, u_, vI 8, vI 0, u_, u_]
  refine step (fun t k => XS.lstoreN X0.here hx rfl (B d12_23) rfl (l' := ls4) (by rw [hls2, hls4]; rfl) k) ?_
  refine step (fun t k => XS.lloadN X0.here hx rfl (B d12_24) (by rw [hls4]; rfl) k) ?_
  have q5 := X0.ldc2Long hx hown (mvT hZ (ww97 hw)) (g := (mkF m 25 ls4 [(.long x0)])) rfl (B d12_25)
  refine step q5 ?_
  refine step (fun t k => XS.lcmp X0.here hx rfl (B d12_28) rfl k) ?_
  have ho6 := own_yL (b := x0) (by decide : (-2147483648 : Int64).toInt = -2147483648) (by omega)
  refine step (fun t k => XS.ifYes X0.here hx rfl (pc0 := 29) (pc' := 82) rfl (B d12_29) rfl ((if0 _ _).trans (tlt ((lw_gt _ _).mpr ho6)).2.2.1) (by decide) (by decide) k) ?_
  refine step (fun t k => XS.lloadN X0.here hx rfl (B d12_82) (by rw [hls4]; rfl) k) ?_
  refine step (fun t k => XS.l2i X0.here hx rfl (B d12_83) rfl k) ?_
  show G s₁ (mkF m 84 ls4 [(.int (x0.toInt32))])
  obtain ⟨y7, hy7⟩ := own_ex (x0.toInt32)
  rw [← hy7]
  have bd8 : -100000000 < y7.toInt ∧ y7.toInt ≤ -10000000 := by
    rw [hy7]
    have c1 := c_l2i x0
    have r1 := rng32 x0.toInt32
    omega
  obtain ⟨ls9, hls9⟩ := own_sl #[vL x0, s_, vI 8, vR o3, u_, u_, u_, vI 8, vI 0, u_, vI y7]
  refine step (fun t k => XS.istore X0.here hx rfl (B d12_84) rfl (l' := ls9) (by rw [hls4, hls9]; rfl) k) ?_
  refine step (fun t k => XS.iload X0.here hx rfl (B d12_86) (by rw [hls9]; rfl) k) ?_
  refine step (fun t k => XS.bipush X0.here hx rfl (B d12_88) k) ?_
  show G s₁ (mkF m 90 ls9 [(.int (-100)), (.int y7)])
  have ho10 := own_n (b := y7) (by decide : (-100 : Int32).toInt = -100) (by omega)
  refine step (fun t k => XS.icmpNo X0.here hx rfl (B d12_90) rfl (flt ho10).2.2.1 k) ?_
  refine step (fun t k => XS.iload X0.here hx rfl (B d12_93) (by rw [hls9]; rfl) k) ?_
  refine step (fun t k => XS.bipush X0.here hx rfl (B d12_95) k) ?_
  refine step (fun t k => XS.idiv X0.here hx rfl (B d12_97) rfl (by decide) k) ?_
  show G s₁ (mkF m 98 ls9 [(.int (y7 / (100 : Int32)))])
  obtain ⟨y11, hy11⟩ := own_ex (y7 / (100 : Int32))
  rw [← hy11]
  have bq12 := own_bq hy11 (by omega)
  obtain ⟨ls13, hls13⟩ := own_sl #[vL x0, s_, vI 8, vR o3, u_, u_, u_, vI 8, vI 0, vI y11, vI y7]
  refine step (fun t k => XS.istore X0.here hx rfl (B d12_98) rfl (l' := ls13) (by rw [hls9, hls13]; rfl) k) ?_
  refine step (fun t k => XS.iload X0.here hx rfl (B d12_100) (by rw [hls13]; rfl) k) ?_
  refine step (fun t k => XS.bipush X0.here hx rfl (B d12_102) k) ?_
  refine step (fun t k => XS.imul X0.here hx rfl (B d12_104) rfl k) ?_
  refine step (fun t k => XS.iload X0.here hx rfl (B d12_105) (by rw [hls13]; rfl) k) ?_
  refine step (fun t k => XS.isub X0.here hx rfl (B d12_107) rfl k) ?_
  show G s₁ (mkF m 108 ls13 [(.int ((y11 * (100 : Int32)) - y7))])
  obtain ⟨r14, hr14⟩ := own_ex ((y11 * (100 : Int32)) - y7)
  rw [← hr14]
  have br15 := own_br bq12 (by omega) hr14
  have bd16 : -1000000 < y11.toInt ∧ y11.toInt ≤ -100000 := by
    omega
  obtain ⟨ls17, hls17⟩ := own_sl #[vL x0, s_, vI 8, vR o3, u_, u_, vI r14, vI 8, vI 0, vI y11, vI y7]
  refine step (fun t k => XS.istore X0.here hx rfl (B d12_108) rfl (l' := ls17) (by rw [hls13, hls17]; rfl) k) ?_
  refine step (fun t k => XS.iload X0.here hx rfl (B d12_110) (by rw [hls17]; rfl) k) ?_
  obtain ⟨ls18, hls18⟩ := own_sl #[vL x0, s_, vI 8, vR o3, u_, u_, vI r14, vI 8, vI 0, vI y11, vI y11]
  refine step (fun t k => XS.istore X0.here hx rfl (B d12_112) rfl (l' := ls18) (by rw [hls17, hls18]; rfl) k) ?_
  refine step (fun t k => XS.aloadN X0.here hx rfl (B d12_114) (by rw [hls18]; rfl) rfl k) ?_
  obtain ⟨ls19, hls19⟩ := own_sl #[vL x0, s_, vI 8, vR o3, u_, u_, vI r14, vI 7, vI 0, vI y11, vI y11]
  refine step (fun t k => XS.iinc X0.here hx rfl (B d12_115) (by rw [hls18]; rfl) (l' := ls19) (by rw [hls18, hls19]; rfl) k) ?_
  refine step (fun t k => XS.iload X0.here hx rfl (B d12_118) (by rw [hls19]; rfl) k) ?_
  show G s₁ (mkF m 120 ls19 [(.int 7), (.ref o3)])
  obtain ⟨T20, X20, e20, st20⟩ := getS2 X0 hx hZ hown (host := "") (Or.inl (ww98 hw)) Via.refl e0 (Sta.ext O0.2 ST.k10) (g := (mkF m 120 ls19 [(.int 7), (.ref o3)])) rfl (B d12_120)
  refine step st20 ?_
  refine step (fun t k => XS.iload X20.here hx rfl (B d12_123) (by rw [hls19]; rfl) k) ?_
  have hj21 := own_hj br15
  obtain ⟨z21, hz21, st21⟩ := own_ldDig X20 hx hZ e20 ST.k23 O0.2 hj21 (g := (mkF m 125 ls19 [(.int r14), (.ref w_5), (.int 7), (.ref o3)])) rfl rfl (B d12_125)
  refine step st21 ?_
  obtain ⟨T22, h22, X22, e22, W22, V22, st22⟩ := own_stB X20 hx hZ e20 Va (j := (7 : Int32)) (by decide) (i := 7) rfl (by show 7 < 8; decide) (g := (mkF m 126 ls19 [(.int z21), (.int 7), (.ref o3)])) rfl rfl (B d12_126)
  replace V22 : Arv Z h22 o3 kk .byte (8 : Int32) [(.int 0), (.int 0), (.int 0), (.int 0), (.int 0), (.int 0), (.int 0), (.int (nar .byte z21))] (.int 0) := V22
  have N22 := Fr.snoc X22 N0 geo
  obtain ⟨lc22, X22, N22⟩ := own_gen X22 N22
  have O22 := O0.wr W22 geo
  have K22 : Keep h0 h22 [o3] := K0.wr W22 (Or.inl (List.mem_of_getElem? (i := 0) rfl))
  refine step st22 ?_
  refine step (fun t k => XS.aloadN X22.here hx rfl (B d12_127) (by rw [hls19]; rfl) rfl k) ?_
  obtain ⟨ls23, hls23⟩ := own_sl #[vL x0, s_, vI 8, vR o3, u_, u_, vI r14, vI 6, vI 0, vI y11, vI y11]
  refine step (fun t k => XS.iinc X22.here hx rfl (B d12_128) (by rw [hls19]; rfl) (l' := ls23) (by rw [hls19, hls23]; rfl) k) ?_
  refine step (fun t k => XS.iload X22.here hx rfl (B d12_131) (by rw [hls23]; rfl) k) ?_
  obtain ⟨T24, X24, e24, st24⟩ := getS2 X22 hx hZ hown (host := "") (Or.inl (ww185 hw)) Via.refl e22 (Sta.ext O22.2 ST.k12) (g := (mkF m 133 ls23 [(.int 6), (.ref o3)])) rfl (B d12_133)
  refine step st24 ?_
  refine step (fun t k => XS.iload X24.here hx rfl (B d12_136) (by rw [hls23]; rfl) k) ?_
  have hj25 := own_hj br15
  obtain ⟨z25, hz25, st25⟩ := own_ldDig X24 hx hZ e24 ST.k24 O22.2 hj25 (g := (mkF m 138 ls23 [(.int r14), (.ref w_6), (.int 6), (.ref o3)])) rfl rfl (B d12_138)
  refine step st25 ?_
  obtain ⟨T26, h26, X26, e26, W26, V26, st26⟩ := own_stB X24 hx hZ e24 V22 (j := (6 : Int32)) (by decide) (i := 6) rfl (by show 6 < 8; decide) (g := (mkF m 139 ls23 [(.int z25), (.int 6), (.ref o3)])) rfl rfl (B d12_139)
  replace V26 : Arv Z h26 o3 kk .byte (8 : Int32) [(.int 0), (.int 0), (.int 0), (.int 0), (.int 0), (.int 0), (.int (nar .byte z25)), (.int (nar .byte z21))] (.int 0) := V26
  have N26 := Fr.snoc X26 N22 geo
  obtain ⟨lc26, X26, N26⟩ := own_gen X26 N26
  have O26 := O22.wr W26 geo
  have K26 : Keep h0 h26 [o3] := K22.wr W26 (Or.inl (List.mem_of_getElem? (i := 0) rfl))
  refine step st26 ?_
  refine step (fun t k => XS.goto X26.here hx rfl (pc0 := 140) (pc' := 86) rfl (B d12_140) (by decide) (by decide) k) ?_
  refine step (fun t k => XS.iload X26.here hx rfl (B d12_86) (by rw [hls23]; rfl) k) ?_
  refine step (fun t k => XS.bipush X26.here hx rfl (B d12_88) k) ?_
  show G T26 (mkF m 90 ls23 [(.int (-100)), (.int y11)])
  have ho27 := own_n (b := y11) (by decide : (-100 : Int32).toInt = -100) (by omega)
  refine step (fun t k => XS.icmpNo X26.here hx rfl (B d12_90) rfl (flt ho27).2.2.1 k) ?_
  refine step (fun t k => XS.iload X26.here hx rfl (B d12_93) (by rw [hls23]; rfl) k) ?_
  refine step (fun t k => XS.bipush X26.here hx rfl (B d12_95) k) ?_
  refine step (fun t k => XS.idiv X26.here hx rfl (B d12_97) rfl (by decide) k) ?_
  show G T26 (mkF m 98 ls23 [(.int (y11 / (100 : Int32)))])
  obtain ⟨y28, hy28⟩ := own_ex (y11 / (100 : Int32))
  rw [← hy28]
  have bq29 := own_bq hy28 (by omega)
  obtain ⟨ls30, hls30⟩ := own_sl #[vL x0, s_, vI 8, vR o3, u_, u_, vI r14, vI 6, vI 0, vI y28, vI y11]
  refine step (fun t k => XS.istore X26.here hx rfl (B d12_98) rfl (l' := ls30) (by rw [hls23, hls30]; rfl) k) ?_
  refine step (fun t k => XS.iload X26.here hx rfl (B d12_100) (by rw [hls30]; rfl) k) ?_
  refine step (fun t k => XS.bipush X26.here hx rfl (B d12_102) k) ?_
  refine step (fun t k => XS.imul X26.here hx rfl (B d12_104) rfl k) ?_
  refine step (fun t k => XS.iload X26.here hx rfl (B d12_105) (by rw [hls30]; rfl) k) ?_
  refine step (fun t k => XS.isub X26.here hx rfl (B d12_107) rfl k) ?_
  show G T26 (mkF m 108 ls30 [(.int ((y28 * (100 : Int32)) - y11))])
  obtain ⟨r31, hr31⟩ := own_ex ((y28 * (100 : Int32)) - y11)
  rw [← hr31]
  have br32 := own_br bq29 (by omega) hr31
  have bd33 : -10000 < y28.toInt ∧ y28.toInt ≤ -1000 := by
    omega
  obtain ⟨ls34, hls34⟩ := own_sl #[vL x0, s_, vI 8, vR o3, u_, u_, vI r31, vI 6, vI 0, vI y28, vI y11]
  refine step (fun t k => XS.istore X26.here hx rfl (B d12_108) rfl (l' := ls34) (by rw [hls30, hls34]; rfl) k) ?_
  refine step (fun t k => XS.iload X26.here hx rfl (B d12_110) (by rw [hls34]; rfl) k) ?_
  obtain ⟨ls35, hls35⟩ := own_sl #[vL x0, s_, vI 8, vR o3, u_, u_, vI r31, vI 6, vI 0, vI y28, vI y28]
  refine step (fun t k => XS.istore X26.here hx rfl (B d12_112) rfl (l' := ls35) (by rw [hls34, hls35]; rfl) k) ?_
  refine step (fun t k => XS.aloadN X26.here hx rfl (B d12_114) (by rw [hls35]; rfl) rfl k) ?_
  obtain ⟨ls36, hls36⟩ := own_sl #[vL x0, s_, vI 8, vR o3, u_, u_, vI r31, vI 5, vI 0, vI y28, vI y28]
  refine step (fun t k => XS.iinc X26.here hx rfl (B d12_115) (by rw [hls35]; rfl) (l' := ls36) (by rw [hls35, hls36]; rfl) k) ?_
  refine step (fun t k => XS.iload X26.here hx rfl (B d12_118) (by rw [hls36]; rfl) k) ?_
  show G T26 (mkF m 120 ls36 [(.int 5), (.ref o3)])
  obtain ⟨T37, X37, e37, st37⟩ := getS2 X26 hx hZ hown (host := "") (Or.inl (ww98 hw)) Via.refl e26 (Sta.ext O26.2 ST.k10) (g := (mkF m 120 ls36 [(.int 5), (.ref o3)])) rfl (B d12_120)
  refine step st37 ?_
  refine step (fun t k => XS.iload X37.here hx rfl (B d12_123) (by rw [hls36]; rfl) k) ?_
  have hj38 := own_hj br32
  obtain ⟨z38, hz38, st38⟩ := own_ldDig X37 hx hZ e37 ST.k23 O26.2 hj38 (g := (mkF m 125 ls36 [(.int r31), (.ref w_5), (.int 5), (.ref o3)])) rfl rfl (B d12_125)
  refine step st38 ?_
  obtain ⟨T39, h39, X39, e39, W39, V39, st39⟩ := own_stB X37 hx hZ e37 V26 (j := (5 : Int32)) (by decide) (i := 5) rfl (by show 5 < 8; decide) (g := (mkF m 126 ls36 [(.int z38), (.int 5), (.ref o3)])) rfl rfl (B d12_126)
  replace V39 : Arv Z h39 o3 kk .byte (8 : Int32) [(.int 0), (.int 0), (.int 0), (.int 0), (.int 0), (.int (nar .byte z38)), (.int (nar .byte z25)), (.int (nar .byte z21))] (.int 0) := V39
  have N39 := Fr.snoc X39 N26 geo
  obtain ⟨lc39, X39, N39⟩ := own_gen X39 N39
  have O39 := O26.wr W39 geo
  have K39 : Keep h0 h39 [o3] := K26.wr W39 (Or.inl (List.mem_of_getElem? (i := 0) rfl))
  refine step st39 ?_
  refine step (fun t k => XS.aloadN X39.here hx rfl (B d12_127) (by rw [hls36]; rfl) rfl k) ?_
  obtain ⟨ls40, hls40⟩ := own_sl #[vL x0, s_, vI 8, vR o3, u_, u_, vI r31, vI 4, vI 0, vI y28, vI y28]
  refine step (fun t k => XS.iinc X39.here hx rfl (B d12_128) (by rw [hls36]; rfl) (l' := ls40) (by rw [hls36, hls40]; rfl) k) ?_
  refine step (fun t k => XS.iload X39.here hx rfl (B d12_131) (by rw [hls40]; rfl) k) ?_
  obtain ⟨T41, X41, e41, st41⟩ := getS2 X39 hx hZ hown (host := "") (Or.inl (ww185 hw)) Via.refl e39 (Sta.ext O39.2 ST.k12) (g := (mkF m 133 ls40 [(.int 4), (.ref o3)])) rfl (B d12_133)
  refine step st41 ?_
  refine step (fun t k => XS.iload X41.here hx rfl (B d12_136) (by rw [hls40]; rfl) k) ?_
  have hj42 := own_hj br32
  obtain ⟨z42, hz42, st42⟩ := own_ldDig X41 hx hZ e41 ST.k24 O39.2 hj42 (g := (mkF m 138 ls40 [(.int r31), (.ref w_6), (.int 4), (.ref o3)])) rfl rfl (B d12_138)
  refine step st42 ?_
  obtain ⟨T43, h43, X43, e43, W43, V43, st43⟩ := own_stB X41 hx hZ e41 V39 (j := (4 : Int32)) (by decide) (i := 4) rfl (by show 4 < 8; decide) (g := (mkF m 139 ls40 [(.int z42), (.int 4), (.ref o3)])) rfl rfl (B d12_139)
  replace V43 : Arv Z h43 o3 kk .byte (8 : Int32) [(.int 0), (.int 0), (.int 0), (.int 0), (.int (nar .byte z42)), (.int (nar .byte z38)), (.int (nar .byte z25)), (.int (nar .byte z21))] (.int 0) := V43
  have N43 := Fr.snoc X43 N39 geo
  obtain ⟨lc43, X43, N43⟩ := own_gen X43 N43
  have O43 := O39.wr W43 geo
  have K43 : Keep h0 h43 [o3] := K39.wr W43 (Or.inl (List.mem_of_getElem? (i := 0) rfl))
  refine step st43 ?_
  refine step (fun t k => XS.goto X43.here hx rfl (pc0 := 140) (pc' := 86) rfl (B d12_140) (by decide) (by decide) k) ?_
  refine step (fun t k => XS.iload X43.here hx rfl (B d12_86) (by rw [hls40]; rfl) k) ?_
  refine step (fun t k => XS.bipush X43.here hx rfl (B d12_88) k) ?_
  show G T43 (mkF m 90 ls40 [(.int (-100)), (.int y28)])
  have ho44 := own_n (b := y28) (by decide : (-100 : Int32).toInt = -100) (by omega)
  refine step (fun t k => XS.icmpNo X43.here hx rfl (B d12_90) rfl (flt ho44).2.2.1 k) ?_
  refine step (fun t k => XS.iload X43.here hx rfl (B d12_93) (by rw [hls40]; rfl) k) ?_
  refine step (fun t k => XS.bipush X43.here hx rfl (B d12_95) k) ?_
  refine step (fun t k => XS.idiv X43.here hx rfl (B d12_97) rfl (by decide) k) ?_
  show G T43 (mkF m 98 ls40 [(.int (y28 / (100 : Int32)))])
  obtain ⟨y45, hy45⟩ := own_ex (y28 / (100 : Int32))
  rw [← hy45]
  have bq46 := own_bq hy45 (by omega)
  obtain ⟨ls47, hls47⟩ := own_sl #[vL x0, s_, vI 8, vR o3, u_, u_, vI r31, vI 4, vI 0, vI y45, vI y28]
  refine step (fun t k => XS.istore X43.here hx rfl (B d12_98) rfl (l' := ls47) (by rw [hls40, hls47]; rfl) k) ?_
  refine step (fun t k => XS.iload X43.here hx rfl (B d12_100) (by rw [hls47]; rfl) k) ?_
  refine step (fun t k => XS.bipush X43.here hx rfl (B d12_102) k) ?_
  refine step (fun t k => XS.imul X43.here hx rfl (B d12_104) rfl k) ?_
  refine step (fun t k => XS.iload X43.here hx rfl (B d12_105) (by rw [hls47]; rfl) k) ?_
  refine step (fun t k => XS.isub X43.here hx rfl (B d12_107) rfl k) ?_
  show G T43 (mkF m 108 ls47 [(.int ((y45 * (100 : Int32)) - y28))])
  obtain ⟨r48, hr48⟩ := own_ex ((y45 * (100 : Int32)) - y28)
  rw [← hr48]
  have br49 := own_br bq46 (by omega) hr48
  have bd50 : -100 < y45.toInt ∧ y45.toInt ≤ -10 := by
    omega
  obtain ⟨ls51, hls51⟩ := own_sl #[vL x0, s_, vI 8, vR o3, u_, u_, vI r48, vI 4, vI 0, vI y45, vI y28]
  refine step (fun t k => XS.istore X43.here hx rfl (B d12_108) rfl (l' := ls51) (by rw [hls47, hls51]; rfl) k) ?_
  refine step (fun t k => XS.iload X43.here hx rfl (B d12_110) (by rw [hls51]; rfl) k) ?_
  obtain ⟨ls52, hls52⟩ := own_sl #[vL x0, s_, vI 8, vR o3, u_, u_, vI r48, vI 4, vI 0, vI y45, vI y45]
  refine step (fun t k => XS.istore X43.here hx rfl (B d12_112) rfl (l' := ls52) (by rw [hls51, hls52]; rfl) k) ?_
  refine step (fun t k => XS.aloadN X43.here hx rfl (B d12_114) (by rw [hls52]; rfl) rfl k) ?_
  obtain ⟨ls53, hls53⟩ := own_sl #[vL x0, s_, vI 8, vR o3, u_, u_, vI r48, vI 3, vI 0, vI y45, vI y45]
  refine step (fun t k => XS.iinc X43.here hx rfl (B d12_115) (by rw [hls52]; rfl) (l' := ls53) (by rw [hls52, hls53]; rfl) k) ?_
  refine step (fun t k => XS.iload X43.here hx rfl (B d12_118) (by rw [hls53]; rfl) k) ?_
  show G T43 (mkF m 120 ls53 [(.int 3), (.ref o3)])
  obtain ⟨T54, X54, e54, st54⟩ := getS2 X43 hx hZ hown (host := "") (Or.inl (ww98 hw)) Via.refl e43 (Sta.ext O43.2 ST.k10) (g := (mkF m 120 ls53 [(.int 3), (.ref o3)])) rfl (B d12_120)
  refine step st54 ?_
  refine step (fun t k => XS.iload X54.here hx rfl (B d12_123) (by rw [hls53]; rfl) k) ?_
  have hj55 := own_hj br49
  obtain ⟨z55, hz55, st55⟩ := own_ldDig X54 hx hZ e54 ST.k23 O43.2 hj55 (g := (mkF m 125 ls53 [(.int r48), (.ref w_5), (.int 3), (.ref o3)])) rfl rfl (B d12_125)
  refine step st55 ?_
  obtain ⟨T56, h56, X56, e56, W56, V56, st56⟩ := own_stB X54 hx hZ e54 V43 (j := (3 : Int32)) (by decide) (i := 3) rfl (by show 3 < 8; decide) (g := (mkF m 126 ls53 [(.int z55), (.int 3), (.ref o3)])) rfl rfl (B d12_126)
  replace V56 : Arv Z h56 o3 kk .byte (8 : Int32) [(.int 0), (.int 0), (.int 0), (.int (nar .byte z55)), (.int (nar .byte z42)), (.int (nar .byte z38)), (.int (nar .byte z25)), (.int (nar .byte z21))] (.int 0) := V56
  have N56 := Fr.snoc X56 N43 geo
  obtain ⟨lc56, X56, N56⟩ := own_gen X56 N56
  have O56 := O43.wr W56 geo
  have K56 : Keep h0 h56 [o3] := K43.wr W56 (Or.inl (List.mem_of_getElem? (i := 0) rfl))
  refine step st56 ?_
  refine step (fun t k => XS.aloadN X56.here hx rfl (B d12_127) (by rw [hls53]; rfl) rfl k) ?_
  obtain ⟨ls57, hls57⟩ := own_sl #[vL x0, s_, vI 8, vR o3, u_, u_, vI r48, vI 2, vI 0, vI y45, vI y45]
  refine step (fun t k => XS.iinc X56.here hx rfl (B d12_128) (by rw [hls53]; rfl) (l' := ls57) (by rw [hls53, hls57]; rfl) k) ?_
  refine step (fun t k => XS.iload X56.here hx rfl (B d12_131) (by rw [hls57]; rfl) k) ?_
  obtain ⟨T58, X58, e58, st58⟩ := getS2 X56 hx hZ hown (host := "") (Or.inl (ww185 hw)) Via.refl e56 (Sta.ext O56.2 ST.k12) (g := (mkF m 133 ls57 [(.int 2), (.ref o3)])) rfl (B d12_133)
  refine step st58 ?_
  refine step (fun t k => XS.iload X58.here hx rfl (B d12_136) (by rw [hls57]; rfl) k) ?_
  have hj59 := own_hj br49
  obtain ⟨z59, hz59, st59⟩ := own_ldDig X58 hx hZ e58 ST.k24 O56.2 hj59 (g := (mkF m 138 ls57 [(.int r48), (.ref w_6), (.int 2), (.ref o3)])) rfl rfl (B d12_138)
  refine step st59 ?_
  obtain ⟨T60, h60, X60, e60, W60, V60, st60⟩ := own_stB X58 hx hZ e58 V56 (j := (2 : Int32)) (by decide) (i := 2) rfl (by show 2 < 8; decide) (g := (mkF m 139 ls57 [(.int z59), (.int 2), (.ref o3)])) rfl rfl (B d12_139)
  replace V60 : Arv Z h60 o3 kk .byte (8 : Int32) [(.int 0), (.int 0), (.int (nar .byte z59)), (.int (nar .byte z55)), (.int (nar .byte z42)), (.int (nar .byte z38)), (.int (nar .byte z25)), (.int (nar .byte z21))] (.int 0) := V60
  have N60 := Fr.snoc X60 N56 geo
  obtain ⟨lc60, X60, N60⟩ := own_gen X60 N60
  have O60 := O56.wr W60 geo
  have K60 : Keep h0 h60 [o3] := K56.wr W60 (Or.inl (List.mem_of_getElem? (i := 0) rfl))
  refine step st60 ?_
  refine step (fun t k => XS.goto X60.here hx rfl (pc0 := 140) (pc' := 86) rfl (B d12_140) (by decide) (by decide) k) ?_
  refine step (fun t k => XS.iload X60.here hx rfl (B d12_86) (by rw [hls57]; rfl) k) ?_
  refine step (fun t k => XS.bipush X60.here hx rfl (B d12_88) k) ?_
  show G T60 (mkF m 90 ls57 [(.int (-100)), (.int y45)])
  have ho61 := own_y (b := y45) (by decide : (-100 : Int32).toInt = -100) (by omega)
  refine step (fun t k => XS.icmpYes X60.here hx rfl (pc0 := 90) (pc' := 143) rfl (B d12_90) rfl (tlt ho61).2.2.1 (by decide) (by decide) k) ?_
  refine step (fun t k => XS.aloadN X60.here hx rfl (B d12_143) (by rw [hls57]; rfl) rfl k) ?_
  obtain ⟨ls62, hls62⟩ := own_sl #[vL x0, s_, vI 8, vR o3, u_, u_, vI r48, vI 1, vI 0, vI y45, vI y45]
  refine step (fun t k => XS.iinc X60.here hx rfl (B d12_144) (by rw [hls57]; rfl) (l' := ls62) (by rw [hls57, hls62]; rfl) k) ?_
  refine step (fun t k => XS.iload X60.here hx rfl (B d12_147) (by rw [hls62]; rfl) k) ?_
  obtain ⟨T63, X63, e63, st63⟩ := getS2 X60 hx hZ hown (host := "") (Or.inl (ww98 hw)) Via.refl e60 (Sta.ext O60.2 ST.k10) (g := (mkF m 149 ls62 [(.int 1), (.ref o3)])) rfl (B d12_149)
  refine step st63 ?_
  refine step (fun t k => XS.iload X63.here hx rfl (B d12_152) (by rw [hls62]; rfl) k) ?_
  refine step (fun t k => XS.ineg X63.here hx rfl (B d12_154) rfl k) ?_
  have hj64 := own_hj (own_ng y45 (by omega))
  obtain ⟨z64, hz64, st64⟩ := own_ldDig X63 hx hZ e63 ST.k23 O60.2 hj64 (g := (mkF m 155 ls62 [(.int (-y45)), (.ref w_5), (.int 1), (.ref o3)])) rfl rfl (B d12_155)
  refine step st64 ?_
  obtain ⟨T65, h65, X65, e65, W65, V65, st65⟩ := own_stB X63 hx hZ e63 V60 (j := (1 : Int32)) (by decide) (i := 1) rfl (by show 1 < 8; decide) (g := (mkF m 156 ls62 [(.int z64), (.int 1), (.ref o3)])) rfl rfl (B d12_156)
  replace V65 : Arv Z h65 o3 kk .byte (8 : Int32) [(.int 0), (.int (nar .byte z64)), (.int (nar .byte z59)), (.int (nar .byte z55)), (.int (nar .byte z42)), (.int (nar .byte z38)), (.int (nar .byte z25)), (.int (nar .byte z21))] (.int 0) := V65
  have N65 := Fr.snoc X65 N60 geo
  obtain ⟨lc65, X65, N65⟩ := own_gen X65 N65
  have O65 := O60.wr W65 geo
  have K65 : Keep h0 h65 [o3] := K60.wr W65 (Or.inl (List.mem_of_getElem? (i := 0) rfl))
  refine step st65 ?_
  refine step (fun t k => XS.iload X65.here hx rfl (B d12_157) (by rw [hls62]; rfl) k) ?_
  refine step (fun t k => XS.bipush X65.here hx rfl (B d12_159) k) ?_
  show G T65 (mkF m 161 ls62 [(.int (-9)), (.int y45)])
  have ho66 := own_yr (b := y45) (by decide : (-9 : Int32).toInt = -9) (by omega)
  refine step (fun t k => XS.icmpNo X65.here hx rfl (B d12_161) rfl (tlt ho66).2.1 k) ?_
  refine step (fun t k => XS.aloadN X65.here hx rfl (B d12_164) (by rw [hls62]; rfl) rfl k) ?_
  obtain ⟨ls67, hls67⟩ := own_sl #[vL x0, s_, vI 8, vR o3, u_, u_, vI r48, vI 0, vI 0, vI y45, vI y45]
  refine step (fun t k => XS.iinc X65.here hx rfl (B d12_165) (by rw [hls62]; rfl) (l' := ls67) (by rw [hls62, hls67]; rfl) k) ?_
  refine step (fun t k => XS.iload X65.here hx rfl (B d12_168) (by rw [hls67]; rfl) k) ?_
  obtain ⟨T68, X68, e68, st68⟩ := getS2 X65 hx hZ hown (host := "") (Or.inl (ww185 hw)) Via.refl e65 (Sta.ext O65.2 ST.k12) (g := (mkF m 170 ls67 [(.int 0), (.ref o3)])) rfl (B d12_170)
  refine step st68 ?_
  refine step (fun t k => XS.iload X68.here hx rfl (B d12_173) (by rw [hls67]; rfl) k) ?_
  refine step (fun t k => XS.ineg X68.here hx rfl (B d12_175) rfl k) ?_
  have hj69 := own_hj (own_ng y45 (by omega))
  obtain ⟨z69, hz69, st69⟩ := own_ldDig X68 hx hZ e68 ST.k24 O65.2 hj69 (g := (mkF m 176 ls67 [(.int (-y45)), (.ref w_6), (.int 0), (.ref o3)])) rfl rfl (B d12_176)
  refine step st69 ?_
  obtain ⟨T70, h70, X70, e70, W70, V70, st70⟩ := own_stB X68 hx hZ e68 V65 (j := (0 : Int32)) (by decide) (i := 0) rfl (by show 0 < 8; decide) (g := (mkF m 177 ls67 [(.int z69), (.int 0), (.ref o3)])) rfl rfl (B d12_177)
  replace V70 : Arv Z h70 o3 kk .byte (8 : Int32) [(.int (nar .byte z69)), (.int (nar .byte z64)), (.int (nar .byte z59)), (.int (nar .byte z55)), (.int (nar .byte z42)), (.int (nar .byte z38)), (.int (nar .byte z25)), (.int (nar .byte z21))] (.int 0) := V70
  have N70 := Fr.snoc X70 N65 geo
  obtain ⟨lc70, X70, N70⟩ := own_gen X70 N70
  have K70 : Keep h0 h70 [o3] := K65.wr W70 (Or.inl (List.mem_of_getElem? (i := 0) rfl))
  refine step st70 ?_
  refine step (fun t k => XS.iload X70.here hx rfl (B d12_178) (by rw [hls67]; rfl) k) ?_
  refine step (fun t k => XS.ifYes X70.here hx rfl (pc0 := 180) (pc' := 192) rfl (B d12_180) rfl ((if0 _ _).trans (teq (by decide : (0 : Int32) = (0 : Int32))).1) (by decide) (by decide) k) ?_
  refine step (fun t k => XS.iload X70.here hx rfl (B d12_192) (by rw [hls67]; rfl) k) ?_
  exact ret (v := some (.int 0)) X70 (fun h => by rw [Bd.returns] at h; cases h) (fun fs hr => retI X70 hx Bd.returns (B d12_194) hr) e70 ⟨(nar .byte z69), (nar .byte z64), (nar .byte z59), (nar .byte z55), (nar .byte z42), (nar .byte z38), (nar .byte z25), (nar .byte z21), rfl, N70, K70, V70, hz21⟩ (by decide) (by decide)
abbrev rr_gc8n : Room := { frames := 0, cells := 0, slots := 0, locals := 0 }
theorem ef_gc8n (m : MethodId) (q0 : Int64) (o3 : Addr) : entryFrame m #[(.long q0), (.int 9), (.ref o3)] 11 = mkF m 0 #[vL q0, s_, vI 9, vR o3, u_, u_, u_, u_, u_, u_, u_] [] := by first | (simp [entryFrame, mkF, argsToLocals, Value.category]; done) | rfl
def Q_gc8n (Z : State) (w_0 : Addr) (w_1 : Addr) (w_2 : Addr) (w_3 : Addr) (w_4 : Addr) (w_5 : Addr) (w_6 : Addr) (w_7 : Int32) (w_8 : Value) (q0 : Int64) (o3 : Addr) (kk : ClassId) (h0 : Heap) (n0 : Nat) (v : Option Value) (h : Heap) (L : List Loc) : Prop := ∃ c0 : Int32, ∃ c1 : Int32, ∃ c2 : Int32, ∃ c3 : Int32, ∃ c4 : Int32, ∃ c5 : Int32, ∃ c6 : Int32, ∃ c7 : Int32, ∃ c8 : Int32, v = some (.int 0) ∧ Fr n0 L ∧ Keep h0 h [o3] ∧ Arv Z h o3 kk .byte (9 : Int32) [(.int c0), (.int c1), (.int c2), (.int c3), (.int c4), (.int c5), (.int c6), (.int c7), (.int c8)] (.int 0) ∧ ¬ (c8 &&& (255 : Int32)) = (32 : Int32)
theorem rm_gc8n (l : Launch) (Z : State) (a0 : Array Value) (hw : HW Z a0) (ws : List Jvm.Cond) (w_0 : Addr) (w_1 : Addr) (w_2 : Addr) (w_3 : Addr) (w_4 : Addr) (w_5 : Addr) (w_6 : Addr) (w_7 : Int32) (w_8 : Value) (q0 : Int64) (o3 : Addr) (kk : ClassId) (h0 : Heap) (n0 : Nat) (Z0 : n0 ≤ h0.size) (ST : own_St Z w_0 w_1 w_2 w_3 w_4 w_5 w_6 w_7 w_8) (O0 : Old Z n0 h0) (hrg : -2147483648 ≤ q0.toInt ∧ q0.toInt ≤ 2147483647) (hsg : q0 < (0 : Int64)) (hlo : (-100000000 : Int64) < q0) (hhi : ¬ ((-10000000 : Int64) < q0)) (Va : Arv Z h0 o3 kk .byte (9 : Int32) [(.int 0), (.int 0), (.int 0), (.int 0), (.int 0), (.int 0), (.int 0), (.int 0), (.int 0)] (.int 0)) (geo : n0 ≤ o3) :
    MetFree l y_12 (head1 (Jvm.Cond.code y_12 jdk_35_method_14_code 11 (some .int) :: ws) rr_gc8n) (fun a U => a = #[(.long q0), (.int 9), (.ref o3)] ∧ Z.Warmed39 U.vm ∧ U.heap = h0) (fun _ _ _ _ _ => True) (fun _ U o U' => ∃ v L, o = .returned v ∧ Q_gc8n Z w_0 w_1 w_2 w_3 w_4 w_5 w_6 w_7 w_8 q0 o3 kk h0 n0 v U'.heap L ∧ FrameEnd U o U' L rr_gc8n.cells rr_gc8n.slots) := by
  refine MetFree.of_bodySF (plainFor_of_name pn_5) hisR ?_
  intro p e s m args below meth c s₁ Bd hml0 hP hK
  obtain ⟨rfl, hZ, hh⟩ := hP
  have hx := Bd.exec
  have hby := Bd.bytes
  have B := @hb _ _ hby
  have hml : c.maxLocals = 11 := hml0
  have hown : s.vm.findClass cn_3 = some m.cls := findClass_of_methodNamed Bd.named
  have X0 : Stand p l e rr_gc8n s m #[(.long q0), (.int 9), (.ref o3)] below meth c s₁ [] 0 0 := Stand.of_body Bd
  have e0 : s₁.heap = h0 := by rw [← hh, Bd.state]; rfl
  have N0 := Fr.nil n0
  have K0 : Keep h0 h0 [o3] := Keep.refl _ _
  obtain ⟨G, step, ret, fin⟩ := own_openX X0 (rr_gc8n.cells) (rr_gc8n.slots) (Q_gc8n Z w_0 w_1 w_2 w_3 w_4 w_5 w_6 w_7 w_8 q0 o3 kk h0 n0) Bd.notSynchronized
  refine fin (g := entryFrame m #[(.long q0), (.int 9), (.ref o3)] 11) ?_
  rw [ef_gc8n m q0 o3]
  obtain ⟨ls0, hls0⟩ := own_sl #[vL q0, s_, vI 9, vR o3, u_, u_, u_, u_, u_, u_, u_]
  suffices hG0 : G s₁ (mkF m 0 ls0 []) by rw [hls0] at hG0; exact hG0
  refine step (fun t k => XS.iloadN X0.here hx rfl (B d12_0) (by rw [hls0]; rfl) k) ?_
  obtain ⟨ls1, hls1⟩ := own_sl #[vL q0, s_, vI 9, vR o3, u_, u_, u_, vI 9, u_, u_, u_]
  refine step (fun t k => XS.istore X0.here hx rfl (B d12_1) rfl (l' := ls1) (by rw [hls0, hls1]; rfl) k) ?_
  refine step (fun t k => XS.lloadN X0.here hx rfl (B d12_3) (by rw [hls1]; rfl) k) ?_
  refine step (fun t k => XS.lconst X0.here hx rfl (B d12_4) k) ?_
  refine step (fun t k => XS.lcmp X0.here hx rfl (B d12_5) rfl k) ?_
  refine step (fun t k => XS.ifNo X0.here hx rfl (B d12_6) rfl ((if0 _ _).trans (tlt ((lw_lt _ _).mpr hsg)).2.1) k) ?_
  show G s₁ (mkF m 9 ls1 [])
  refine step (fun t k => XS.iconst X0.here hx rfl (B d12_9) k) ?_
  refine step (fun t k => XS.goto X0.here hx rfl (pc0 := 10) (pc' := 14) rfl (B d12_10) (by decide) (by decide) k) ?_
  obtain ⟨ls2, hls2⟩ := own_sl #[vL q0, s_, vI 9, vR o3, u_, u_, u_, vI 9, vI 1, u_, u_]
  refine step (fun t k => XS.istore X0.here hx rfl (B d12_14) rfl (l' := ls2) (by rw [hls1, hls2]; rfl) k) ?_
  refine step (fun t k => XS.iload X0.here hx rfl (B d12_16) (by rw [hls2]; rfl) k) ?_
  refine step (fun t k => XS.ifYes X0.here hx rfl (pc0 := 18) (pc' := 24) rfl (B d12_18) rfl ((if0 _ _).trans (feq (by decide : ¬ ((1 : Int32) = (0 : Int32)))).2) (by decide) (by decide) k) ?_
  have bd3 : -100000000 < q0.toInt ∧ q0.toInt ≤ -10000000 := by
    have k0 : (0 : Int64).toInt = 0 := by decide
    rw [own_xltL] at hsg
    have k1 : (-100000000 : Int64).toInt = -100000000 := by decide
    rw [own_xltL] at hlo
    have k2 : (-10000000 : Int64).toInt = -10000000 := by decide
    rw [own_xltL] at hhi
    omega
  refine step (fun t k => XS.lloadN X0.here hx rfl (B d12_24) (by rw [hls2]; rfl) k) ?_
  show G s₁ (mkF m 25 ls2 [(.long q0)])
  have q4 := X0.ldc2Long hx hown (mvT hZ (ww97 hw)) (g := (mkF m 25 ls2 [(.long q0)])) rfl (B d12_25)
  refine step q4 ?_
  refine step (fun t k => XS.lcmp X0.here hx rfl (B d12_28) rfl k) ?_
  have ho5 := own_yL (b := q0) (by decide : (-2147483648 : Int64).toInt = -2147483648) (by omega)
  refine step (fun t k => XS.ifYes X0.here hx rfl (pc0 := 29) (pc' := 82) rfl (B d12_29) rfl ((if0 _ _).trans (tlt ((lw_gt _ _).mpr ho5)).2.2.1) (by decide) (by decide) k) ?_
  refine step (fun t k => XS.lloadN X0.here hx rfl (B d12_82) (by rw [hls2]; rfl) k) ?_
  refine step (fun t k => XS.l2i X0.here hx rfl (B d12_83) rfl k) ?_
  show G s₁ (mkF m 84 ls2 [(.int (q0.toInt32))])
  obtain ⟨y6, hy6⟩ := own_ex (q0.toInt32)
  rw [← hy6]
  have bd7 : -100000000 < y6.toInt ∧ y6.toInt ≤ -10000000 := by
    rw [hy6]
    have c1 := c_l2i q0
    have r1 := rng32 q0.toInt32
    omega
  obtain ⟨ls8, hls8⟩ := own_sl #[vL q0, s_, vI 9, vR o3, u_, u_, u_, vI 9, vI 1, u_, vI y6]
  refine step (fun t k => XS.istore X0.here hx rfl (B d12_84) rfl (l' := ls8) (by rw [hls2, hls8]; rfl) k) ?_
  refine step (fun t k => XS.iload X0.here hx rfl (B d12_86) (by rw [hls8]; rfl) k) ?_
  refine step (fun t k => XS.bipush X0.here hx rfl (B d12_88) k) ?_
  show G s₁ (mkF m 90 ls8 [(.int (-100)), (.int y6)])
  have ho9 := own_n (b := y6) (by decide : (-100 : Int32).toInt = -100) (by omega)
  refine step (fun t k => XS.icmpNo X0.here hx rfl (B d12_90) rfl (flt ho9).2.2.1 k) ?_
  refine step (fun t k => XS.iload X0.here hx rfl (B d12_93) (by rw [hls8]; rfl) k) ?_
  refine step (fun t k => XS.bipush X0.here hx rfl (B d12_95) k) ?_
  refine step (fun t k => XS.idiv X0.here hx rfl (B d12_97) rfl (by decide) k) ?_
  show G s₁ (mkF m 98 ls8 [(.int (y6 / (100 : Int32)))])
  obtain ⟨y10, hy10⟩ := own_ex (y6 / (100 : Int32))
  rw [← hy10]
  have bq11 := own_bq hy10 (by omega)
  obtain ⟨ls12, hls12⟩ := own_sl #[vL q0, s_, vI 9, vR o3, u_, u_, u_, vI 9, vI 1, vI y10, vI y6]
  refine step (fun t k => XS.istore X0.here hx rfl (B d12_98) rfl (l' := ls12) (by rw [hls8, hls12]; rfl) k) ?_
  refine step (fun t k => XS.iload X0.here hx rfl (B d12_100) (by rw [hls12]; rfl) k) ?_
  refine step (fun t k => XS.bipush X0.here hx rfl (B d12_102) k) ?_
  refine step (fun t k => XS.imul X0.here hx rfl (B d12_104) rfl k) ?_
  refine step (fun t k => XS.iload X0.here hx rfl (B d12_105) (by rw [hls12]; rfl) k) ?_
  refine step (fun t k => XS.isub X0.here hx rfl (B d12_107) rfl k) ?_
  show G s₁ (mkF m 108 ls12 [(.int ((y10 * (100 : Int32)) - y6))])
  obtain ⟨r13, hr13⟩ := own_ex ((y10 * (100 : Int32)) - y6)
  rw [← hr13]
  have br14 := own_br bq11 (by omega) hr13
  have bd15 : -1000000 < y10.toInt ∧ y10.toInt ≤ -100000 := by
    omega
  obtain ⟨ls16, hls16⟩ := own_sl #[vL q0, s_, vI 9, vR o3, u_, u_, vI r13, vI 9, vI 1, vI y10, vI y6]
  refine step (fun t k => XS.istore X0.here hx rfl (B d12_108) rfl (l' := ls16) (by rw [hls12, hls16]; rfl) k) ?_
  refine step (fun t k => XS.iload X0.here hx rfl (B d12_110) (by rw [hls16]; rfl) k) ?_
  obtain ⟨ls17, hls17⟩ := own_sl #[vL q0, s_, vI 9, vR o3, u_, u_, vI r13, vI 9, vI 1, vI y10, vI y10]
  refine step (fun t k => XS.istore X0.here hx rfl (B d12_112) rfl (l' := ls17) (by rw [hls16, hls17]; rfl) k) ?_
  refine step (fun t k => XS.aloadN X0.here hx rfl (B d12_114) (by rw [hls17]; rfl) rfl k) ?_
  obtain ⟨ls18, hls18⟩ := own_sl #[vL q0, s_, vI 9, vR o3, u_, u_, vI r13, vI 8, vI 1, vI y10, vI y10]
  refine step (fun t k => XS.iinc X0.here hx rfl (B d12_115) (by rw [hls17]; rfl) (l' := ls18) (by rw [hls17, hls18]; rfl) k) ?_
  refine step (fun t k => XS.iload X0.here hx rfl (B d12_118) (by rw [hls18]; rfl) k) ?_
  show G s₁ (mkF m 120 ls18 [(.int 8), (.ref o3)])
  obtain ⟨T19, X19, e19, st19⟩ := getS2 X0 hx hZ hown (host := "") (Or.inl (ww98 hw)) Via.refl e0 (Sta.ext O0.2 ST.k10) (g := (mkF m 120 ls18 [(.int 8), (.ref o3)])) rfl (B d12_120)
  refine step st19 ?_
  refine step (fun t k => XS.iload X19.here hx rfl (B d12_123) (by rw [hls18]; rfl) k) ?_
  have hj20 := own_hj br14
  obtain ⟨z20, hz20, st20⟩ := own_ldDig X19 hx hZ e19 ST.k23 O0.2 hj20 (g := (mkF m 125 ls18 [(.int r13), (.ref w_5), (.int 8), (.ref o3)])) rfl rfl (B d12_125)
  refine step st20 ?_
  obtain ⟨T21, h21, X21, e21, W21, V21, st21⟩ := own_stB X19 hx hZ e19 Va (j := (8 : Int32)) (by decide) (i := 8) rfl (by show 8 < 9; decide) (g := (mkF m 126 ls18 [(.int z20), (.int 8), (.ref o3)])) rfl rfl (B d12_126)
  replace V21 : Arv Z h21 o3 kk .byte (9 : Int32) [(.int 0), (.int 0), (.int 0), (.int 0), (.int 0), (.int 0), (.int 0), (.int 0), (.int (nar .byte z20))] (.int 0) := V21
  have N21 := Fr.snoc X21 N0 geo
  obtain ⟨lc21, X21, N21⟩ := own_gen X21 N21
  have O21 := O0.wr W21 geo
  have K21 : Keep h0 h21 [o3] := K0.wr W21 (Or.inl (List.mem_of_getElem? (i := 0) rfl))
  refine step st21 ?_
  refine step (fun t k => XS.aloadN X21.here hx rfl (B d12_127) (by rw [hls18]; rfl) rfl k) ?_
  obtain ⟨ls22, hls22⟩ := own_sl #[vL q0, s_, vI 9, vR o3, u_, u_, vI r13, vI 7, vI 1, vI y10, vI y10]
  refine step (fun t k => XS.iinc X21.here hx rfl (B d12_128) (by rw [hls18]; rfl) (l' := ls22) (by rw [hls18, hls22]; rfl) k) ?_
  refine step (fun t k => XS.iload X21.here hx rfl (B d12_131) (by rw [hls22]; rfl) k) ?_
  obtain ⟨T23, X23, e23, st23⟩ := getS2 X21 hx hZ hown (host := "") (Or.inl (ww185 hw)) Via.refl e21 (Sta.ext O21.2 ST.k12) (g := (mkF m 133 ls22 [(.int 7), (.ref o3)])) rfl (B d12_133)
  refine step st23 ?_
  refine step (fun t k => XS.iload X23.here hx rfl (B d12_136) (by rw [hls22]; rfl) k) ?_
  have hj24 := own_hj br14
  obtain ⟨z24, hz24, st24⟩ := own_ldDig X23 hx hZ e23 ST.k24 O21.2 hj24 (g := (mkF m 138 ls22 [(.int r13), (.ref w_6), (.int 7), (.ref o3)])) rfl rfl (B d12_138)
  refine step st24 ?_
  obtain ⟨T25, h25, X25, e25, W25, V25, st25⟩ := own_stB X23 hx hZ e23 V21 (j := (7 : Int32)) (by decide) (i := 7) rfl (by show 7 < 9; decide) (g := (mkF m 139 ls22 [(.int z24), (.int 7), (.ref o3)])) rfl rfl (B d12_139)
  replace V25 : Arv Z h25 o3 kk .byte (9 : Int32) [(.int 0), (.int 0), (.int 0), (.int 0), (.int 0), (.int 0), (.int 0), (.int (nar .byte z24)), (.int (nar .byte z20))] (.int 0) := V25
  have N25 := Fr.snoc X25 N21 geo
  obtain ⟨lc25, X25, N25⟩ := own_gen X25 N25
  have O25 := O21.wr W25 geo
  have K25 : Keep h0 h25 [o3] := K21.wr W25 (Or.inl (List.mem_of_getElem? (i := 0) rfl))
  refine step st25 ?_
  refine step (fun t k => XS.goto X25.here hx rfl (pc0 := 140) (pc' := 86) rfl (B d12_140) (by decide) (by decide) k) ?_
  refine step (fun t k => XS.iload X25.here hx rfl (B d12_86) (by rw [hls22]; rfl) k) ?_
  refine step (fun t k => XS.bipush X25.here hx rfl (B d12_88) k) ?_
  show G T25 (mkF m 90 ls22 [(.int (-100)), (.int y10)])
  have ho26 := own_n (b := y10) (by decide : (-100 : Int32).toInt = -100) (by omega)
  refine step (fun t k => XS.icmpNo X25.here hx rfl (B d12_90) rfl (flt ho26).2.2.1 k) ?_
  refine step (fun t k => XS.iload X25.here hx rfl (B d12_93) (by rw [hls22]; rfl) k) ?_
  refine step (fun t k => XS.bipush X25.here hx rfl (B d12_95) k) ?_
  refine step (fun t k => XS.idiv X25.here hx rfl (B d12_97) rfl (by decide) k) ?_
  show G T25 (mkF m 98 ls22 [(.int (y10 / (100 : Int32)))])
  obtain ⟨y27, hy27⟩ := own_ex (y10 / (100 : Int32))
  rw [← hy27]
  have bq28 := own_bq hy27 (by omega)
  obtain ⟨ls29, hls29⟩ := own_sl #[vL q0, s_, vI 9, vR o3, u_, u_, vI r13, vI 7, vI 1, vI y27, vI y10]
  refine step (fun t k => XS.istore X25.here hx rfl (B d12_98) rfl (l' := ls29) (by rw [hls22, hls29]; rfl) k) ?_
  refine step (fun t k => XS.iload X25.here hx rfl (B d12_100) (by rw [hls29]; rfl) k) ?_
  refine step (fun t k => XS.bipush X25.here hx rfl (B d12_102) k) ?_
  refine step (fun t k => XS.imul X25.here hx rfl (B d12_104) rfl k) ?_
  refine step (fun t k => XS.iload X25.here hx rfl (B d12_105) (by rw [hls29]; rfl) k) ?_
  refine step (fun t k => XS.isub X25.here hx rfl (B d12_107) rfl k) ?_
  show G T25 (mkF m 108 ls29 [(.int ((y27 * (100 : Int32)) - y10))])
  obtain ⟨r30, hr30⟩ := own_ex ((y27 * (100 : Int32)) - y10)
  rw [← hr30]
  have br31 := own_br bq28 (by omega) hr30
  have bd32 : -10000 < y27.toInt ∧ y27.toInt ≤ -1000 := by
    omega
  obtain ⟨ls33, hls33⟩ := own_sl #[vL q0, s_, vI 9, vR o3, u_, u_, vI r30, vI 7, vI 1, vI y27, vI y10]
  refine step (fun t k => XS.istore X25.here hx rfl (B d12_108) rfl (l' := ls33) (by rw [hls29, hls33]; rfl) k) ?_
  refine step (fun t k => XS.iload X25.here hx rfl (B d12_110) (by rw [hls33]; rfl) k) ?_
  obtain ⟨ls34, hls34⟩ := own_sl #[vL q0, s_, vI 9, vR o3, u_, u_, vI r30, vI 7, vI 1, vI y27, vI y27]
  refine step (fun t k => XS.istore X25.here hx rfl (B d12_112) rfl (l' := ls34) (by rw [hls33, hls34]; rfl) k) ?_
  refine step (fun t k => XS.aloadN X25.here hx rfl (B d12_114) (by rw [hls34]; rfl) rfl k) ?_
  obtain ⟨ls35, hls35⟩ := own_sl #[vL q0, s_, vI 9, vR o3, u_, u_, vI r30, vI 6, vI 1, vI y27, vI y27]
  refine step (fun t k => XS.iinc X25.here hx rfl (B d12_115) (by rw [hls34]; rfl) (l' := ls35) (by rw [hls34, hls35]; rfl) k) ?_
  refine step (fun t k => XS.iload X25.here hx rfl (B d12_118) (by rw [hls35]; rfl) k) ?_
  show G T25 (mkF m 120 ls35 [(.int 6), (.ref o3)])
  obtain ⟨T36, X36, e36, st36⟩ := getS2 X25 hx hZ hown (host := "") (Or.inl (ww98 hw)) Via.refl e25 (Sta.ext O25.2 ST.k10) (g := (mkF m 120 ls35 [(.int 6), (.ref o3)])) rfl (B d12_120)
  refine step st36 ?_
  refine step (fun t k => XS.iload X36.here hx rfl (B d12_123) (by rw [hls35]; rfl) k) ?_
  have hj37 := own_hj br31
  obtain ⟨z37, hz37, st37⟩ := own_ldDig X36 hx hZ e36 ST.k23 O25.2 hj37 (g := (mkF m 125 ls35 [(.int r30), (.ref w_5), (.int 6), (.ref o3)])) rfl rfl (B d12_125)
  refine step st37 ?_
  obtain ⟨T38, h38, X38, e38, W38, V38, st38⟩ := own_stB X36 hx hZ e36 V25 (j := (6 : Int32)) (by decide) (i := 6) rfl (by show 6 < 9; decide) (g := (mkF m 126 ls35 [(.int z37), (.int 6), (.ref o3)])) rfl rfl (B d12_126)
  replace V38 : Arv Z h38 o3 kk .byte (9 : Int32) [(.int 0), (.int 0), (.int 0), (.int 0), (.int 0), (.int 0), (.int (nar .byte z37)), (.int (nar .byte z24)), (.int (nar .byte z20))] (.int 0) := V38
  have N38 := Fr.snoc X38 N25 geo
  obtain ⟨lc38, X38, N38⟩ := own_gen X38 N38
  have O38 := O25.wr W38 geo
  have K38 : Keep h0 h38 [o3] := K25.wr W38 (Or.inl (List.mem_of_getElem? (i := 0) rfl))
  refine step st38 ?_
  refine step (fun t k => XS.aloadN X38.here hx rfl (B d12_127) (by rw [hls35]; rfl) rfl k) ?_
  obtain ⟨ls39, hls39⟩ := own_sl #[vL q0, s_, vI 9, vR o3, u_, u_, vI r30, vI 5, vI 1, vI y27, vI y27]
  refine step (fun t k => XS.iinc X38.here hx rfl (B d12_128) (by rw [hls35]; rfl) (l' := ls39) (by rw [hls35, hls39]; rfl) k) ?_
  refine step (fun t k => XS.iload X38.here hx rfl (B d12_131) (by rw [hls39]; rfl) k) ?_
  obtain ⟨T40, X40, e40, st40⟩ := getS2 X38 hx hZ hown (host := "") (Or.inl (ww185 hw)) Via.refl e38 (Sta.ext O38.2 ST.k12) (g := (mkF m 133 ls39 [(.int 5), (.ref o3)])) rfl (B d12_133)
  refine step st40 ?_
  refine step (fun t k => XS.iload X40.here hx rfl (B d12_136) (by rw [hls39]; rfl) k) ?_
  have hj41 := own_hj br31
  obtain ⟨z41, hz41, st41⟩ := own_ldDig X40 hx hZ e40 ST.k24 O38.2 hj41 (g := (mkF m 138 ls39 [(.int r30), (.ref w_6), (.int 5), (.ref o3)])) rfl rfl (B d12_138)
  refine step st41 ?_
  obtain ⟨T42, h42, X42, e42, W42, V42, st42⟩ := own_stB X40 hx hZ e40 V38 (j := (5 : Int32)) (by decide) (i := 5) rfl (by show 5 < 9; decide) (g := (mkF m 139 ls39 [(.int z41), (.int 5), (.ref o3)])) rfl rfl (B d12_139)
  replace V42 : Arv Z h42 o3 kk .byte (9 : Int32) [(.int 0), (.int 0), (.int 0), (.int 0), (.int 0), (.int (nar .byte z41)), (.int (nar .byte z37)), (.int (nar .byte z24)), (.int (nar .byte z20))] (.int 0) := V42
  have N42 := Fr.snoc X42 N38 geo
  obtain ⟨lc42, X42, N42⟩ := own_gen X42 N42
  have O42 := O38.wr W42 geo
  have K42 : Keep h0 h42 [o3] := K38.wr W42 (Or.inl (List.mem_of_getElem? (i := 0) rfl))
  refine step st42 ?_
  refine step (fun t k => XS.goto X42.here hx rfl (pc0 := 140) (pc' := 86) rfl (B d12_140) (by decide) (by decide) k) ?_
  refine step (fun t k => XS.iload X42.here hx rfl (B d12_86) (by rw [hls39]; rfl) k) ?_
  refine step (fun t k => XS.bipush X42.here hx rfl (B d12_88) k) ?_
  show G T42 (mkF m 90 ls39 [(.int (-100)), (.int y27)])
  have ho43 := own_n (b := y27) (by decide : (-100 : Int32).toInt = -100) (by omega)
  refine step (fun t k => XS.icmpNo X42.here hx rfl (B d12_90) rfl (flt ho43).2.2.1 k) ?_
  refine step (fun t k => XS.iload X42.here hx rfl (B d12_93) (by rw [hls39]; rfl) k) ?_
  refine step (fun t k => XS.bipush X42.here hx rfl (B d12_95) k) ?_
  refine step (fun t k => XS.idiv X42.here hx rfl (B d12_97) rfl (by decide) k) ?_
  show G T42 (mkF m 98 ls39 [(.int (y27 / (100 : Int32)))])
  obtain ⟨y44, hy44⟩ := own_ex (y27 / (100 : Int32))
  rw [← hy44]
  have bq45 := own_bq hy44 (by omega)
  obtain ⟨ls46, hls46⟩ := own_sl #[vL q0, s_, vI 9, vR o3, u_, u_, vI r30, vI 5, vI 1, vI y44, vI y27]
  refine step (fun t k => XS.istore X42.here hx rfl (B d12_98) rfl (l' := ls46) (by rw [hls39, hls46]; rfl) k) ?_
  refine step (fun t k => XS.iload X42.here hx rfl (B d12_100) (by rw [hls46]; rfl) k) ?_
  refine step (fun t k => XS.bipush X42.here hx rfl (B d12_102) k) ?_
  refine step (fun t k => XS.imul X42.here hx rfl (B d12_104) rfl k) ?_
  refine step (fun t k => XS.iload X42.here hx rfl (B d12_105) (by rw [hls46]; rfl) k) ?_
  refine step (fun t k => XS.isub X42.here hx rfl (B d12_107) rfl k) ?_
  show G T42 (mkF m 108 ls46 [(.int ((y44 * (100 : Int32)) - y27))])
  obtain ⟨r47, hr47⟩ := own_ex ((y44 * (100 : Int32)) - y27)
  rw [← hr47]
  have br48 := own_br bq45 (by omega) hr47
  have bd49 : -100 < y44.toInt ∧ y44.toInt ≤ -10 := by
    omega
  obtain ⟨ls50, hls50⟩ := own_sl #[vL q0, s_, vI 9, vR o3, u_, u_, vI r47, vI 5, vI 1, vI y44, vI y27]
  refine step (fun t k => XS.istore X42.here hx rfl (B d12_108) rfl (l' := ls50) (by rw [hls46, hls50]; rfl) k) ?_
  refine step (fun t k => XS.iload X42.here hx rfl (B d12_110) (by rw [hls50]; rfl) k) ?_
  obtain ⟨ls51, hls51⟩ := own_sl #[vL q0, s_, vI 9, vR o3, u_, u_, vI r47, vI 5, vI 1, vI y44, vI y44]
  refine step (fun t k => XS.istore X42.here hx rfl (B d12_112) rfl (l' := ls51) (by rw [hls50, hls51]; rfl) k) ?_
  refine step (fun t k => XS.aloadN X42.here hx rfl (B d12_114) (by rw [hls51]; rfl) rfl k) ?_
  obtain ⟨ls52, hls52⟩ := own_sl #[vL q0, s_, vI 9, vR o3, u_, u_, vI r47, vI 4, vI 1, vI y44, vI y44]
  refine step (fun t k => XS.iinc X42.here hx rfl (B d12_115) (by rw [hls51]; rfl) (l' := ls52) (by rw [hls51, hls52]; rfl) k) ?_
  refine step (fun t k => XS.iload X42.here hx rfl (B d12_118) (by rw [hls52]; rfl) k) ?_
  show G T42 (mkF m 120 ls52 [(.int 4), (.ref o3)])
  obtain ⟨T53, X53, e53, st53⟩ := getS2 X42 hx hZ hown (host := "") (Or.inl (ww98 hw)) Via.refl e42 (Sta.ext O42.2 ST.k10) (g := (mkF m 120 ls52 [(.int 4), (.ref o3)])) rfl (B d12_120)
  refine step st53 ?_
  refine step (fun t k => XS.iload X53.here hx rfl (B d12_123) (by rw [hls52]; rfl) k) ?_
  have hj54 := own_hj br48
  obtain ⟨z54, hz54, st54⟩ := own_ldDig X53 hx hZ e53 ST.k23 O42.2 hj54 (g := (mkF m 125 ls52 [(.int r47), (.ref w_5), (.int 4), (.ref o3)])) rfl rfl (B d12_125)
  refine step st54 ?_
  obtain ⟨T55, h55, X55, e55, W55, V55, st55⟩ := own_stB X53 hx hZ e53 V42 (j := (4 : Int32)) (by decide) (i := 4) rfl (by show 4 < 9; decide) (g := (mkF m 126 ls52 [(.int z54), (.int 4), (.ref o3)])) rfl rfl (B d12_126)
  replace V55 : Arv Z h55 o3 kk .byte (9 : Int32) [(.int 0), (.int 0), (.int 0), (.int 0), (.int (nar .byte z54)), (.int (nar .byte z41)), (.int (nar .byte z37)), (.int (nar .byte z24)), (.int (nar .byte z20))] (.int 0) := V55
  have N55 := Fr.snoc X55 N42 geo
  obtain ⟨lc55, X55, N55⟩ := own_gen X55 N55
  have O55 := O42.wr W55 geo
  have K55 : Keep h0 h55 [o3] := K42.wr W55 (Or.inl (List.mem_of_getElem? (i := 0) rfl))
  refine step st55 ?_
  refine step (fun t k => XS.aloadN X55.here hx rfl (B d12_127) (by rw [hls52]; rfl) rfl k) ?_
  obtain ⟨ls56, hls56⟩ := own_sl #[vL q0, s_, vI 9, vR o3, u_, u_, vI r47, vI 3, vI 1, vI y44, vI y44]
  refine step (fun t k => XS.iinc X55.here hx rfl (B d12_128) (by rw [hls52]; rfl) (l' := ls56) (by rw [hls52, hls56]; rfl) k) ?_
  refine step (fun t k => XS.iload X55.here hx rfl (B d12_131) (by rw [hls56]; rfl) k) ?_
  obtain ⟨T57, X57, e57, st57⟩ := getS2 X55 hx hZ hown (host := "") (Or.inl (ww185 hw)) Via.refl e55 (Sta.ext O55.2 ST.k12) (g := (mkF m 133 ls56 [(.int 3), (.ref o3)])) rfl (B d12_133)
  refine step st57 ?_
  refine step (fun t k => XS.iload X57.here hx rfl (B d12_136) (by rw [hls56]; rfl) k) ?_
  have hj58 := own_hj br48
  obtain ⟨z58, hz58, st58⟩ := own_ldDig X57 hx hZ e57 ST.k24 O55.2 hj58 (g := (mkF m 138 ls56 [(.int r47), (.ref w_6), (.int 3), (.ref o3)])) rfl rfl (B d12_138)
  refine step st58 ?_
  obtain ⟨T59, h59, X59, e59, W59, V59, st59⟩ := own_stB X57 hx hZ e57 V55 (j := (3 : Int32)) (by decide) (i := 3) rfl (by show 3 < 9; decide) (g := (mkF m 139 ls56 [(.int z58), (.int 3), (.ref o3)])) rfl rfl (B d12_139)
  replace V59 : Arv Z h59 o3 kk .byte (9 : Int32) [(.int 0), (.int 0), (.int 0), (.int (nar .byte z58)), (.int (nar .byte z54)), (.int (nar .byte z41)), (.int (nar .byte z37)), (.int (nar .byte z24)), (.int (nar .byte z20))] (.int 0) := V59
  have N59 := Fr.snoc X59 N55 geo
  obtain ⟨lc59, X59, N59⟩ := own_gen X59 N59
  have O59 := O55.wr W59 geo
  have K59 : Keep h0 h59 [o3] := K55.wr W59 (Or.inl (List.mem_of_getElem? (i := 0) rfl))
  refine step st59 ?_
  refine step (fun t k => XS.goto X59.here hx rfl (pc0 := 140) (pc' := 86) rfl (B d12_140) (by decide) (by decide) k) ?_
  refine step (fun t k => XS.iload X59.here hx rfl (B d12_86) (by rw [hls56]; rfl) k) ?_
  refine step (fun t k => XS.bipush X59.here hx rfl (B d12_88) k) ?_
  show G T59 (mkF m 90 ls56 [(.int (-100)), (.int y44)])
  have ho60 := own_y (b := y44) (by decide : (-100 : Int32).toInt = -100) (by omega)
  refine step (fun t k => XS.icmpYes X59.here hx rfl (pc0 := 90) (pc' := 143) rfl (B d12_90) rfl (tlt ho60).2.2.1 (by decide) (by decide) k) ?_
  refine step (fun t k => XS.aloadN X59.here hx rfl (B d12_143) (by rw [hls56]; rfl) rfl k) ?_
  obtain ⟨ls61, hls61⟩ := own_sl #[vL q0, s_, vI 9, vR o3, u_, u_, vI r47, vI 2, vI 1, vI y44, vI y44]
  refine step (fun t k => XS.iinc X59.here hx rfl (B d12_144) (by rw [hls56]; rfl) (l' := ls61) (by rw [hls56, hls61]; rfl) k) ?_
  refine step (fun t k => XS.iload X59.here hx rfl (B d12_147) (by rw [hls61]; rfl) k) ?_
  obtain ⟨T62, X62, e62, st62⟩ := getS2 X59 hx hZ hown (host := "") (Or.inl (ww98 hw)) Via.refl e59 (Sta.ext O59.2 ST.k10) (g := (mkF m 149 ls61 [(.int 2), (.ref o3)])) rfl (B d12_149)
  refine step st62 ?_
  refine step (fun t k => XS.iload X62.here hx rfl (B d12_152) (by rw [hls61]; rfl) k) ?_
  refine step (fun t k => XS.ineg X62.here hx rfl (B d12_154) rfl k) ?_
  have hj63 := own_hj (own_ng y44 (by omega))
  obtain ⟨z63, hz63, st63⟩ := own_ldDig X62 hx hZ e62 ST.k23 O59.2 hj63 (g := (mkF m 155 ls61 [(.int (-y44)), (.ref w_5), (.int 2), (.ref o3)])) rfl rfl (B d12_155)
  refine step st63 ?_
  obtain ⟨T64, h64, X64, e64, W64, V64, st64⟩ := own_stB X62 hx hZ e62 V59 (j := (2 : Int32)) (by decide) (i := 2) rfl (by show 2 < 9; decide) (g := (mkF m 156 ls61 [(.int z63), (.int 2), (.ref o3)])) rfl rfl (B d12_156)
  replace V64 : Arv Z h64 o3 kk .byte (9 : Int32) [(.int 0), (.int 0), (.int (nar .byte z63)), (.int (nar .byte z58)), (.int (nar .byte z54)), (.int (nar .byte z41)), (.int (nar .byte z37)), (.int (nar .byte z24)), (.int (nar .byte z20))] (.int 0) := V64
  have N64 := Fr.snoc X64 N59 geo
  obtain ⟨lc64, X64, N64⟩ := own_gen X64 N64
  have O64 := O59.wr W64 geo
  have K64 : Keep h0 h64 [o3] := K59.wr W64 (Or.inl (List.mem_of_getElem? (i := 0) rfl))
  refine step st64 ?_
  refine step (fun t k => XS.iload X64.here hx rfl (B d12_157) (by rw [hls61]; rfl) k) ?_
  refine step (fun t k => XS.bipush X64.here hx rfl (B d12_159) k) ?_
  show G T64 (mkF m 161 ls61 [(.int (-9)), (.int y44)])
  have ho65 := own_yr (b := y44) (by decide : (-9 : Int32).toInt = -9) (by omega)
  refine step (fun t k => XS.icmpNo X64.here hx rfl (B d12_161) rfl (tlt ho65).2.1 k) ?_
  refine step (fun t k => XS.aloadN X64.here hx rfl (B d12_164) (by rw [hls61]; rfl) rfl k) ?_
  obtain ⟨ls66, hls66⟩ := own_sl #[vL q0, s_, vI 9, vR o3, u_, u_, vI r47, vI 1, vI 1, vI y44, vI y44]
  refine step (fun t k => XS.iinc X64.here hx rfl (B d12_165) (by rw [hls61]; rfl) (l' := ls66) (by rw [hls61, hls66]; rfl) k) ?_
  refine step (fun t k => XS.iload X64.here hx rfl (B d12_168) (by rw [hls66]; rfl) k) ?_
  obtain ⟨T67, X67, e67, st67⟩ := getS2 X64 hx hZ hown (host := "") (Or.inl (ww185 hw)) Via.refl e64 (Sta.ext O64.2 ST.k12) (g := (mkF m 170 ls66 [(.int 1), (.ref o3)])) rfl (B d12_170)
  refine step st67 ?_
  refine step (fun t k => XS.iload X67.here hx rfl (B d12_173) (by rw [hls66]; rfl) k) ?_
  refine step (fun t k => XS.ineg X67.here hx rfl (B d12_175) rfl k) ?_
  have hj68 := own_hj (own_ng y44 (by omega))
  obtain ⟨z68, hz68, st68⟩ := own_ldDig X67 hx hZ e67 ST.k24 O64.2 hj68 (g := (mkF m 176 ls66 [(.int (-y44)), (.ref w_6), (.int 1), (.ref o3)])) rfl rfl (B d12_176)
  refine step st68 ?_
  obtain ⟨T69, h69, X69, e69, W69, V69, st69⟩ := own_stB X67 hx hZ e67 V64 (j := (1 : Int32)) (by decide) (i := 1) rfl (by show 1 < 9; decide) (g := (mkF m 177 ls66 [(.int z68), (.int 1), (.ref o3)])) rfl rfl (B d12_177)
  replace V69 : Arv Z h69 o3 kk .byte (9 : Int32) [(.int 0), (.int (nar .byte z68)), (.int (nar .byte z63)), (.int (nar .byte z58)), (.int (nar .byte z54)), (.int (nar .byte z41)), (.int (nar .byte z37)), (.int (nar .byte z24)), (.int (nar .byte z20))] (.int 0) := V69
  have N69 := Fr.snoc X69 N64 geo
  obtain ⟨lc69, X69, N69⟩ := own_gen X69 N69
  have K69 : Keep h0 h69 [o3] := K64.wr W69 (Or.inl (List.mem_of_getElem? (i := 0) rfl))
  refine step st69 ?_
  refine step (fun t k => XS.iload X69.here hx rfl (B d12_178) (by rw [hls66]; rfl) k) ?_
  refine step (fun t k => XS.ifNo X69.here hx rfl (B d12_180) rfl ((if0 _ _).trans (feq (by decide : ¬ ((1 : Int32) = (0 : Int32)))).1) k) ?_
  refine step (fun t k => XS.aloadN X69.here hx rfl (B d12_183) (by rw [hls66]; rfl) rfl k) ?_
  obtain ⟨ls70, hls70⟩ := own_sl #[vL q0, s_, vI 9, vR o3, u_, u_, vI r47, vI 0, vI 1, vI y44, vI y44]
  refine step (fun t k => XS.iinc X69.here hx rfl (B d12_184) (by rw [hls66]; rfl) (l' := ls70) (by rw [hls66, hls70]; rfl) k) ?_
  refine step (fun t k => XS.iload X69.here hx rfl (B d12_187) (by rw [hls70]; rfl) k) ?_
  show G T69 (mkF m 189 ls70 [(.int 0), (.ref o3)])
  refine step (fun t k => XS.bipush X69.here hx rfl (B d12_189) k) ?_
  show G T69 (mkF m 191 ls70 [(.int 45), (.int 0), (.ref o3)])
  obtain ⟨T71, h71, X71, e71, W71, V71, st71⟩ := own_stB X69 hx hZ e69 V69 (j := (0 : Int32)) (by decide) (i := 0) rfl (by show 0 < 9; decide) (g := (mkF m 191 ls70 [(.int 45), (.int 0), (.ref o3)])) rfl rfl (B d12_191)
  replace V71 : Arv Z h71 o3 kk .byte (9 : Int32) [(.int (nar .byte (45 : Int32))), (.int (nar .byte z68)), (.int (nar .byte z63)), (.int (nar .byte z58)), (.int (nar .byte z54)), (.int (nar .byte z41)), (.int (nar .byte z37)), (.int (nar .byte z24)), (.int (nar .byte z20))] (.int 0) := V71
  have N71 := Fr.snoc X71 N69 geo
  obtain ⟨lc71, X71, N71⟩ := own_gen X71 N71
  have K71 : Keep h0 h71 [o3] := K69.wr W71 (Or.inl (List.mem_of_getElem? (i := 0) rfl))
  refine step st71 ?_
  refine step (fun t k => XS.iload X71.here hx rfl (B d12_192) (by rw [hls70]; rfl) k) ?_
  exact ret (v := some (.int 0)) X71 (fun h => by rw [Bd.returns] at h; cases h) (fun fs hr => retI X71 hx Bd.returns (B d12_194) hr) e71 ⟨(nar .byte (45 : Int32)), (nar .byte z68), (nar .byte z63), (nar .byte z58), (nar .byte z54), (nar .byte z41), (nar .byte z37), (nar .byte z24), (nar .byte z20), rfl, N71, K71, V71, hz20⟩ (by decide) (by decide)
abbrev rr_gc9p : Room := { frames := 0, cells := 0, slots := 0, locals := 0 }
theorem ef_gc9p (m : MethodId) (q0 : Int64) (o3 : Addr) : entryFrame m #[(.long q0), (.int 9), (.ref o3)] 11 = mkF m 0 #[vL q0, s_, vI 9, vR o3, u_, u_, u_, u_, u_, u_, u_] [] := by first | (simp [entryFrame, mkF, argsToLocals, Value.category]; done) | rfl
def Q_gc9p (Z : State) (w_0 : Addr) (w_1 : Addr) (w_2 : Addr) (w_3 : Addr) (w_4 : Addr) (w_5 : Addr) (w_6 : Addr) (w_7 : Int32) (w_8 : Value) (q0 : Int64) (o3 : Addr) (kk : ClassId) (h0 : Heap) (n0 : Nat) (v : Option Value) (h : Heap) (L : List Loc) : Prop := ∃ c0 : Int32, ∃ c1 : Int32, ∃ c2 : Int32, ∃ c3 : Int32, ∃ c4 : Int32, ∃ c5 : Int32, ∃ c6 : Int32, ∃ c7 : Int32, ∃ c8 : Int32, v = some (.int 0) ∧ Fr n0 L ∧ Keep h0 h [o3] ∧ Arv Z h o3 kk .byte (9 : Int32) [(.int c0), (.int c1), (.int c2), (.int c3), (.int c4), (.int c5), (.int c6), (.int c7), (.int c8)] (.int 0) ∧ ¬ (c8 &&& (255 : Int32)) = (32 : Int32)
theorem rm_gc9p (l : Launch) (Z : State) (a0 : Array Value) (hw : HW Z a0) (ws : List Jvm.Cond) (w_0 : Addr) (w_1 : Addr) (w_2 : Addr) (w_3 : Addr) (w_4 : Addr) (w_5 : Addr) (w_6 : Addr) (w_7 : Int32) (w_8 : Value) (q0 : Int64) (o3 : Addr) (kk : ClassId) (h0 : Heap) (n0 : Nat) (Z0 : n0 ≤ h0.size) (ST : own_St Z w_0 w_1 w_2 w_3 w_4 w_5 w_6 w_7 w_8) (O0 : Old Z n0 h0) (hrg : -2147483648 ≤ q0.toInt ∧ q0.toInt ≤ 2147483647) (hsg : ¬ (q0 < (0 : Int64))) (hlo : (-1000000000 : Int64) < (-q0)) (hhi : ¬ ((-100000000 : Int64) < (-q0))) (Va : Arv Z h0 o3 kk .byte (9 : Int32) [(.int 0), (.int 0), (.int 0), (.int 0), (.int 0), (.int 0), (.int 0), (.int 0), (.int 0)] (.int 0)) (geo : n0 ≤ o3) :
    MetFree l y_12 (head1 (Jvm.Cond.code y_12 jdk_35_method_14_code 11 (some .int) :: ws) rr_gc9p) (fun a U => a = #[(.long q0), (.int 9), (.ref o3)] ∧ Z.Warmed39 U.vm ∧ U.heap = h0) (fun _ _ _ _ _ => True) (fun _ U o U' => ∃ v L, o = .returned v ∧ Q_gc9p Z w_0 w_1 w_2 w_3 w_4 w_5 w_6 w_7 w_8 q0 o3 kk h0 n0 v U'.heap L ∧ FrameEnd U o U' L rr_gc9p.cells rr_gc9p.slots) := by
  refine MetFree.of_bodySF (plainFor_of_name pn_5) hisR ?_
  intro p e s m args below meth c s₁ Bd hml0 hP hK
  obtain ⟨rfl, hZ, hh⟩ := hP
  have hx := Bd.exec
  have hby := Bd.bytes
  have B := @hb _ _ hby
  have hml : c.maxLocals = 11 := hml0
  have hown : s.vm.findClass cn_3 = some m.cls := findClass_of_methodNamed Bd.named
  have X0 : Stand p l e rr_gc9p s m #[(.long q0), (.int 9), (.ref o3)] below meth c s₁ [] 0 0 := Stand.of_body Bd
  have e0 : s₁.heap = h0 := by rw [← hh, Bd.state]; rfl
  have N0 := Fr.nil n0
  have K0 : Keep h0 h0 [o3] := Keep.refl _ _
  obtain ⟨G, step, ret, fin⟩ := own_openX X0 (rr_gc9p.cells) (rr_gc9p.slots) (Q_gc9p Z w_0 w_1 w_2 w_3 w_4 w_5 w_6 w_7 w_8 q0 o3 kk h0 n0) Bd.notSynchronized
  refine fin (g := entryFrame m #[(.long q0), (.int 9), (.ref o3)] 11) ?_
  rw [ef_gc9p m q0 o3]
  obtain ⟨ls0, hls0⟩ := own_sl #[vL q0, s_, vI 9, vR o3, u_, u_, u_, u_, u_, u_, u_]
  suffices hG0 : G s₁ (mkF m 0 ls0 []) by rw [hls0] at hG0; exact hG0
  refine step (fun t k => XS.iloadN X0.here hx rfl (B d12_0) (by rw [hls0]; rfl) k) ?_
  obtain ⟨ls1, hls1⟩ := own_sl #[vL q0, s_, vI 9, vR o3, u_, u_, u_, vI 9, u_, u_, u_]
  refine step (fun t k => XS.istore X0.here hx rfl (B d12_1) rfl (l' := ls1) (by rw [hls0, hls1]; rfl) k) ?_
  refine step (fun t k => XS.lloadN X0.here hx rfl (B d12_3) (by rw [hls1]; rfl) k) ?_
  refine step (fun t k => XS.lconst X0.here hx rfl (B d12_4) k) ?_
  refine step (fun t k => XS.lcmp X0.here hx rfl (B d12_5) rfl k) ?_
  refine step (fun t k => XS.ifYes X0.here hx rfl (pc0 := 6) (pc' := 13) rfl (B d12_6) rfl ((if0 _ _).trans (flt (fun q => hsg ((lw_lt _ _).mp q))).2.1) (by decide) (by decide) k) ?_
  show G s₁ (mkF m 13 ls1 [])
  refine step (fun t k => XS.iconst X0.here hx rfl (B d12_13) k) ?_
  obtain ⟨ls2, hls2⟩ := own_sl #[vL q0, s_, vI 9, vR o3, u_, u_, u_, vI 9, vI 0, u_, u_]
  refine step (fun t k => XS.istore X0.here hx rfl (B d12_14) rfl (l' := ls2) (by rw [hls1, hls2]; rfl) k) ?_
  refine step (fun t k => XS.iload X0.here hx rfl (B d12_16) (by rw [hls2]; rfl) k) ?_
  refine step (fun t k => XS.ifNo X0.here hx rfl (B d12_18) rfl ((if0 _ _).trans (teq (by decide : (0 : Int32) = (0 : Int32))).2) k) ?_
  refine step (fun t k => XS.lloadN X0.here hx rfl (B d12_21) (by rw [hls2]; rfl) k) ?_
  refine step (fun t k => XS.lneg X0.here hx rfl (B d12_22) rfl k) ?_
  show G s₁ (mkF m 23 ls2 [(.long (-q0))])
  obtain ⟨x0, hx0⟩ : ∃ z : Int64, z = (-q0) := ⟨_, rfl⟩
  rw [← hx0]
  have bd3 : -1000000000 < x0.toInt ∧ x0.toInt ≤ -100000000 := by
    rw [hx0]
    have c1 := c_lneg q0
    have r1 := rng64 (-q0)
    have k0 : (0 : Int64).toInt = 0 := by decide
    rw [own_xltL] at hsg
    have k1 : (-1000000000 : Int64).toInt = -1000000000 := by decide
    rw [own_xltL] at hlo
    have k2 : (-100000000 : Int64).toInt = -100000000 := by decide
    rw [own_xltL] at hhi
    omega
  obtain ⟨ls4, hls4⟩ := own_sl #[vL x0, s_, vI 9, vR o3, u_, u_, u_, vI 9, vI 0, u_, u_]
  refine step (fun t k => XS.lstoreN X0.here hx rfl (B d12_23) rfl (l' := ls4) (by rw [hls2, hls4]; rfl) k) ?_
  refine step (fun t k => XS.lloadN X0.here hx rfl (B d12_24) (by rw [hls4]; rfl) k) ?_
  have q5 := X0.ldc2Long hx hown (mvT hZ (ww97 hw)) (g := (mkF m 25 ls4 [(.long x0)])) rfl (B d12_25)
  refine step q5 ?_
  refine step (fun t k => XS.lcmp X0.here hx rfl (B d12_28) rfl k) ?_
  have ho6 := own_yL (b := x0) (by decide : (-2147483648 : Int64).toInt = -2147483648) (by omega)
  refine step (fun t k => XS.ifYes X0.here hx rfl (pc0 := 29) (pc' := 82) rfl (B d12_29) rfl ((if0 _ _).trans (tlt ((lw_gt _ _).mpr ho6)).2.2.1) (by decide) (by decide) k) ?_
  refine step (fun t k => XS.lloadN X0.here hx rfl (B d12_82) (by rw [hls4]; rfl) k) ?_
  refine step (fun t k => XS.l2i X0.here hx rfl (B d12_83) rfl k) ?_
  show G s₁ (mkF m 84 ls4 [(.int (x0.toInt32))])
  obtain ⟨y7, hy7⟩ := own_ex (x0.toInt32)
  rw [← hy7]
  have bd8 : -1000000000 < y7.toInt ∧ y7.toInt ≤ -100000000 := by
    rw [hy7]
    have c1 := c_l2i x0
    have r1 := rng32 x0.toInt32
    omega
  obtain ⟨ls9, hls9⟩ := own_sl #[vL x0, s_, vI 9, vR o3, u_, u_, u_, vI 9, vI 0, u_, vI y7]
  refine step (fun t k => XS.istore X0.here hx rfl (B d12_84) rfl (l' := ls9) (by rw [hls4, hls9]; rfl) k) ?_
  refine step (fun t k => XS.iload X0.here hx rfl (B d12_86) (by rw [hls9]; rfl) k) ?_
  refine step (fun t k => XS.bipush X0.here hx rfl (B d12_88) k) ?_
  show G s₁ (mkF m 90 ls9 [(.int (-100)), (.int y7)])
  have ho10 := own_n (b := y7) (by decide : (-100 : Int32).toInt = -100) (by omega)
  refine step (fun t k => XS.icmpNo X0.here hx rfl (B d12_90) rfl (flt ho10).2.2.1 k) ?_
  refine step (fun t k => XS.iload X0.here hx rfl (B d12_93) (by rw [hls9]; rfl) k) ?_
  refine step (fun t k => XS.bipush X0.here hx rfl (B d12_95) k) ?_
  refine step (fun t k => XS.idiv X0.here hx rfl (B d12_97) rfl (by decide) k) ?_
  show G s₁ (mkF m 98 ls9 [(.int (y7 / (100 : Int32)))])
  obtain ⟨y11, hy11⟩ := own_ex (y7 / (100 : Int32))
  rw [← hy11]
  have bq12 := own_bq hy11 (by omega)
  obtain ⟨ls13, hls13⟩ := own_sl #[vL x0, s_, vI 9, vR o3, u_, u_, u_, vI 9, vI 0, vI y11, vI y7]
  refine step (fun t k => XS.istore X0.here hx rfl (B d12_98) rfl (l' := ls13) (by rw [hls9, hls13]; rfl) k) ?_
  refine step (fun t k => XS.iload X0.here hx rfl (B d12_100) (by rw [hls13]; rfl) k) ?_
  refine step (fun t k => XS.bipush X0.here hx rfl (B d12_102) k) ?_
  refine step (fun t k => XS.imul X0.here hx rfl (B d12_104) rfl k) ?_
  refine step (fun t k => XS.iload X0.here hx rfl (B d12_105) (by rw [hls13]; rfl) k) ?_
  refine step (fun t k => XS.isub X0.here hx rfl (B d12_107) rfl k) ?_
  show G s₁ (mkF m 108 ls13 [(.int ((y11 * (100 : Int32)) - y7))])
  obtain ⟨r14, hr14⟩ := own_ex ((y11 * (100 : Int32)) - y7)
  rw [← hr14]
  have br15 := own_br bq12 (by omega) hr14
  have bd16 : -10000000 < y11.toInt ∧ y11.toInt ≤ -1000000 := by
    omega
  obtain ⟨ls17, hls17⟩ := own_sl #[vL x0, s_, vI 9, vR o3, u_, u_, vI r14, vI 9, vI 0, vI y11, vI y7]
  refine step (fun t k => XS.istore X0.here hx rfl (B d12_108) rfl (l' := ls17) (by rw [hls13, hls17]; rfl) k) ?_
  refine step (fun t k => XS.iload X0.here hx rfl (B d12_110) (by rw [hls17]; rfl) k) ?_
  obtain ⟨ls18, hls18⟩ := own_sl #[vL x0, s_, vI 9, vR o3, u_, u_, vI r14, vI 9, vI 0, vI y11, vI y11]
  refine step (fun t k => XS.istore X0.here hx rfl (B d12_112) rfl (l' := ls18) (by rw [hls17, hls18]; rfl) k) ?_
  refine step (fun t k => XS.aloadN X0.here hx rfl (B d12_114) (by rw [hls18]; rfl) rfl k) ?_
  obtain ⟨ls19, hls19⟩ := own_sl #[vL x0, s_, vI 9, vR o3, u_, u_, vI r14, vI 8, vI 0, vI y11, vI y11]
  refine step (fun t k => XS.iinc X0.here hx rfl (B d12_115) (by rw [hls18]; rfl) (l' := ls19) (by rw [hls18, hls19]; rfl) k) ?_
  refine step (fun t k => XS.iload X0.here hx rfl (B d12_118) (by rw [hls19]; rfl) k) ?_
  show G s₁ (mkF m 120 ls19 [(.int 8), (.ref o3)])
  obtain ⟨T20, X20, e20, st20⟩ := getS2 X0 hx hZ hown (host := "") (Or.inl (ww98 hw)) Via.refl e0 (Sta.ext O0.2 ST.k10) (g := (mkF m 120 ls19 [(.int 8), (.ref o3)])) rfl (B d12_120)
  refine step st20 ?_
  refine step (fun t k => XS.iload X20.here hx rfl (B d12_123) (by rw [hls19]; rfl) k) ?_
  have hj21 := own_hj br15
  obtain ⟨z21, hz21, st21⟩ := own_ldDig X20 hx hZ e20 ST.k23 O0.2 hj21 (g := (mkF m 125 ls19 [(.int r14), (.ref w_5), (.int 8), (.ref o3)])) rfl rfl (B d12_125)
  refine step st21 ?_
  obtain ⟨T22, h22, X22, e22, W22, V22, st22⟩ := own_stB X20 hx hZ e20 Va (j := (8 : Int32)) (by decide) (i := 8) rfl (by show 8 < 9; decide) (g := (mkF m 126 ls19 [(.int z21), (.int 8), (.ref o3)])) rfl rfl (B d12_126)
  replace V22 : Arv Z h22 o3 kk .byte (9 : Int32) [(.int 0), (.int 0), (.int 0), (.int 0), (.int 0), (.int 0), (.int 0), (.int 0), (.int (nar .byte z21))] (.int 0) := V22
  have N22 := Fr.snoc X22 N0 geo
  obtain ⟨lc22, X22, N22⟩ := own_gen X22 N22
  have O22 := O0.wr W22 geo
  have K22 : Keep h0 h22 [o3] := K0.wr W22 (Or.inl (List.mem_of_getElem? (i := 0) rfl))
  refine step st22 ?_
  refine step (fun t k => XS.aloadN X22.here hx rfl (B d12_127) (by rw [hls19]; rfl) rfl k) ?_
  obtain ⟨ls23, hls23⟩ := own_sl #[vL x0, s_, vI 9, vR o3, u_, u_, vI r14, vI 7, vI 0, vI y11, vI y11]
  refine step (fun t k => XS.iinc X22.here hx rfl (B d12_128) (by rw [hls19]; rfl) (l' := ls23) (by rw [hls19, hls23]; rfl) k) ?_
  refine step (fun t k => XS.iload X22.here hx rfl (B d12_131) (by rw [hls23]; rfl) k) ?_
  obtain ⟨T24, X24, e24, st24⟩ := getS2 X22 hx hZ hown (host := "") (Or.inl (ww185 hw)) Via.refl e22 (Sta.ext O22.2 ST.k12) (g := (mkF m 133 ls23 [(.int 7), (.ref o3)])) rfl (B d12_133)
  refine step st24 ?_
  refine step (fun t k => XS.iload X24.here hx rfl (B d12_136) (by rw [hls23]; rfl) k) ?_
  have hj25 := own_hj br15
  obtain ⟨z25, hz25, st25⟩ := own_ldDig X24 hx hZ e24 ST.k24 O22.2 hj25 (g := (mkF m 138 ls23 [(.int r14), (.ref w_6), (.int 7), (.ref o3)])) rfl rfl (B d12_138)
  refine step st25 ?_
  obtain ⟨T26, h26, X26, e26, W26, V26, st26⟩ := own_stB X24 hx hZ e24 V22 (j := (7 : Int32)) (by decide) (i := 7) rfl (by show 7 < 9; decide) (g := (mkF m 139 ls23 [(.int z25), (.int 7), (.ref o3)])) rfl rfl (B d12_139)
  replace V26 : Arv Z h26 o3 kk .byte (9 : Int32) [(.int 0), (.int 0), (.int 0), (.int 0), (.int 0), (.int 0), (.int 0), (.int (nar .byte z25)), (.int (nar .byte z21))] (.int 0) := V26
  have N26 := Fr.snoc X26 N22 geo
  obtain ⟨lc26, X26, N26⟩ := own_gen X26 N26
  have O26 := O22.wr W26 geo
  have K26 : Keep h0 h26 [o3] := K22.wr W26 (Or.inl (List.mem_of_getElem? (i := 0) rfl))
  refine step st26 ?_
  refine step (fun t k => XS.goto X26.here hx rfl (pc0 := 140) (pc' := 86) rfl (B d12_140) (by decide) (by decide) k) ?_
  refine step (fun t k => XS.iload X26.here hx rfl (B d12_86) (by rw [hls23]; rfl) k) ?_
  refine step (fun t k => XS.bipush X26.here hx rfl (B d12_88) k) ?_
  show G T26 (mkF m 90 ls23 [(.int (-100)), (.int y11)])
  have ho27 := own_n (b := y11) (by decide : (-100 : Int32).toInt = -100) (by omega)
  refine step (fun t k => XS.icmpNo X26.here hx rfl (B d12_90) rfl (flt ho27).2.2.1 k) ?_
  refine step (fun t k => XS.iload X26.here hx rfl (B d12_93) (by rw [hls23]; rfl) k) ?_
  refine step (fun t k => XS.bipush X26.here hx rfl (B d12_95) k) ?_
  refine step (fun t k => XS.idiv X26.here hx rfl (B d12_97) rfl (by decide) k) ?_
  show G T26 (mkF m 98 ls23 [(.int (y11 / (100 : Int32)))])
  obtain ⟨y28, hy28⟩ := own_ex (y11 / (100 : Int32))
  rw [← hy28]
  have bq29 := own_bq hy28 (by omega)
  obtain ⟨ls30, hls30⟩ := own_sl #[vL x0, s_, vI 9, vR o3, u_, u_, vI r14, vI 7, vI 0, vI y28, vI y11]
  refine step (fun t k => XS.istore X26.here hx rfl (B d12_98) rfl (l' := ls30) (by rw [hls23, hls30]; rfl) k) ?_
  refine step (fun t k => XS.iload X26.here hx rfl (B d12_100) (by rw [hls30]; rfl) k) ?_
  refine step (fun t k => XS.bipush X26.here hx rfl (B d12_102) k) ?_
  refine step (fun t k => XS.imul X26.here hx rfl (B d12_104) rfl k) ?_
  refine step (fun t k => XS.iload X26.here hx rfl (B d12_105) (by rw [hls30]; rfl) k) ?_
  refine step (fun t k => XS.isub X26.here hx rfl (B d12_107) rfl k) ?_
  show G T26 (mkF m 108 ls30 [(.int ((y28 * (100 : Int32)) - y11))])
  obtain ⟨r31, hr31⟩ := own_ex ((y28 * (100 : Int32)) - y11)
  rw [← hr31]
  have br32 := own_br bq29 (by omega) hr31
  have bd33 : -100000 < y28.toInt ∧ y28.toInt ≤ -10000 := by
    omega
  obtain ⟨ls34, hls34⟩ := own_sl #[vL x0, s_, vI 9, vR o3, u_, u_, vI r31, vI 7, vI 0, vI y28, vI y11]
  refine step (fun t k => XS.istore X26.here hx rfl (B d12_108) rfl (l' := ls34) (by rw [hls30, hls34]; rfl) k) ?_
  refine step (fun t k => XS.iload X26.here hx rfl (B d12_110) (by rw [hls34]; rfl) k) ?_
  obtain ⟨ls35, hls35⟩ := own_sl #[vL x0, s_, vI 9, vR o3, u_, u_, vI r31, vI 7, vI 0, vI y28, vI y28]
  refine step (fun t k => XS.istore X26.here hx rfl (B d12_112) rfl (l' := ls35) (by rw [hls34, hls35]; rfl) k) ?_
  refine step (fun t k => XS.aloadN X26.here hx rfl (B d12_114) (by rw [hls35]; rfl) rfl k) ?_
  obtain ⟨ls36, hls36⟩ := own_sl #[vL x0, s_, vI 9, vR o3, u_, u_, vI r31, vI 6, vI 0, vI y28, vI y28]
  refine step (fun t k => XS.iinc X26.here hx rfl (B d12_115) (by rw [hls35]; rfl) (l' := ls36) (by rw [hls35, hls36]; rfl) k) ?_
  refine step (fun t k => XS.iload X26.here hx rfl (B d12_118) (by rw [hls36]; rfl) k) ?_
  show G T26 (mkF m 120 ls36 [(.int 6), (.ref o3)])
  obtain ⟨T37, X37, e37, st37⟩ := getS2 X26 hx hZ hown (host := "") (Or.inl (ww98 hw)) Via.refl e26 (Sta.ext O26.2 ST.k10) (g := (mkF m 120 ls36 [(.int 6), (.ref o3)])) rfl (B d12_120)
  refine step st37 ?_
  refine step (fun t k => XS.iload X37.here hx rfl (B d12_123) (by rw [hls36]; rfl) k) ?_
  have hj38 := own_hj br32
  obtain ⟨z38, hz38, st38⟩ := own_ldDig X37 hx hZ e37 ST.k23 O26.2 hj38 (g := (mkF m 125 ls36 [(.int r31), (.ref w_5), (.int 6), (.ref o3)])) rfl rfl (B d12_125)
  refine step st38 ?_
  obtain ⟨T39, h39, X39, e39, W39, V39, st39⟩ := own_stB X37 hx hZ e37 V26 (j := (6 : Int32)) (by decide) (i := 6) rfl (by show 6 < 9; decide) (g := (mkF m 126 ls36 [(.int z38), (.int 6), (.ref o3)])) rfl rfl (B d12_126)
  replace V39 : Arv Z h39 o3 kk .byte (9 : Int32) [(.int 0), (.int 0), (.int 0), (.int 0), (.int 0), (.int 0), (.int (nar .byte z38)), (.int (nar .byte z25)), (.int (nar .byte z21))] (.int 0) := V39
  have N39 := Fr.snoc X39 N26 geo
  obtain ⟨lc39, X39, N39⟩ := own_gen X39 N39
  have O39 := O26.wr W39 geo
  have K39 : Keep h0 h39 [o3] := K26.wr W39 (Or.inl (List.mem_of_getElem? (i := 0) rfl))
  refine step st39 ?_
  refine step (fun t k => XS.aloadN X39.here hx rfl (B d12_127) (by rw [hls36]; rfl) rfl k) ?_
  obtain ⟨ls40, hls40⟩ := own_sl #[vL x0, s_, vI 9, vR o3, u_, u_, vI r31, vI 5, vI 0, vI y28, vI y28]
  refine step (fun t k => XS.iinc X39.here hx rfl (B d12_128) (by rw [hls36]; rfl) (l' := ls40) (by rw [hls36, hls40]; rfl) k) ?_
  refine step (fun t k => XS.iload X39.here hx rfl (B d12_131) (by rw [hls40]; rfl) k) ?_
  obtain ⟨T41, X41, e41, st41⟩ := getS2 X39 hx hZ hown (host := "") (Or.inl (ww185 hw)) Via.refl e39 (Sta.ext O39.2 ST.k12) (g := (mkF m 133 ls40 [(.int 5), (.ref o3)])) rfl (B d12_133)
  refine step st41 ?_
  refine step (fun t k => XS.iload X41.here hx rfl (B d12_136) (by rw [hls40]; rfl) k) ?_
  have hj42 := own_hj br32
  obtain ⟨z42, hz42, st42⟩ := own_ldDig X41 hx hZ e41 ST.k24 O39.2 hj42 (g := (mkF m 138 ls40 [(.int r31), (.ref w_6), (.int 5), (.ref o3)])) rfl rfl (B d12_138)
  refine step st42 ?_
  obtain ⟨T43, h43, X43, e43, W43, V43, st43⟩ := own_stB X41 hx hZ e41 V39 (j := (5 : Int32)) (by decide) (i := 5) rfl (by show 5 < 9; decide) (g := (mkF m 139 ls40 [(.int z42), (.int 5), (.ref o3)])) rfl rfl (B d12_139)
  replace V43 : Arv Z h43 o3 kk .byte (9 : Int32) [(.int 0), (.int 0), (.int 0), (.int 0), (.int 0), (.int (nar .byte z42)), (.int (nar .byte z38)), (.int (nar .byte z25)), (.int (nar .byte z21))] (.int 0) := V43
  have N43 := Fr.snoc X43 N39 geo
  obtain ⟨lc43, X43, N43⟩ := own_gen X43 N43
  have O43 := O39.wr W43 geo
  have K43 : Keep h0 h43 [o3] := K39.wr W43 (Or.inl (List.mem_of_getElem? (i := 0) rfl))
  refine step st43 ?_
  refine step (fun t k => XS.goto X43.here hx rfl (pc0 := 140) (pc' := 86) rfl (B d12_140) (by decide) (by decide) k) ?_
  refine step (fun t k => XS.iload X43.here hx rfl (B d12_86) (by rw [hls40]; rfl) k) ?_
  refine step (fun t k => XS.bipush X43.here hx rfl (B d12_88) k) ?_
  show G T43 (mkF m 90 ls40 [(.int (-100)), (.int y28)])
  have ho44 := own_n (b := y28) (by decide : (-100 : Int32).toInt = -100) (by omega)
  refine step (fun t k => XS.icmpNo X43.here hx rfl (B d12_90) rfl (flt ho44).2.2.1 k) ?_
  refine step (fun t k => XS.iload X43.here hx rfl (B d12_93) (by rw [hls40]; rfl) k) ?_
  refine step (fun t k => XS.bipush X43.here hx rfl (B d12_95) k) ?_
  refine step (fun t k => XS.idiv X43.here hx rfl (B d12_97) rfl (by decide) k) ?_
  show G T43 (mkF m 98 ls40 [(.int (y28 / (100 : Int32)))])
  obtain ⟨y45, hy45⟩ := own_ex (y28 / (100 : Int32))
  rw [← hy45]
  have bq46 := own_bq hy45 (by omega)
  obtain ⟨ls47, hls47⟩ := own_sl #[vL x0, s_, vI 9, vR o3, u_, u_, vI r31, vI 5, vI 0, vI y45, vI y28]
  refine step (fun t k => XS.istore X43.here hx rfl (B d12_98) rfl (l' := ls47) (by rw [hls40, hls47]; rfl) k) ?_
  refine step (fun t k => XS.iload X43.here hx rfl (B d12_100) (by rw [hls47]; rfl) k) ?_
  refine step (fun t k => XS.bipush X43.here hx rfl (B d12_102) k) ?_
  refine step (fun t k => XS.imul X43.here hx rfl (B d12_104) rfl k) ?_
  refine step (fun t k => XS.iload X43.here hx rfl (B d12_105) (by rw [hls47]; rfl) k) ?_
  refine step (fun t k => XS.isub X43.here hx rfl (B d12_107) rfl k) ?_
  show G T43 (mkF m 108 ls47 [(.int ((y45 * (100 : Int32)) - y28))])
  obtain ⟨r48, hr48⟩ := own_ex ((y45 * (100 : Int32)) - y28)
  rw [← hr48]
  have br49 := own_br bq46 (by omega) hr48
  have bd50 : -1000 < y45.toInt ∧ y45.toInt ≤ -100 := by
    omega
  obtain ⟨ls51, hls51⟩ := own_sl #[vL x0, s_, vI 9, vR o3, u_, u_, vI r48, vI 5, vI 0, vI y45, vI y28]
  refine step (fun t k => XS.istore X43.here hx rfl (B d12_108) rfl (l' := ls51) (by rw [hls47, hls51]; rfl) k) ?_
  refine step (fun t k => XS.iload X43.here hx rfl (B d12_110) (by rw [hls51]; rfl) k) ?_
  obtain ⟨ls52, hls52⟩ := own_sl #[vL x0, s_, vI 9, vR o3, u_, u_, vI r48, vI 5, vI 0, vI y45, vI y45]
  refine step (fun t k => XS.istore X43.here hx rfl (B d12_112) rfl (l' := ls52) (by rw [hls51, hls52]; rfl) k) ?_
  refine step (fun t k => XS.aloadN X43.here hx rfl (B d12_114) (by rw [hls52]; rfl) rfl k) ?_
  obtain ⟨ls53, hls53⟩ := own_sl #[vL x0, s_, vI 9, vR o3, u_, u_, vI r48, vI 4, vI 0, vI y45, vI y45]
  refine step (fun t k => XS.iinc X43.here hx rfl (B d12_115) (by rw [hls52]; rfl) (l' := ls53) (by rw [hls52, hls53]; rfl) k) ?_
  refine step (fun t k => XS.iload X43.here hx rfl (B d12_118) (by rw [hls53]; rfl) k) ?_
  show G T43 (mkF m 120 ls53 [(.int 4), (.ref o3)])
  obtain ⟨T54, X54, e54, st54⟩ := getS2 X43 hx hZ hown (host := "") (Or.inl (ww98 hw)) Via.refl e43 (Sta.ext O43.2 ST.k10) (g := (mkF m 120 ls53 [(.int 4), (.ref o3)])) rfl (B d12_120)
  refine step st54 ?_
  refine step (fun t k => XS.iload X54.here hx rfl (B d12_123) (by rw [hls53]; rfl) k) ?_
  have hj55 := own_hj br49
  obtain ⟨z55, hz55, st55⟩ := own_ldDig X54 hx hZ e54 ST.k23 O43.2 hj55 (g := (mkF m 125 ls53 [(.int r48), (.ref w_5), (.int 4), (.ref o3)])) rfl rfl (B d12_125)
  refine step st55 ?_
  obtain ⟨T56, h56, X56, e56, W56, V56, st56⟩ := own_stB X54 hx hZ e54 V43 (j := (4 : Int32)) (by decide) (i := 4) rfl (by show 4 < 9; decide) (g := (mkF m 126 ls53 [(.int z55), (.int 4), (.ref o3)])) rfl rfl (B d12_126)
  replace V56 : Arv Z h56 o3 kk .byte (9 : Int32) [(.int 0), (.int 0), (.int 0), (.int 0), (.int (nar .byte z55)), (.int (nar .byte z42)), (.int (nar .byte z38)), (.int (nar .byte z25)), (.int (nar .byte z21))] (.int 0) := V56
  have N56 := Fr.snoc X56 N43 geo
  obtain ⟨lc56, X56, N56⟩ := own_gen X56 N56
  have O56 := O43.wr W56 geo
  have K56 : Keep h0 h56 [o3] := K43.wr W56 (Or.inl (List.mem_of_getElem? (i := 0) rfl))
  refine step st56 ?_
  refine step (fun t k => XS.aloadN X56.here hx rfl (B d12_127) (by rw [hls53]; rfl) rfl k) ?_
  obtain ⟨ls57, hls57⟩ := own_sl #[vL x0, s_, vI 9, vR o3, u_, u_, vI r48, vI 3, vI 0, vI y45, vI y45]
  refine step (fun t k => XS.iinc X56.here hx rfl (B d12_128) (by rw [hls53]; rfl) (l' := ls57) (by rw [hls53, hls57]; rfl) k) ?_
  refine step (fun t k => XS.iload X56.here hx rfl (B d12_131) (by rw [hls57]; rfl) k) ?_
  obtain ⟨T58, X58, e58, st58⟩ := getS2 X56 hx hZ hown (host := "") (Or.inl (ww185 hw)) Via.refl e56 (Sta.ext O56.2 ST.k12) (g := (mkF m 133 ls57 [(.int 3), (.ref o3)])) rfl (B d12_133)
  refine step st58 ?_
  refine step (fun t k => XS.iload X58.here hx rfl (B d12_136) (by rw [hls57]; rfl) k) ?_
  have hj59 := own_hj br49
  obtain ⟨z59, hz59, st59⟩ := own_ldDig X58 hx hZ e58 ST.k24 O56.2 hj59 (g := (mkF m 138 ls57 [(.int r48), (.ref w_6), (.int 3), (.ref o3)])) rfl rfl (B d12_138)
  refine step st59 ?_
  obtain ⟨T60, h60, X60, e60, W60, V60, st60⟩ := own_stB X58 hx hZ e58 V56 (j := (3 : Int32)) (by decide) (i := 3) rfl (by show 3 < 9; decide) (g := (mkF m 139 ls57 [(.int z59), (.int 3), (.ref o3)])) rfl rfl (B d12_139)
  replace V60 : Arv Z h60 o3 kk .byte (9 : Int32) [(.int 0), (.int 0), (.int 0), (.int (nar .byte z59)), (.int (nar .byte z55)), (.int (nar .byte z42)), (.int (nar .byte z38)), (.int (nar .byte z25)), (.int (nar .byte z21))] (.int 0) := V60
  have N60 := Fr.snoc X60 N56 geo
  obtain ⟨lc60, X60, N60⟩ := own_gen X60 N60
  have O60 := O56.wr W60 geo
  have K60 : Keep h0 h60 [o3] := K56.wr W60 (Or.inl (List.mem_of_getElem? (i := 0) rfl))
  refine step st60 ?_
  refine step (fun t k => XS.goto X60.here hx rfl (pc0 := 140) (pc' := 86) rfl (B d12_140) (by decide) (by decide) k) ?_
  refine step (fun t k => XS.iload X60.here hx rfl (B d12_86) (by rw [hls57]; rfl) k) ?_
  refine step (fun t k => XS.bipush X60.here hx rfl (B d12_88) k) ?_
  show G T60 (mkF m 90 ls57 [(.int (-100)), (.int y45)])
  have ho61 := own_n (b := y45) (by decide : (-100 : Int32).toInt = -100) (by omega)
  refine step (fun t k => XS.icmpNo X60.here hx rfl (B d12_90) rfl (flt ho61).2.2.1 k) ?_
  refine step (fun t k => XS.iload X60.here hx rfl (B d12_93) (by rw [hls57]; rfl) k) ?_
  refine step (fun t k => XS.bipush X60.here hx rfl (B d12_95) k) ?_
  refine step (fun t k => XS.idiv X60.here hx rfl (B d12_97) rfl (by decide) k) ?_
  show G T60 (mkF m 98 ls57 [(.int (y45 / (100 : Int32)))])
  obtain ⟨y62, hy62⟩ := own_ex (y45 / (100 : Int32))
  rw [← hy62]
  have bq63 := own_bq hy62 (by omega)
  obtain ⟨ls64, hls64⟩ := own_sl #[vL x0, s_, vI 9, vR o3, u_, u_, vI r48, vI 3, vI 0, vI y62, vI y45]
  refine step (fun t k => XS.istore X60.here hx rfl (B d12_98) rfl (l' := ls64) (by rw [hls57, hls64]; rfl) k) ?_
  refine step (fun t k => XS.iload X60.here hx rfl (B d12_100) (by rw [hls64]; rfl) k) ?_
  refine step (fun t k => XS.bipush X60.here hx rfl (B d12_102) k) ?_
  refine step (fun t k => XS.imul X60.here hx rfl (B d12_104) rfl k) ?_
  refine step (fun t k => XS.iload X60.here hx rfl (B d12_105) (by rw [hls64]; rfl) k) ?_
  refine step (fun t k => XS.isub X60.here hx rfl (B d12_107) rfl k) ?_
  show G T60 (mkF m 108 ls64 [(.int ((y62 * (100 : Int32)) - y45))])
  obtain ⟨r65, hr65⟩ := own_ex ((y62 * (100 : Int32)) - y45)
  rw [← hr65]
  have br66 := own_br bq63 (by omega) hr65
  have bd67 : -10 < y62.toInt ∧ y62.toInt ≤ 0 := by
    omega
  obtain ⟨ls68, hls68⟩ := own_sl #[vL x0, s_, vI 9, vR o3, u_, u_, vI r65, vI 3, vI 0, vI y62, vI y45]
  refine step (fun t k => XS.istore X60.here hx rfl (B d12_108) rfl (l' := ls68) (by rw [hls64, hls68]; rfl) k) ?_
  refine step (fun t k => XS.iload X60.here hx rfl (B d12_110) (by rw [hls68]; rfl) k) ?_
  obtain ⟨ls69, hls69⟩ := own_sl #[vL x0, s_, vI 9, vR o3, u_, u_, vI r65, vI 3, vI 0, vI y62, vI y62]
  refine step (fun t k => XS.istore X60.here hx rfl (B d12_112) rfl (l' := ls69) (by rw [hls68, hls69]; rfl) k) ?_
  refine step (fun t k => XS.aloadN X60.here hx rfl (B d12_114) (by rw [hls69]; rfl) rfl k) ?_
  obtain ⟨ls70, hls70⟩ := own_sl #[vL x0, s_, vI 9, vR o3, u_, u_, vI r65, vI 2, vI 0, vI y62, vI y62]
  refine step (fun t k => XS.iinc X60.here hx rfl (B d12_115) (by rw [hls69]; rfl) (l' := ls70) (by rw [hls69, hls70]; rfl) k) ?_
  refine step (fun t k => XS.iload X60.here hx rfl (B d12_118) (by rw [hls70]; rfl) k) ?_
  show G T60 (mkF m 120 ls70 [(.int 2), (.ref o3)])
  obtain ⟨T71, X71, e71, st71⟩ := getS2 X60 hx hZ hown (host := "") (Or.inl (ww98 hw)) Via.refl e60 (Sta.ext O60.2 ST.k10) (g := (mkF m 120 ls70 [(.int 2), (.ref o3)])) rfl (B d12_120)
  refine step st71 ?_
  refine step (fun t k => XS.iload X71.here hx rfl (B d12_123) (by rw [hls70]; rfl) k) ?_
  have hj72 := own_hj br66
  obtain ⟨z72, hz72, st72⟩ := own_ldDig X71 hx hZ e71 ST.k23 O60.2 hj72 (g := (mkF m 125 ls70 [(.int r65), (.ref w_5), (.int 2), (.ref o3)])) rfl rfl (B d12_125)
  refine step st72 ?_
  obtain ⟨T73, h73, X73, e73, W73, V73, st73⟩ := own_stB X71 hx hZ e71 V60 (j := (2 : Int32)) (by decide) (i := 2) rfl (by show 2 < 9; decide) (g := (mkF m 126 ls70 [(.int z72), (.int 2), (.ref o3)])) rfl rfl (B d12_126)
  replace V73 : Arv Z h73 o3 kk .byte (9 : Int32) [(.int 0), (.int 0), (.int (nar .byte z72)), (.int (nar .byte z59)), (.int (nar .byte z55)), (.int (nar .byte z42)), (.int (nar .byte z38)), (.int (nar .byte z25)), (.int (nar .byte z21))] (.int 0) := V73
  have N73 := Fr.snoc X73 N60 geo
  obtain ⟨lc73, X73, N73⟩ := own_gen X73 N73
  have O73 := O60.wr W73 geo
  have K73 : Keep h0 h73 [o3] := K60.wr W73 (Or.inl (List.mem_of_getElem? (i := 0) rfl))
  refine step st73 ?_
  refine step (fun t k => XS.aloadN X73.here hx rfl (B d12_127) (by rw [hls70]; rfl) rfl k) ?_
  obtain ⟨ls74, hls74⟩ := own_sl #[vL x0, s_, vI 9, vR o3, u_, u_, vI r65, vI 1, vI 0, vI y62, vI y62]
  refine step (fun t k => XS.iinc X73.here hx rfl (B d12_128) (by rw [hls70]; rfl) (l' := ls74) (by rw [hls70, hls74]; rfl) k) ?_
  refine step (fun t k => XS.iload X73.here hx rfl (B d12_131) (by rw [hls74]; rfl) k) ?_
  obtain ⟨T75, X75, e75, st75⟩ := getS2 X73 hx hZ hown (host := "") (Or.inl (ww185 hw)) Via.refl e73 (Sta.ext O73.2 ST.k12) (g := (mkF m 133 ls74 [(.int 1), (.ref o3)])) rfl (B d12_133)
  refine step st75 ?_
  refine step (fun t k => XS.iload X75.here hx rfl (B d12_136) (by rw [hls74]; rfl) k) ?_
  have hj76 := own_hj br66
  obtain ⟨z76, hz76, st76⟩ := own_ldDig X75 hx hZ e75 ST.k24 O73.2 hj76 (g := (mkF m 138 ls74 [(.int r65), (.ref w_6), (.int 1), (.ref o3)])) rfl rfl (B d12_138)
  refine step st76 ?_
  obtain ⟨T77, h77, X77, e77, W77, V77, st77⟩ := own_stB X75 hx hZ e75 V73 (j := (1 : Int32)) (by decide) (i := 1) rfl (by show 1 < 9; decide) (g := (mkF m 139 ls74 [(.int z76), (.int 1), (.ref o3)])) rfl rfl (B d12_139)
  replace V77 : Arv Z h77 o3 kk .byte (9 : Int32) [(.int 0), (.int (nar .byte z76)), (.int (nar .byte z72)), (.int (nar .byte z59)), (.int (nar .byte z55)), (.int (nar .byte z42)), (.int (nar .byte z38)), (.int (nar .byte z25)), (.int (nar .byte z21))] (.int 0) := V77
  have N77 := Fr.snoc X77 N73 geo
  obtain ⟨lc77, X77, N77⟩ := own_gen X77 N77
  have O77 := O73.wr W77 geo
  have K77 : Keep h0 h77 [o3] := K73.wr W77 (Or.inl (List.mem_of_getElem? (i := 0) rfl))
  refine step st77 ?_
  refine step (fun t k => XS.goto X77.here hx rfl (pc0 := 140) (pc' := 86) rfl (B d12_140) (by decide) (by decide) k) ?_
  refine step (fun t k => XS.iload X77.here hx rfl (B d12_86) (by rw [hls74]; rfl) k) ?_
  refine step (fun t k => XS.bipush X77.here hx rfl (B d12_88) k) ?_
  show G T77 (mkF m 90 ls74 [(.int (-100)), (.int y62)])
  have ho78 := own_y (b := y62) (by decide : (-100 : Int32).toInt = -100) (by omega)
  refine step (fun t k => XS.icmpYes X77.here hx rfl (pc0 := 90) (pc' := 143) rfl (B d12_90) rfl (tlt ho78).2.2.1 (by decide) (by decide) k) ?_
  refine step (fun t k => XS.aloadN X77.here hx rfl (B d12_143) (by rw [hls74]; rfl) rfl k) ?_
  obtain ⟨ls79, hls79⟩ := own_sl #[vL x0, s_, vI 9, vR o3, u_, u_, vI r65, vI 0, vI 0, vI y62, vI y62]
  refine step (fun t k => XS.iinc X77.here hx rfl (B d12_144) (by rw [hls74]; rfl) (l' := ls79) (by rw [hls74, hls79]; rfl) k) ?_
  refine step (fun t k => XS.iload X77.here hx rfl (B d12_147) (by rw [hls79]; rfl) k) ?_
  obtain ⟨T80, X80, e80, st80⟩ := getS2 X77 hx hZ hown (host := "") (Or.inl (ww98 hw)) Via.refl e77 (Sta.ext O77.2 ST.k10) (g := (mkF m 149 ls79 [(.int 0), (.ref o3)])) rfl (B d12_149)
  refine step st80 ?_
  refine step (fun t k => XS.iload X80.here hx rfl (B d12_152) (by rw [hls79]; rfl) k) ?_
  refine step (fun t k => XS.ineg X80.here hx rfl (B d12_154) rfl k) ?_
  have hj81 := own_hj (own_ng y62 (by omega))
  obtain ⟨z81, hz81, st81⟩ := own_ldDig X80 hx hZ e80 ST.k23 O77.2 hj81 (g := (mkF m 155 ls79 [(.int (-y62)), (.ref w_5), (.int 0), (.ref o3)])) rfl rfl (B d12_155)
  refine step st81 ?_
  obtain ⟨T82, h82, X82, e82, W82, V82, st82⟩ := own_stB X80 hx hZ e80 V77 (j := (0 : Int32)) (by decide) (i := 0) rfl (by show 0 < 9; decide) (g := (mkF m 156 ls79 [(.int z81), (.int 0), (.ref o3)])) rfl rfl (B d12_156)
  replace V82 : Arv Z h82 o3 kk .byte (9 : Int32) [(.int (nar .byte z81)), (.int (nar .byte z76)), (.int (nar .byte z72)), (.int (nar .byte z59)), (.int (nar .byte z55)), (.int (nar .byte z42)), (.int (nar .byte z38)), (.int (nar .byte z25)), (.int (nar .byte z21))] (.int 0) := V82
  have N82 := Fr.snoc X82 N77 geo
  obtain ⟨lc82, X82, N82⟩ := own_gen X82 N82
  have K82 : Keep h0 h82 [o3] := K77.wr W82 (Or.inl (List.mem_of_getElem? (i := 0) rfl))
  refine step st82 ?_
  refine step (fun t k => XS.iload X82.here hx rfl (B d12_157) (by rw [hls79]; rfl) k) ?_
  refine step (fun t k => XS.bipush X82.here hx rfl (B d12_159) k) ?_
  show G T82 (mkF m 161 ls79 [(.int (-9)), (.int y62)])
  have ho83 := own_nr (b := y62) (by decide : (-9 : Int32).toInt = -9) (by omega)
  refine step (fun t k => XS.icmpYes X82.here hx rfl (pc0 := 161) (pc' := 178) rfl (B d12_161) rfl (flt ho83).2.1 (by decide) (by decide) k) ?_
  refine step (fun t k => XS.iload X82.here hx rfl (B d12_178) (by rw [hls79]; rfl) k) ?_
  refine step (fun t k => XS.ifYes X82.here hx rfl (pc0 := 180) (pc' := 192) rfl (B d12_180) rfl ((if0 _ _).trans (teq (by decide : (0 : Int32) = (0 : Int32))).1) (by decide) (by decide) k) ?_
  refine step (fun t k => XS.iload X82.here hx rfl (B d12_192) (by rw [hls79]; rfl) k) ?_
  exact ret (v := some (.int 0)) X82 (fun h => by rw [Bd.returns] at h; cases h) (fun fs hr => retI X82 hx Bd.returns (B d12_194) hr) e82 ⟨(nar .byte z81), (nar .byte z76), (nar .byte z72), (nar .byte z59), (nar .byte z55), (nar .byte z42), (nar .byte z38), (nar .byte z25), (nar .byte z21), rfl, N82, K82, V82, hz21⟩ (by decide) (by decide)
abbrev rr_gc9n : Room := { frames := 0, cells := 0, slots := 0, locals := 0 }
theorem ef_gc9n (m : MethodId) (q0 : Int64) (o3 : Addr) : entryFrame m #[(.long q0), (.int 10), (.ref o3)] 11 = mkF m 0 #[vL q0, s_, vI 10, vR o3, u_, u_, u_, u_, u_, u_, u_] [] := by first | (simp [entryFrame, mkF, argsToLocals, Value.category]; done) | rfl
def Q_gc9n (Z : State) (w_0 : Addr) (w_1 : Addr) (w_2 : Addr) (w_3 : Addr) (w_4 : Addr) (w_5 : Addr) (w_6 : Addr) (w_7 : Int32) (w_8 : Value) (q0 : Int64) (o3 : Addr) (kk : ClassId) (h0 : Heap) (n0 : Nat) (v : Option Value) (h : Heap) (L : List Loc) : Prop := ∃ c0 : Int32, ∃ c1 : Int32, ∃ c2 : Int32, ∃ c3 : Int32, ∃ c4 : Int32, ∃ c5 : Int32, ∃ c6 : Int32, ∃ c7 : Int32, ∃ c8 : Int32, ∃ c9 : Int32, v = some (.int 0) ∧ Fr n0 L ∧ Keep h0 h [o3] ∧ Arv Z h o3 kk .byte (10 : Int32) [(.int c0), (.int c1), (.int c2), (.int c3), (.int c4), (.int c5), (.int c6), (.int c7), (.int c8), (.int c9)] (.int 0) ∧ ¬ (c9 &&& (255 : Int32)) = (32 : Int32)
theorem rm_gc9n (l : Launch) (Z : State) (a0 : Array Value) (hw : HW Z a0) (ws : List Jvm.Cond) (w_0 : Addr) (w_1 : Addr) (w_2 : Addr) (w_3 : Addr) (w_4 : Addr) (w_5 : Addr) (w_6 : Addr) (w_7 : Int32) (w_8 : Value) (q0 : Int64) (o3 : Addr) (kk : ClassId) (h0 : Heap) (n0 : Nat) (Z0 : n0 ≤ h0.size) (ST : own_St Z w_0 w_1 w_2 w_3 w_4 w_5 w_6 w_7 w_8) (O0 : Old Z n0 h0) (hrg : -2147483648 ≤ q0.toInt ∧ q0.toInt ≤ 2147483647) (hsg : q0 < (0 : Int64)) (hlo : (-1000000000 : Int64) < q0) (hhi : ¬ ((-100000000 : Int64) < q0)) (Va : Arv Z h0 o3 kk .byte (10 : Int32) [(.int 0), (.int 0), (.int 0), (.int 0), (.int 0), (.int 0), (.int 0), (.int 0), (.int 0), (.int 0)] (.int 0)) (geo : n0 ≤ o3) :
    MetFree l y_12 (head1 (Jvm.Cond.code y_12 jdk_35_method_14_code 11 (some .int) :: ws) rr_gc9n) (fun a U => a = #[(.long q0), (.int 10), (.ref o3)] ∧ Z.Warmed39 U.vm ∧ U.heap = h0) (fun _ _ _ _ _ => True) (fun _ U o U' => ∃ v L, o = .returned v ∧ Q_gc9n Z w_0 w_1 w_2 w_3 w_4 w_5 w_6 w_7 w_8 q0 o3 kk h0 n0 v U'.heap L ∧ FrameEnd U o U' L rr_gc9n.cells rr_gc9n.slots) := by
  refine MetFree.of_bodySF (plainFor_of_name pn_5) hisR ?_
  intro p e s m args below meth c s₁ Bd hml0 hP hK
  obtain ⟨rfl, hZ, hh⟩ := hP
  have hx := Bd.exec
  have hby := Bd.bytes
  have B := @hb _ _ hby
  have hml : c.maxLocals = 11 := hml0
  have hown : s.vm.findClass cn_3 = some m.cls := findClass_of_methodNamed Bd.named
  have X0 : Stand p l e rr_gc9n s m #[(.long q0), (.int 10), (.ref o3)] below meth c s₁ [] 0 0 := Stand.of_body Bd
  have e0 : s₁.heap = h0 := by rw [← hh, Bd.state]; rfl
  have N0 := Fr.nil n0
  have K0 : Keep h0 h0 [o3] := Keep.refl _ _
  obtain ⟨G, step, ret, fin⟩ := own_openX X0 (rr_gc9n.cells) (rr_gc9n.slots) (Q_gc9n Z w_0 w_1 w_2 w_3 w_4 w_5 w_6 w_7 w_8 q0 o3 kk h0 n0) Bd.notSynchronized
  refine fin (g := entryFrame m #[(.long q0), (.int 10), (.ref o3)] 11) ?_
  rw [ef_gc9n m q0 o3]
  obtain ⟨ls0, hls0⟩ := own_sl #[vL q0, s_, vI 10, vR o3, u_, u_, u_, u_, u_, u_, u_]
  suffices hG0 : G s₁ (mkF m 0 ls0 []) by rw [hls0] at hG0; exact hG0
  refine step (fun t k => XS.iloadN X0.here hx rfl (B d12_0) (by rw [hls0]; rfl) k) ?_
  obtain ⟨ls1, hls1⟩ := own_sl #[vL q0, s_, vI 10, vR o3, u_, u_, u_, vI 10, u_, u_, u_]
  refine step (fun t k => XS.istore X0.here hx rfl (B d12_1) rfl (l' := ls1) (by rw [hls0, hls1]; rfl) k) ?_
  refine step (fun t k => XS.lloadN X0.here hx rfl (B d12_3) (by rw [hls1]; rfl) k) ?_
  refine step (fun t k => XS.lconst X0.here hx rfl (B d12_4) k) ?_
  refine step (fun t k => XS.lcmp X0.here hx rfl (B d12_5) rfl k) ?_
  refine step (fun t k => XS.ifNo X0.here hx rfl (B d12_6) rfl ((if0 _ _).trans (tlt ((lw_lt _ _).mpr hsg)).2.1) k) ?_
  show G s₁ (mkF m 9 ls1 [])
  refine step (fun t k => XS.iconst X0.here hx rfl (B d12_9) k) ?_
  refine step (fun t k => XS.goto X0.here hx rfl (pc0 := 10) (pc' := 14) rfl (B d12_10) (by decide) (by decide) k) ?_
  obtain ⟨ls2, hls2⟩ := own_sl #[vL q0, s_, vI 10, vR o3, u_, u_, u_, vI 10, vI 1, u_, u_]
  refine step (fun t k => XS.istore X0.here hx rfl (B d12_14) rfl (l' := ls2) (by rw [hls1, hls2]; rfl) k) ?_
  refine step (fun t k => XS.iload X0.here hx rfl (B d12_16) (by rw [hls2]; rfl) k) ?_
  refine step (fun t k => XS.ifYes X0.here hx rfl (pc0 := 18) (pc' := 24) rfl (B d12_18) rfl ((if0 _ _).trans (feq (by decide : ¬ ((1 : Int32) = (0 : Int32)))).2) (by decide) (by decide) k) ?_
  have bd3 : -1000000000 < q0.toInt ∧ q0.toInt ≤ -100000000 := by
    have k0 : (0 : Int64).toInt = 0 := by decide
    rw [own_xltL] at hsg
    have k1 : (-1000000000 : Int64).toInt = -1000000000 := by decide
    rw [own_xltL] at hlo
    have k2 : (-100000000 : Int64).toInt = -100000000 := by decide
    rw [own_xltL] at hhi
    omega
  refine step (fun t k => XS.lloadN X0.here hx rfl (B d12_24) (by rw [hls2]; rfl) k) ?_
  show G s₁ (mkF m 25 ls2 [(.long q0)])
  have q4 := X0.ldc2Long hx hown (mvT hZ (ww97 hw)) (g := (mkF m 25 ls2 [(.long q0)])) rfl (B d12_25)
  refine step q4 ?_
  refine step (fun t k => XS.lcmp X0.here hx rfl (B d12_28) rfl k) ?_
  have ho5 := own_yL (b := q0) (by decide : (-2147483648 : Int64).toInt = -2147483648) (by omega)
  refine step (fun t k => XS.ifYes X0.here hx rfl (pc0 := 29) (pc' := 82) rfl (B d12_29) rfl ((if0 _ _).trans (tlt ((lw_gt _ _).mpr ho5)).2.2.1) (by decide) (by decide) k) ?_
  refine step (fun t k => XS.lloadN X0.here hx rfl (B d12_82) (by rw [hls2]; rfl) k) ?_
  refine step (fun t k => XS.l2i X0.here hx rfl (B d12_83) rfl k) ?_
  show G s₁ (mkF m 84 ls2 [(.int (q0.toInt32))])
  obtain ⟨y6, hy6⟩ := own_ex (q0.toInt32)
  rw [← hy6]
  have bd7 : -1000000000 < y6.toInt ∧ y6.toInt ≤ -100000000 := by
    rw [hy6]
    have c1 := c_l2i q0
    have r1 := rng32 q0.toInt32
    omega
  obtain ⟨ls8, hls8⟩ := own_sl #[vL q0, s_, vI 10, vR o3, u_, u_, u_, vI 10, vI 1, u_, vI y6]
  refine step (fun t k => XS.istore X0.here hx rfl (B d12_84) rfl (l' := ls8) (by rw [hls2, hls8]; rfl) k) ?_
  refine step (fun t k => XS.iload X0.here hx rfl (B d12_86) (by rw [hls8]; rfl) k) ?_
  refine step (fun t k => XS.bipush X0.here hx rfl (B d12_88) k) ?_
  show G s₁ (mkF m 90 ls8 [(.int (-100)), (.int y6)])
  have ho9 := own_n (b := y6) (by decide : (-100 : Int32).toInt = -100) (by omega)
  refine step (fun t k => XS.icmpNo X0.here hx rfl (B d12_90) rfl (flt ho9).2.2.1 k) ?_
  refine step (fun t k => XS.iload X0.here hx rfl (B d12_93) (by rw [hls8]; rfl) k) ?_
  refine step (fun t k => XS.bipush X0.here hx rfl (B d12_95) k) ?_
  refine step (fun t k => XS.idiv X0.here hx rfl (B d12_97) rfl (by decide) k) ?_
  show G s₁ (mkF m 98 ls8 [(.int (y6 / (100 : Int32)))])
  obtain ⟨y10, hy10⟩ := own_ex (y6 / (100 : Int32))
  rw [← hy10]
  have bq11 := own_bq hy10 (by omega)
  obtain ⟨ls12, hls12⟩ := own_sl #[vL q0, s_, vI 10, vR o3, u_, u_, u_, vI 10, vI 1, vI y10, vI y6]
  refine step (fun t k => XS.istore X0.here hx rfl (B d12_98) rfl (l' := ls12) (by rw [hls8, hls12]; rfl) k) ?_
  refine step (fun t k => XS.iload X0.here hx rfl (B d12_100) (by rw [hls12]; rfl) k) ?_
  refine step (fun t k => XS.bipush X0.here hx rfl (B d12_102) k) ?_
  refine step (fun t k => XS.imul X0.here hx rfl (B d12_104) rfl k) ?_
  refine step (fun t k => XS.iload X0.here hx rfl (B d12_105) (by rw [hls12]; rfl) k) ?_
  refine step (fun t k => XS.isub X0.here hx rfl (B d12_107) rfl k) ?_
  show G s₁ (mkF m 108 ls12 [(.int ((y10 * (100 : Int32)) - y6))])
  obtain ⟨r13, hr13⟩ := own_ex ((y10 * (100 : Int32)) - y6)
  rw [← hr13]
  have br14 := own_br bq11 (by omega) hr13
  have bd15 : -10000000 < y10.toInt ∧ y10.toInt ≤ -1000000 := by
    omega
  obtain ⟨ls16, hls16⟩ := own_sl #[vL q0, s_, vI 10, vR o3, u_, u_, vI r13, vI 10, vI 1, vI y10, vI y6]
  refine step (fun t k => XS.istore X0.here hx rfl (B d12_108) rfl (l' := ls16) (by rw [hls12, hls16]; rfl) k) ?_
  refine step (fun t k => XS.iload X0.here hx rfl (B d12_110) (by rw [hls16]; rfl) k) ?_
  obtain ⟨ls17, hls17⟩ := own_sl #[vL q0, s_, vI 10, vR o3, u_, u_, vI r13, vI 10, vI 1, vI y10, vI y10]
  refine step (fun t k => XS.istore X0.here hx rfl (B d12_112) rfl (l' := ls17) (by rw [hls16, hls17]; rfl) k) ?_
  refine step (fun t k => XS.aloadN X0.here hx rfl (B d12_114) (by rw [hls17]; rfl) rfl k) ?_
  obtain ⟨ls18, hls18⟩ := own_sl #[vL q0, s_, vI 10, vR o3, u_, u_, vI r13, vI 9, vI 1, vI y10, vI y10]
  refine step (fun t k => XS.iinc X0.here hx rfl (B d12_115) (by rw [hls17]; rfl) (l' := ls18) (by rw [hls17, hls18]; rfl) k) ?_
  refine step (fun t k => XS.iload X0.here hx rfl (B d12_118) (by rw [hls18]; rfl) k) ?_
  show G s₁ (mkF m 120 ls18 [(.int 9), (.ref o3)])
  obtain ⟨T19, X19, e19, st19⟩ := getS2 X0 hx hZ hown (host := "") (Or.inl (ww98 hw)) Via.refl e0 (Sta.ext O0.2 ST.k10) (g := (mkF m 120 ls18 [(.int 9), (.ref o3)])) rfl (B d12_120)
  refine step st19 ?_
  refine step (fun t k => XS.iload X19.here hx rfl (B d12_123) (by rw [hls18]; rfl) k) ?_
  have hj20 := own_hj br14
  obtain ⟨z20, hz20, st20⟩ := own_ldDig X19 hx hZ e19 ST.k23 O0.2 hj20 (g := (mkF m 125 ls18 [(.int r13), (.ref w_5), (.int 9), (.ref o3)])) rfl rfl (B d12_125)
  refine step st20 ?_
  obtain ⟨T21, h21, X21, e21, W21, V21, st21⟩ := own_stB X19 hx hZ e19 Va (j := (9 : Int32)) (by decide) (i := 9) rfl (by show 9 < 10; decide) (g := (mkF m 126 ls18 [(.int z20), (.int 9), (.ref o3)])) rfl rfl (B d12_126)
  replace V21 : Arv Z h21 o3 kk .byte (10 : Int32) [(.int 0), (.int 0), (.int 0), (.int 0), (.int 0), (.int 0), (.int 0), (.int 0), (.int 0), (.int (nar .byte z20))] (.int 0) := V21
  have N21 := Fr.snoc X21 N0 geo
  obtain ⟨lc21, X21, N21⟩ := own_gen X21 N21
  have O21 := O0.wr W21 geo
  have K21 : Keep h0 h21 [o3] := K0.wr W21 (Or.inl (List.mem_of_getElem? (i := 0) rfl))
  refine step st21 ?_
  refine step (fun t k => XS.aloadN X21.here hx rfl (B d12_127) (by rw [hls18]; rfl) rfl k) ?_
  obtain ⟨ls22, hls22⟩ := own_sl #[vL q0, s_, vI 10, vR o3, u_, u_, vI r13, vI 8, vI 1, vI y10, vI y10]
  refine step (fun t k => XS.iinc X21.here hx rfl (B d12_128) (by rw [hls18]; rfl) (l' := ls22) (by rw [hls18, hls22]; rfl) k) ?_
  refine step (fun t k => XS.iload X21.here hx rfl (B d12_131) (by rw [hls22]; rfl) k) ?_
  obtain ⟨T23, X23, e23, st23⟩ := getS2 X21 hx hZ hown (host := "") (Or.inl (ww185 hw)) Via.refl e21 (Sta.ext O21.2 ST.k12) (g := (mkF m 133 ls22 [(.int 8), (.ref o3)])) rfl (B d12_133)
  refine step st23 ?_
  refine step (fun t k => XS.iload X23.here hx rfl (B d12_136) (by rw [hls22]; rfl) k) ?_
  have hj24 := own_hj br14
  obtain ⟨z24, hz24, st24⟩ := own_ldDig X23 hx hZ e23 ST.k24 O21.2 hj24 (g := (mkF m 138 ls22 [(.int r13), (.ref w_6), (.int 8), (.ref o3)])) rfl rfl (B d12_138)
  refine step st24 ?_
  obtain ⟨T25, h25, X25, e25, W25, V25, st25⟩ := own_stB X23 hx hZ e23 V21 (j := (8 : Int32)) (by decide) (i := 8) rfl (by show 8 < 10; decide) (g := (mkF m 139 ls22 [(.int z24), (.int 8), (.ref o3)])) rfl rfl (B d12_139)
  replace V25 : Arv Z h25 o3 kk .byte (10 : Int32) [(.int 0), (.int 0), (.int 0), (.int 0), (.int 0), (.int 0), (.int 0), (.int 0), (.int (nar .byte z24)), (.int (nar .byte z20))] (.int 0) := V25
  have N25 := Fr.snoc X25 N21 geo
  obtain ⟨lc25, X25, N25⟩ := own_gen X25 N25
  have O25 := O21.wr W25 geo
  have K25 : Keep h0 h25 [o3] := K21.wr W25 (Or.inl (List.mem_of_getElem? (i := 0) rfl))
  refine step st25 ?_
  refine step (fun t k => XS.goto X25.here hx rfl (pc0 := 140) (pc' := 86) rfl (B d12_140) (by decide) (by decide) k) ?_
  refine step (fun t k => XS.iload X25.here hx rfl (B d12_86) (by rw [hls22]; rfl) k) ?_
  refine step (fun t k => XS.bipush X25.here hx rfl (B d12_88) k) ?_
  show G T25 (mkF m 90 ls22 [(.int (-100)), (.int y10)])
  have ho26 := own_n (b := y10) (by decide : (-100 : Int32).toInt = -100) (by omega)
  refine step (fun t k => XS.icmpNo X25.here hx rfl (B d12_90) rfl (flt ho26).2.2.1 k) ?_
  refine step (fun t k => XS.iload X25.here hx rfl (B d12_93) (by rw [hls22]; rfl) k) ?_
  refine step (fun t k => XS.bipush X25.here hx rfl (B d12_95) k) ?_
  refine step (fun t k => XS.idiv X25.here hx rfl (B d12_97) rfl (by decide) k) ?_
  show G T25 (mkF m 98 ls22 [(.int (y10 / (100 : Int32)))])
  obtain ⟨y27, hy27⟩ := own_ex (y10 / (100 : Int32))
  rw [← hy27]
  have bq28 := own_bq hy27 (by omega)
  obtain ⟨ls29, hls29⟩ := own_sl #[vL q0, s_, vI 10, vR o3, u_, u_, vI r13, vI 8, vI 1, vI y27, vI y10]
  refine step (fun t k => XS.istore X25.here hx rfl (B d12_98) rfl (l' := ls29) (by rw [hls22, hls29]; rfl) k) ?_
  refine step (fun t k => XS.iload X25.here hx rfl (B d12_100) (by rw [hls29]; rfl) k) ?_
  refine step (fun t k => XS.bipush X25.here hx rfl (B d12_102) k) ?_
  refine step (fun t k => XS.imul X25.here hx rfl (B d12_104) rfl k) ?_
  refine step (fun t k => XS.iload X25.here hx rfl (B d12_105) (by rw [hls29]; rfl) k) ?_
  refine step (fun t k => XS.isub X25.here hx rfl (B d12_107) rfl k) ?_
  show G T25 (mkF m 108 ls29 [(.int ((y27 * (100 : Int32)) - y10))])
  obtain ⟨r30, hr30⟩ := own_ex ((y27 * (100 : Int32)) - y10)
  rw [← hr30]
  have br31 := own_br bq28 (by omega) hr30
  have bd32 : -100000 < y27.toInt ∧ y27.toInt ≤ -10000 := by
    omega
  obtain ⟨ls33, hls33⟩ := own_sl #[vL q0, s_, vI 10, vR o3, u_, u_, vI r30, vI 8, vI 1, vI y27, vI y10]
  refine step (fun t k => XS.istore X25.here hx rfl (B d12_108) rfl (l' := ls33) (by rw [hls29, hls33]; rfl) k) ?_
  refine step (fun t k => XS.iload X25.here hx rfl (B d12_110) (by rw [hls33]; rfl) k) ?_
  obtain ⟨ls34, hls34⟩ := own_sl #[vL q0, s_, vI 10, vR o3, u_, u_, vI r30, vI 8, vI 1, vI y27, vI y27]
  refine step (fun t k => XS.istore X25.here hx rfl (B d12_112) rfl (l' := ls34) (by rw [hls33, hls34]; rfl) k) ?_
  refine step (fun t k => XS.aloadN X25.here hx rfl (B d12_114) (by rw [hls34]; rfl) rfl k) ?_
  obtain ⟨ls35, hls35⟩ := own_sl #[vL q0, s_, vI 10, vR o3, u_, u_, vI r30, vI 7, vI 1, vI y27, vI y27]
  refine step (fun t k => XS.iinc X25.here hx rfl (B d12_115) (by rw [hls34]; rfl) (l' := ls35) (by rw [hls34, hls35]; rfl) k) ?_
  refine step (fun t k => XS.iload X25.here hx rfl (B d12_118) (by rw [hls35]; rfl) k) ?_
  show G T25 (mkF m 120 ls35 [(.int 7), (.ref o3)])
  obtain ⟨T36, X36, e36, st36⟩ := getS2 X25 hx hZ hown (host := "") (Or.inl (ww98 hw)) Via.refl e25 (Sta.ext O25.2 ST.k10) (g := (mkF m 120 ls35 [(.int 7), (.ref o3)])) rfl (B d12_120)
  refine step st36 ?_
  refine step (fun t k => XS.iload X36.here hx rfl (B d12_123) (by rw [hls35]; rfl) k) ?_
  have hj37 := own_hj br31
  obtain ⟨z37, hz37, st37⟩ := own_ldDig X36 hx hZ e36 ST.k23 O25.2 hj37 (g := (mkF m 125 ls35 [(.int r30), (.ref w_5), (.int 7), (.ref o3)])) rfl rfl (B d12_125)
  refine step st37 ?_
  obtain ⟨T38, h38, X38, e38, W38, V38, st38⟩ := own_stB X36 hx hZ e36 V25 (j := (7 : Int32)) (by decide) (i := 7) rfl (by show 7 < 10; decide) (g := (mkF m 126 ls35 [(.int z37), (.int 7), (.ref o3)])) rfl rfl (B d12_126)
  replace V38 : Arv Z h38 o3 kk .byte (10 : Int32) [(.int 0), (.int 0), (.int 0), (.int 0), (.int 0), (.int 0), (.int 0), (.int (nar .byte z37)), (.int (nar .byte z24)), (.int (nar .byte z20))] (.int 0) := V38
  have N38 := Fr.snoc X38 N25 geo
  obtain ⟨lc38, X38, N38⟩ := own_gen X38 N38
  have O38 := O25.wr W38 geo
  have K38 : Keep h0 h38 [o3] := K25.wr W38 (Or.inl (List.mem_of_getElem? (i := 0) rfl))
  refine step st38 ?_
  refine step (fun t k => XS.aloadN X38.here hx rfl (B d12_127) (by rw [hls35]; rfl) rfl k) ?_
  obtain ⟨ls39, hls39⟩ := own_sl #[vL q0, s_, vI 10, vR o3, u_, u_, vI r30, vI 6, vI 1, vI y27, vI y27]
  refine step (fun t k => XS.iinc X38.here hx rfl (B d12_128) (by rw [hls35]; rfl) (l' := ls39) (by rw [hls35, hls39]; rfl) k) ?_
  refine step (fun t k => XS.iload X38.here hx rfl (B d12_131) (by rw [hls39]; rfl) k) ?_
  obtain ⟨T40, X40, e40, st40⟩ := getS2 X38 hx hZ hown (host := "") (Or.inl (ww185 hw)) Via.refl e38 (Sta.ext O38.2 ST.k12) (g := (mkF m 133 ls39 [(.int 6), (.ref o3)])) rfl (B d12_133)
  refine step st40 ?_
  refine step (fun t k => XS.iload X40.here hx rfl (B d12_136) (by rw [hls39]; rfl) k) ?_
  have hj41 := own_hj br31
  obtain ⟨z41, hz41, st41⟩ := own_ldDig X40 hx hZ e40 ST.k24 O38.2 hj41 (g := (mkF m 138 ls39 [(.int r30), (.ref w_6), (.int 6), (.ref o3)])) rfl rfl (B d12_138)
  refine step st41 ?_
  obtain ⟨T42, h42, X42, e42, W42, V42, st42⟩ := own_stB X40 hx hZ e40 V38 (j := (6 : Int32)) (by decide) (i := 6) rfl (by show 6 < 10; decide) (g := (mkF m 139 ls39 [(.int z41), (.int 6), (.ref o3)])) rfl rfl (B d12_139)
  replace V42 : Arv Z h42 o3 kk .byte (10 : Int32) [(.int 0), (.int 0), (.int 0), (.int 0), (.int 0), (.int 0), (.int (nar .byte z41)), (.int (nar .byte z37)), (.int (nar .byte z24)), (.int (nar .byte z20))] (.int 0) := V42
  have N42 := Fr.snoc X42 N38 geo
  obtain ⟨lc42, X42, N42⟩ := own_gen X42 N42
  have O42 := O38.wr W42 geo
  have K42 : Keep h0 h42 [o3] := K38.wr W42 (Or.inl (List.mem_of_getElem? (i := 0) rfl))
  refine step st42 ?_
  refine step (fun t k => XS.goto X42.here hx rfl (pc0 := 140) (pc' := 86) rfl (B d12_140) (by decide) (by decide) k) ?_
  refine step (fun t k => XS.iload X42.here hx rfl (B d12_86) (by rw [hls39]; rfl) k) ?_
  refine step (fun t k => XS.bipush X42.here hx rfl (B d12_88) k) ?_
  show G T42 (mkF m 90 ls39 [(.int (-100)), (.int y27)])
  have ho43 := own_n (b := y27) (by decide : (-100 : Int32).toInt = -100) (by omega)
  refine step (fun t k => XS.icmpNo X42.here hx rfl (B d12_90) rfl (flt ho43).2.2.1 k) ?_
  refine step (fun t k => XS.iload X42.here hx rfl (B d12_93) (by rw [hls39]; rfl) k) ?_
  refine step (fun t k => XS.bipush X42.here hx rfl (B d12_95) k) ?_
  refine step (fun t k => XS.idiv X42.here hx rfl (B d12_97) rfl (by decide) k) ?_
  show G T42 (mkF m 98 ls39 [(.int (y27 / (100 : Int32)))])
  obtain ⟨y44, hy44⟩ := own_ex (y27 / (100 : Int32))
  rw [← hy44]
  have bq45 := own_bq hy44 (by omega)
  obtain ⟨ls46, hls46⟩ := own_sl #[vL q0, s_, vI 10, vR o3, u_, u_, vI r30, vI 6, vI 1, vI y44, vI y27]
  refine step (fun t k => XS.istore X42.here hx rfl (B d12_98) rfl (l' := ls46) (by rw [hls39, hls46]; rfl) k) ?_
  refine step (fun t k => XS.iload X42.here hx rfl (B d12_100) (by rw [hls46]; rfl) k) ?_
  refine step (fun t k => XS.bipush X42.here hx rfl (B d12_102) k) ?_
  refine step (fun t k => XS.imul X42.here hx rfl (B d12_104) rfl k) ?_
  refine step (fun t k => XS.iload X42.here hx rfl (B d12_105) (by rw [hls46]; rfl) k) ?_
  refine step (fun t k => XS.isub X42.here hx rfl (B d12_107) rfl k) ?_
  show G T42 (mkF m 108 ls46 [(.int ((y44 * (100 : Int32)) - y27))])
  obtain ⟨r47, hr47⟩ := own_ex ((y44 * (100 : Int32)) - y27)
  rw [← hr47]
  have br48 := own_br bq45 (by omega) hr47
  have bd49 : -1000 < y44.toInt ∧ y44.toInt ≤ -100 := by
    omega
  obtain ⟨ls50, hls50⟩ := own_sl #[vL q0, s_, vI 10, vR o3, u_, u_, vI r47, vI 6, vI 1, vI y44, vI y27]
  refine step (fun t k => XS.istore X42.here hx rfl (B d12_108) rfl (l' := ls50) (by rw [hls46, hls50]; rfl) k) ?_
  refine step (fun t k => XS.iload X42.here hx rfl (B d12_110) (by rw [hls50]; rfl) k) ?_
  obtain ⟨ls51, hls51⟩ := own_sl #[vL q0, s_, vI 10, vR o3, u_, u_, vI r47, vI 6, vI 1, vI y44, vI y44]
  refine step (fun t k => XS.istore X42.here hx rfl (B d12_112) rfl (l' := ls51) (by rw [hls50, hls51]; rfl) k) ?_
  refine step (fun t k => XS.aloadN X42.here hx rfl (B d12_114) (by rw [hls51]; rfl) rfl k) ?_
  obtain ⟨ls52, hls52⟩ := own_sl #[vL q0, s_, vI 10, vR o3, u_, u_, vI r47, vI 5, vI 1, vI y44, vI y44]
  refine step (fun t k => XS.iinc X42.here hx rfl (B d12_115) (by rw [hls51]; rfl) (l' := ls52) (by rw [hls51, hls52]; rfl) k) ?_
  refine step (fun t k => XS.iload X42.here hx rfl (B d12_118) (by rw [hls52]; rfl) k) ?_
  show G T42 (mkF m 120 ls52 [(.int 5), (.ref o3)])
  obtain ⟨T53, X53, e53, st53⟩ := getS2 X42 hx hZ hown (host := "") (Or.inl (ww98 hw)) Via.refl e42 (Sta.ext O42.2 ST.k10) (g := (mkF m 120 ls52 [(.int 5), (.ref o3)])) rfl (B d12_120)
  refine step st53 ?_
  refine step (fun t k => XS.iload X53.here hx rfl (B d12_123) (by rw [hls52]; rfl) k) ?_
  have hj54 := own_hj br48
  obtain ⟨z54, hz54, st54⟩ := own_ldDig X53 hx hZ e53 ST.k23 O42.2 hj54 (g := (mkF m 125 ls52 [(.int r47), (.ref w_5), (.int 5), (.ref o3)])) rfl rfl (B d12_125)
  refine step st54 ?_
  obtain ⟨T55, h55, X55, e55, W55, V55, st55⟩ := own_stB X53 hx hZ e53 V42 (j := (5 : Int32)) (by decide) (i := 5) rfl (by show 5 < 10; decide) (g := (mkF m 126 ls52 [(.int z54), (.int 5), (.ref o3)])) rfl rfl (B d12_126)
  replace V55 : Arv Z h55 o3 kk .byte (10 : Int32) [(.int 0), (.int 0), (.int 0), (.int 0), (.int 0), (.int (nar .byte z54)), (.int (nar .byte z41)), (.int (nar .byte z37)), (.int (nar .byte z24)), (.int (nar .byte z20))] (.int 0) := V55
  have N55 := Fr.snoc X55 N42 geo
  obtain ⟨lc55, X55, N55⟩ := own_gen X55 N55
  have O55 := O42.wr W55 geo
  have K55 : Keep h0 h55 [o3] := K42.wr W55 (Or.inl (List.mem_of_getElem? (i := 0) rfl))
  refine step st55 ?_
  refine step (fun t k => XS.aloadN X55.here hx rfl (B d12_127) (by rw [hls52]; rfl) rfl k) ?_
  obtain ⟨ls56, hls56⟩ := own_sl #[vL q0, s_, vI 10, vR o3, u_, u_, vI r47, vI 4, vI 1, vI y44, vI y44]
  refine step (fun t k => XS.iinc X55.here hx rfl (B d12_128) (by rw [hls52]; rfl) (l' := ls56) (by rw [hls52, hls56]; rfl) k) ?_
  refine step (fun t k => XS.iload X55.here hx rfl (B d12_131) (by rw [hls56]; rfl) k) ?_
  obtain ⟨T57, X57, e57, st57⟩ := getS2 X55 hx hZ hown (host := "") (Or.inl (ww185 hw)) Via.refl e55 (Sta.ext O55.2 ST.k12) (g := (mkF m 133 ls56 [(.int 4), (.ref o3)])) rfl (B d12_133)
  refine step st57 ?_
  refine step (fun t k => XS.iload X57.here hx rfl (B d12_136) (by rw [hls56]; rfl) k) ?_
  have hj58 := own_hj br48
  obtain ⟨z58, hz58, st58⟩ := own_ldDig X57 hx hZ e57 ST.k24 O55.2 hj58 (g := (mkF m 138 ls56 [(.int r47), (.ref w_6), (.int 4), (.ref o3)])) rfl rfl (B d12_138)
  refine step st58 ?_
  obtain ⟨T59, h59, X59, e59, W59, V59, st59⟩ := own_stB X57 hx hZ e57 V55 (j := (4 : Int32)) (by decide) (i := 4) rfl (by show 4 < 10; decide) (g := (mkF m 139 ls56 [(.int z58), (.int 4), (.ref o3)])) rfl rfl (B d12_139)
  replace V59 : Arv Z h59 o3 kk .byte (10 : Int32) [(.int 0), (.int 0), (.int 0), (.int 0), (.int (nar .byte z58)), (.int (nar .byte z54)), (.int (nar .byte z41)), (.int (nar .byte z37)), (.int (nar .byte z24)), (.int (nar .byte z20))] (.int 0) := V59
  have N59 := Fr.snoc X59 N55 geo
  obtain ⟨lc59, X59, N59⟩ := own_gen X59 N59
  have O59 := O55.wr W59 geo
  have K59 : Keep h0 h59 [o3] := K55.wr W59 (Or.inl (List.mem_of_getElem? (i := 0) rfl))
  refine step st59 ?_
  refine step (fun t k => XS.goto X59.here hx rfl (pc0 := 140) (pc' := 86) rfl (B d12_140) (by decide) (by decide) k) ?_
  refine step (fun t k => XS.iload X59.here hx rfl (B d12_86) (by rw [hls56]; rfl) k) ?_
  refine step (fun t k => XS.bipush X59.here hx rfl (B d12_88) k) ?_
  show G T59 (mkF m 90 ls56 [(.int (-100)), (.int y44)])
  have ho60 := own_n (b := y44) (by decide : (-100 : Int32).toInt = -100) (by omega)
  refine step (fun t k => XS.icmpNo X59.here hx rfl (B d12_90) rfl (flt ho60).2.2.1 k) ?_
  refine step (fun t k => XS.iload X59.here hx rfl (B d12_93) (by rw [hls56]; rfl) k) ?_
  refine step (fun t k => XS.bipush X59.here hx rfl (B d12_95) k) ?_
  refine step (fun t k => XS.idiv X59.here hx rfl (B d12_97) rfl (by decide) k) ?_
  show G T59 (mkF m 98 ls56 [(.int (y44 / (100 : Int32)))])
  obtain ⟨y61, hy61⟩ := own_ex (y44 / (100 : Int32))
  rw [← hy61]
  have bq62 := own_bq hy61 (by omega)
  obtain ⟨ls63, hls63⟩ := own_sl #[vL q0, s_, vI 10, vR o3, u_, u_, vI r47, vI 4, vI 1, vI y61, vI y44]
  refine step (fun t k => XS.istore X59.here hx rfl (B d12_98) rfl (l' := ls63) (by rw [hls56, hls63]; rfl) k) ?_
  refine step (fun t k => XS.iload X59.here hx rfl (B d12_100) (by rw [hls63]; rfl) k) ?_
  refine step (fun t k => XS.bipush X59.here hx rfl (B d12_102) k) ?_
  refine step (fun t k => XS.imul X59.here hx rfl (B d12_104) rfl k) ?_
  refine step (fun t k => XS.iload X59.here hx rfl (B d12_105) (by rw [hls63]; rfl) k) ?_
  refine step (fun t k => XS.isub X59.here hx rfl (B d12_107) rfl k) ?_
  show G T59 (mkF m 108 ls63 [(.int ((y61 * (100 : Int32)) - y44))])
  obtain ⟨r64, hr64⟩ := own_ex ((y61 * (100 : Int32)) - y44)
  rw [← hr64]
  have br65 := own_br bq62 (by omega) hr64
  have bd66 : -10 < y61.toInt ∧ y61.toInt ≤ 0 := by
    omega
  obtain ⟨ls67, hls67⟩ := own_sl #[vL q0, s_, vI 10, vR o3, u_, u_, vI r64, vI 4, vI 1, vI y61, vI y44]
  refine step (fun t k => XS.istore X59.here hx rfl (B d12_108) rfl (l' := ls67) (by rw [hls63, hls67]; rfl) k) ?_
  refine step (fun t k => XS.iload X59.here hx rfl (B d12_110) (by rw [hls67]; rfl) k) ?_
  obtain ⟨ls68, hls68⟩ := own_sl #[vL q0, s_, vI 10, vR o3, u_, u_, vI r64, vI 4, vI 1, vI y61, vI y61]
  refine step (fun t k => XS.istore X59.here hx rfl (B d12_112) rfl (l' := ls68) (by rw [hls67, hls68]; rfl) k) ?_
  refine step (fun t k => XS.aloadN X59.here hx rfl (B d12_114) (by rw [hls68]; rfl) rfl k) ?_
  obtain ⟨ls69, hls69⟩ := own_sl #[vL q0, s_, vI 10, vR o3, u_, u_, vI r64, vI 3, vI 1, vI y61, vI y61]
  refine step (fun t k => XS.iinc X59.here hx rfl (B d12_115) (by rw [hls68]; rfl) (l' := ls69) (by rw [hls68, hls69]; rfl) k) ?_
  refine step (fun t k => XS.iload X59.here hx rfl (B d12_118) (by rw [hls69]; rfl) k) ?_
  show G T59 (mkF m 120 ls69 [(.int 3), (.ref o3)])
  obtain ⟨T70, X70, e70, st70⟩ := getS2 X59 hx hZ hown (host := "") (Or.inl (ww98 hw)) Via.refl e59 (Sta.ext O59.2 ST.k10) (g := (mkF m 120 ls69 [(.int 3), (.ref o3)])) rfl (B d12_120)
  refine step st70 ?_
  refine step (fun t k => XS.iload X70.here hx rfl (B d12_123) (by rw [hls69]; rfl) k) ?_
  have hj71 := own_hj br65
  obtain ⟨z71, hz71, st71⟩ := own_ldDig X70 hx hZ e70 ST.k23 O59.2 hj71 (g := (mkF m 125 ls69 [(.int r64), (.ref w_5), (.int 3), (.ref o3)])) rfl rfl (B d12_125)
  refine step st71 ?_
  obtain ⟨T72, h72, X72, e72, W72, V72, st72⟩ := own_stB X70 hx hZ e70 V59 (j := (3 : Int32)) (by decide) (i := 3) rfl (by show 3 < 10; decide) (g := (mkF m 126 ls69 [(.int z71), (.int 3), (.ref o3)])) rfl rfl (B d12_126)
  replace V72 : Arv Z h72 o3 kk .byte (10 : Int32) [(.int 0), (.int 0), (.int 0), (.int (nar .byte z71)), (.int (nar .byte z58)), (.int (nar .byte z54)), (.int (nar .byte z41)), (.int (nar .byte z37)), (.int (nar .byte z24)), (.int (nar .byte z20))] (.int 0) := V72
  have N72 := Fr.snoc X72 N59 geo
  obtain ⟨lc72, X72, N72⟩ := own_gen X72 N72
  have O72 := O59.wr W72 geo
  have K72 : Keep h0 h72 [o3] := K59.wr W72 (Or.inl (List.mem_of_getElem? (i := 0) rfl))
  refine step st72 ?_
  refine step (fun t k => XS.aloadN X72.here hx rfl (B d12_127) (by rw [hls69]; rfl) rfl k) ?_
  obtain ⟨ls73, hls73⟩ := own_sl #[vL q0, s_, vI 10, vR o3, u_, u_, vI r64, vI 2, vI 1, vI y61, vI y61]
  refine step (fun t k => XS.iinc X72.here hx rfl (B d12_128) (by rw [hls69]; rfl) (l' := ls73) (by rw [hls69, hls73]; rfl) k) ?_
  refine step (fun t k => XS.iload X72.here hx rfl (B d12_131) (by rw [hls73]; rfl) k) ?_
  obtain ⟨T74, X74, e74, st74⟩ := getS2 X72 hx hZ hown (host := "") (Or.inl (ww185 hw)) Via.refl e72 (Sta.ext O72.2 ST.k12) (g := (mkF m 133 ls73 [(.int 2), (.ref o3)])) rfl (B d12_133)
  refine step st74 ?_
  refine step (fun t k => XS.iload X74.here hx rfl (B d12_136) (by rw [hls73]; rfl) k) ?_
  have hj75 := own_hj br65
  obtain ⟨z75, hz75, st75⟩ := own_ldDig X74 hx hZ e74 ST.k24 O72.2 hj75 (g := (mkF m 138 ls73 [(.int r64), (.ref w_6), (.int 2), (.ref o3)])) rfl rfl (B d12_138)
  refine step st75 ?_
  obtain ⟨T76, h76, X76, e76, W76, V76, st76⟩ := own_stB X74 hx hZ e74 V72 (j := (2 : Int32)) (by decide) (i := 2) rfl (by show 2 < 10; decide) (g := (mkF m 139 ls73 [(.int z75), (.int 2), (.ref o3)])) rfl rfl (B d12_139)
  replace V76 : Arv Z h76 o3 kk .byte (10 : Int32) [(.int 0), (.int 0), (.int (nar .byte z75)), (.int (nar .byte z71)), (.int (nar .byte z58)), (.int (nar .byte z54)), (.int (nar .byte z41)), (.int (nar .byte z37)), (.int (nar .byte z24)), (.int (nar .byte z20))] (.int 0) := V76
  have N76 := Fr.snoc X76 N72 geo
  obtain ⟨lc76, X76, N76⟩ := own_gen X76 N76
  have O76 := O72.wr W76 geo
  have K76 : Keep h0 h76 [o3] := K72.wr W76 (Or.inl (List.mem_of_getElem? (i := 0) rfl))
  refine step st76 ?_
  refine step (fun t k => XS.goto X76.here hx rfl (pc0 := 140) (pc' := 86) rfl (B d12_140) (by decide) (by decide) k) ?_
  refine step (fun t k => XS.iload X76.here hx rfl (B d12_86) (by rw [hls73]; rfl) k) ?_
  refine step (fun t k => XS.bipush X76.here hx rfl (B d12_88) k) ?_
  show G T76 (mkF m 90 ls73 [(.int (-100)), (.int y61)])
  have ho77 := own_y (b := y61) (by decide : (-100 : Int32).toInt = -100) (by omega)
  refine step (fun t k => XS.icmpYes X76.here hx rfl (pc0 := 90) (pc' := 143) rfl (B d12_90) rfl (tlt ho77).2.2.1 (by decide) (by decide) k) ?_
  refine step (fun t k => XS.aloadN X76.here hx rfl (B d12_143) (by rw [hls73]; rfl) rfl k) ?_
  obtain ⟨ls78, hls78⟩ := own_sl #[vL q0, s_, vI 10, vR o3, u_, u_, vI r64, vI 1, vI 1, vI y61, vI y61]
  refine step (fun t k => XS.iinc X76.here hx rfl (B d12_144) (by rw [hls73]; rfl) (l' := ls78) (by rw [hls73, hls78]; rfl) k) ?_
  refine step (fun t k => XS.iload X76.here hx rfl (B d12_147) (by rw [hls78]; rfl) k) ?_
  obtain ⟨T79, X79, e79, st79⟩ := getS2 X76 hx hZ hown (host := "") (Or.inl (ww98 hw)) Via.refl e76 (Sta.ext O76.2 ST.k10) (g := (mkF m 149 ls78 [(.int 1), (.ref o3)])) rfl (B d12_149)
  refine step st79 ?_
  refine step (fun t k => XS.iload X79.here hx rfl (B d12_152) (by rw [hls78]; rfl) k) ?_
  refine step (fun t k => XS.ineg X79.here hx rfl (B d12_154) rfl k) ?_
  have hj80 := own_hj (own_ng y61 (by omega))
  obtain ⟨z80, hz80, st80⟩ := own_ldDig X79 hx hZ e79 ST.k23 O76.2 hj80 (g := (mkF m 155 ls78 [(.int (-y61)), (.ref w_5), (.int 1), (.ref o3)])) rfl rfl (B d12_155)
  refine step st80 ?_
  obtain ⟨T81, h81, X81, e81, W81, V81, st81⟩ := own_stB X79 hx hZ e79 V76 (j := (1 : Int32)) (by decide) (i := 1) rfl (by show 1 < 10; decide) (g := (mkF m 156 ls78 [(.int z80), (.int 1), (.ref o3)])) rfl rfl (B d12_156)
  replace V81 : Arv Z h81 o3 kk .byte (10 : Int32) [(.int 0), (.int (nar .byte z80)), (.int (nar .byte z75)), (.int (nar .byte z71)), (.int (nar .byte z58)), (.int (nar .byte z54)), (.int (nar .byte z41)), (.int (nar .byte z37)), (.int (nar .byte z24)), (.int (nar .byte z20))] (.int 0) := V81
  have N81 := Fr.snoc X81 N76 geo
  obtain ⟨lc81, X81, N81⟩ := own_gen X81 N81
  have K81 : Keep h0 h81 [o3] := K76.wr W81 (Or.inl (List.mem_of_getElem? (i := 0) rfl))
  refine step st81 ?_
  refine step (fun t k => XS.iload X81.here hx rfl (B d12_157) (by rw [hls78]; rfl) k) ?_
  refine step (fun t k => XS.bipush X81.here hx rfl (B d12_159) k) ?_
  show G T81 (mkF m 161 ls78 [(.int (-9)), (.int y61)])
  have ho82 := own_nr (b := y61) (by decide : (-9 : Int32).toInt = -9) (by omega)
  refine step (fun t k => XS.icmpYes X81.here hx rfl (pc0 := 161) (pc' := 178) rfl (B d12_161) rfl (flt ho82).2.1 (by decide) (by decide) k) ?_
  refine step (fun t k => XS.iload X81.here hx rfl (B d12_178) (by rw [hls78]; rfl) k) ?_
  refine step (fun t k => XS.ifNo X81.here hx rfl (B d12_180) rfl ((if0 _ _).trans (feq (by decide : ¬ ((1 : Int32) = (0 : Int32)))).1) k) ?_
  refine step (fun t k => XS.aloadN X81.here hx rfl (B d12_183) (by rw [hls78]; rfl) rfl k) ?_
  obtain ⟨ls83, hls83⟩ := own_sl #[vL q0, s_, vI 10, vR o3, u_, u_, vI r64, vI 0, vI 1, vI y61, vI y61]
  refine step (fun t k => XS.iinc X81.here hx rfl (B d12_184) (by rw [hls78]; rfl) (l' := ls83) (by rw [hls78, hls83]; rfl) k) ?_
  refine step (fun t k => XS.iload X81.here hx rfl (B d12_187) (by rw [hls83]; rfl) k) ?_
  show G T81 (mkF m 189 ls83 [(.int 0), (.ref o3)])
  refine step (fun t k => XS.bipush X81.here hx rfl (B d12_189) k) ?_
  show G T81 (mkF m 191 ls83 [(.int 45), (.int 0), (.ref o3)])
  obtain ⟨T84, h84, X84, e84, W84, V84, st84⟩ := own_stB X81 hx hZ e81 V81 (j := (0 : Int32)) (by decide) (i := 0) rfl (by show 0 < 10; decide) (g := (mkF m 191 ls83 [(.int 45), (.int 0), (.ref o3)])) rfl rfl (B d12_191)
  replace V84 : Arv Z h84 o3 kk .byte (10 : Int32) [(.int (nar .byte (45 : Int32))), (.int (nar .byte z80)), (.int (nar .byte z75)), (.int (nar .byte z71)), (.int (nar .byte z58)), (.int (nar .byte z54)), (.int (nar .byte z41)), (.int (nar .byte z37)), (.int (nar .byte z24)), (.int (nar .byte z20))] (.int 0) := V84
  have N84 := Fr.snoc X84 N81 geo
  obtain ⟨lc84, X84, N84⟩ := own_gen X84 N84
  have K84 : Keep h0 h84 [o3] := K81.wr W84 (Or.inl (List.mem_of_getElem? (i := 0) rfl))
  refine step st84 ?_
  refine step (fun t k => XS.iload X84.here hx rfl (B d12_192) (by rw [hls83]; rfl) k) ?_
  exact ret (v := some (.int 0)) X84 (fun h => by rw [Bd.returns] at h; cases h) (fun fs hr => retI X84 hx Bd.returns (B d12_194) hr) e84 ⟨(nar .byte (45 : Int32)), (nar .byte z80), (nar .byte z75), (nar .byte z71), (nar .byte z58), (nar .byte z54), (nar .byte z41), (nar .byte z37), (nar .byte z24), (nar .byte z20), rfl, N84, K84, V84, hz20⟩ (by decide) (by decide)
abbrev rr_gc10p : Room := { frames := 0, cells := 0, slots := 0, locals := 0 }
theorem ef_gc10p (m : MethodId) (q0 : Int64) (o3 : Addr) : entryFrame m #[(.long q0), (.int 10), (.ref o3)] 11 = mkF m 0 #[vL q0, s_, vI 10, vR o3, u_, u_, u_, u_, u_, u_, u_] [] := by first | (simp [entryFrame, mkF, argsToLocals, Value.category]; done) | rfl
def Q_gc10p (Z : State) (w_0 : Addr) (w_1 : Addr) (w_2 : Addr) (w_3 : Addr) (w_4 : Addr) (w_5 : Addr) (w_6 : Addr) (w_7 : Int32) (w_8 : Value) (q0 : Int64) (o3 : Addr) (kk : ClassId) (h0 : Heap) (n0 : Nat) (v : Option Value) (h : Heap) (L : List Loc) : Prop := ∃ c0 : Int32, ∃ c1 : Int32, ∃ c2 : Int32, ∃ c3 : Int32, ∃ c4 : Int32, ∃ c5 : Int32, ∃ c6 : Int32, ∃ c7 : Int32, ∃ c8 : Int32, ∃ c9 : Int32, v = some (.int 0) ∧ Fr n0 L ∧ Keep h0 h [o3] ∧ Arv Z h o3 kk .byte (10 : Int32) [(.int c0), (.int c1), (.int c2), (.int c3), (.int c4), (.int c5), (.int c6), (.int c7), (.int c8), (.int c9)] (.int 0) ∧ ¬ (c9 &&& (255 : Int32)) = (32 : Int32)
theorem rm_gc10p (l : Launch) (Z : State) (a0 : Array Value) (hw : HW Z a0) (ws : List Jvm.Cond) (w_0 : Addr) (w_1 : Addr) (w_2 : Addr) (w_3 : Addr) (w_4 : Addr) (w_5 : Addr) (w_6 : Addr) (w_7 : Int32) (w_8 : Value) (q0 : Int64) (o3 : Addr) (kk : ClassId) (h0 : Heap) (n0 : Nat) (Z0 : n0 ≤ h0.size) (ST : own_St Z w_0 w_1 w_2 w_3 w_4 w_5 w_6 w_7 w_8) (O0 : Old Z n0 h0) (hrg : -2147483648 ≤ q0.toInt ∧ q0.toInt ≤ 2147483647) (hsg : ¬ (q0 < (0 : Int64))) (hhi : ¬ ((-1000000000 : Int64) < (-q0))) (Va : Arv Z h0 o3 kk .byte (10 : Int32) [(.int 0), (.int 0), (.int 0), (.int 0), (.int 0), (.int 0), (.int 0), (.int 0), (.int 0), (.int 0)] (.int 0)) (geo : n0 ≤ o3) :
    MetFree l y_12 (head1 (Jvm.Cond.code y_12 jdk_35_method_14_code 11 (some .int) :: ws) rr_gc10p) (fun a U => a = #[(.long q0), (.int 10), (.ref o3)] ∧ Z.Warmed39 U.vm ∧ U.heap = h0) (fun _ _ _ _ _ => True) (fun _ U o U' => ∃ v L, o = .returned v ∧ Q_gc10p Z w_0 w_1 w_2 w_3 w_4 w_5 w_6 w_7 w_8 q0 o3 kk h0 n0 v U'.heap L ∧ FrameEnd U o U' L rr_gc10p.cells rr_gc10p.slots) := by
  refine MetFree.of_bodySF (plainFor_of_name pn_5) hisR ?_
  intro p e s m args below meth c s₁ Bd hml0 hP hK
  obtain ⟨rfl, hZ, hh⟩ := hP
  have hx := Bd.exec
  have hby := Bd.bytes
  have B := @hb _ _ hby
  have hml : c.maxLocals = 11 := hml0
  have hown : s.vm.findClass cn_3 = some m.cls := findClass_of_methodNamed Bd.named
  have X0 : Stand p l e rr_gc10p s m #[(.long q0), (.int 10), (.ref o3)] below meth c s₁ [] 0 0 := Stand.of_body Bd
  have e0 : s₁.heap = h0 := by rw [← hh, Bd.state]; rfl
  have N0 := Fr.nil n0
  have K0 : Keep h0 h0 [o3] := Keep.refl _ _
  obtain ⟨G, step, ret, fin⟩ := own_openX X0 (rr_gc10p.cells) (rr_gc10p.slots) (Q_gc10p Z w_0 w_1 w_2 w_3 w_4 w_5 w_6 w_7 w_8 q0 o3 kk h0 n0) Bd.notSynchronized
  refine fin (g := entryFrame m #[(.long q0), (.int 10), (.ref o3)] 11) ?_
  rw [ef_gc10p m q0 o3]
  obtain ⟨ls0, hls0⟩ := own_sl #[vL q0, s_, vI 10, vR o3, u_, u_, u_, u_, u_, u_, u_]
  suffices hG0 : G s₁ (mkF m 0 ls0 []) by rw [hls0] at hG0; exact hG0
  refine step (fun t k => XS.iloadN X0.here hx rfl (B d12_0) (by rw [hls0]; rfl) k) ?_
  obtain ⟨ls1, hls1⟩ := own_sl #[vL q0, s_, vI 10, vR o3, u_, u_, u_, vI 10, u_, u_, u_]
  refine step (fun t k => XS.istore X0.here hx rfl (B d12_1) rfl (l' := ls1) (by rw [hls0, hls1]; rfl) k) ?_
  refine step (fun t k => XS.lloadN X0.here hx rfl (B d12_3) (by rw [hls1]; rfl) k) ?_
  refine step (fun t k => XS.lconst X0.here hx rfl (B d12_4) k) ?_
  refine step (fun t k => XS.lcmp X0.here hx rfl (B d12_5) rfl k) ?_
  refine step (fun t k => XS.ifYes X0.here hx rfl (pc0 := 6) (pc' := 13) rfl (B d12_6) rfl ((if0 _ _).trans (flt (fun q => hsg ((lw_lt _ _).mp q))).2.1) (by decide) (by decide) k) ?_
  show G s₁ (mkF m 13 ls1 [])
  refine step (fun t k => XS.iconst X0.here hx rfl (B d12_13) k) ?_
  obtain ⟨ls2, hls2⟩ := own_sl #[vL q0, s_, vI 10, vR o3, u_, u_, u_, vI 10, vI 0, u_, u_]
  refine step (fun t k => XS.istore X0.here hx rfl (B d12_14) rfl (l' := ls2) (by rw [hls1, hls2]; rfl) k) ?_
  refine step (fun t k => XS.iload X0.here hx rfl (B d12_16) (by rw [hls2]; rfl) k) ?_
  refine step (fun t k => XS.ifNo X0.here hx rfl (B d12_18) rfl ((if0 _ _).trans (teq (by decide : (0 : Int32) = (0 : Int32))).2) k) ?_
  refine step (fun t k => XS.lloadN X0.here hx rfl (B d12_21) (by rw [hls2]; rfl) k) ?_
  refine step (fun t k => XS.lneg X0.here hx rfl (B d12_22) rfl k) ?_
  show G s₁ (mkF m 23 ls2 [(.long (-q0))])
  obtain ⟨x0, hx0⟩ : ∃ z : Int64, z = (-q0) := ⟨_, rfl⟩
  rw [← hx0]
  have bd3 : -2147483648 < x0.toInt ∧ x0.toInt ≤ -1000000000 := by
    rw [hx0]
    have c1 := c_lneg q0
    have r1 := rng64 (-q0)
    have k0 : (0 : Int64).toInt = 0 := by decide
    rw [own_xltL] at hsg
    have k2 : (-1000000000 : Int64).toInt = -1000000000 := by decide
    rw [own_xltL] at hhi
    omega
  obtain ⟨ls4, hls4⟩ := own_sl #[vL x0, s_, vI 10, vR o3, u_, u_, u_, vI 10, vI 0, u_, u_]
  refine step (fun t k => XS.lstoreN X0.here hx rfl (B d12_23) rfl (l' := ls4) (by rw [hls2, hls4]; rfl) k) ?_
  refine step (fun t k => XS.lloadN X0.here hx rfl (B d12_24) (by rw [hls4]; rfl) k) ?_
  have q5 := X0.ldc2Long hx hown (mvT hZ (ww97 hw)) (g := (mkF m 25 ls4 [(.long x0)])) rfl (B d12_25)
  refine step q5 ?_
  refine step (fun t k => XS.lcmp X0.here hx rfl (B d12_28) rfl k) ?_
  have ho6 := own_yL (b := x0) (by decide : (-2147483648 : Int64).toInt = -2147483648) (by omega)
  refine step (fun t k => XS.ifYes X0.here hx rfl (pc0 := 29) (pc' := 82) rfl (B d12_29) rfl ((if0 _ _).trans (tlt ((lw_gt _ _).mpr ho6)).2.2.1) (by decide) (by decide) k) ?_
  refine step (fun t k => XS.lloadN X0.here hx rfl (B d12_82) (by rw [hls4]; rfl) k) ?_
  refine step (fun t k => XS.l2i X0.here hx rfl (B d12_83) rfl k) ?_
  show G s₁ (mkF m 84 ls4 [(.int (x0.toInt32))])
  obtain ⟨y7, hy7⟩ := own_ex (x0.toInt32)
  rw [← hy7]
  have bd8 : -2147483648 < y7.toInt ∧ y7.toInt ≤ -1000000000 := by
    rw [hy7]
    have c1 := c_l2i x0
    have r1 := rng32 x0.toInt32
    omega
  obtain ⟨ls9, hls9⟩ := own_sl #[vL x0, s_, vI 10, vR o3, u_, u_, u_, vI 10, vI 0, u_, vI y7]
  refine step (fun t k => XS.istore X0.here hx rfl (B d12_84) rfl (l' := ls9) (by rw [hls4, hls9]; rfl) k) ?_
  refine step (fun t k => XS.iload X0.here hx rfl (B d12_86) (by rw [hls9]; rfl) k) ?_
  refine step (fun t k => XS.bipush X0.here hx rfl (B d12_88) k) ?_
  show G s₁ (mkF m 90 ls9 [(.int (-100)), (.int y7)])
  have ho10 := own_n (b := y7) (by decide : (-100 : Int32).toInt = -100) (by omega)
  refine step (fun t k => XS.icmpNo X0.here hx rfl (B d12_90) rfl (flt ho10).2.2.1 k) ?_
  refine step (fun t k => XS.iload X0.here hx rfl (B d12_93) (by rw [hls9]; rfl) k) ?_
  refine step (fun t k => XS.bipush X0.here hx rfl (B d12_95) k) ?_
  refine step (fun t k => XS.idiv X0.here hx rfl (B d12_97) rfl (by decide) k) ?_
  show G s₁ (mkF m 98 ls9 [(.int (y7 / (100 : Int32)))])
  obtain ⟨y11, hy11⟩ := own_ex (y7 / (100 : Int32))
  rw [← hy11]
  have bq12 := own_bq hy11 (by omega)
  obtain ⟨ls13, hls13⟩ := own_sl #[vL x0, s_, vI 10, vR o3, u_, u_, u_, vI 10, vI 0, vI y11, vI y7]
  refine step (fun t k => XS.istore X0.here hx rfl (B d12_98) rfl (l' := ls13) (by rw [hls9, hls13]; rfl) k) ?_
  refine step (fun t k => XS.iload X0.here hx rfl (B d12_100) (by rw [hls13]; rfl) k) ?_
  refine step (fun t k => XS.bipush X0.here hx rfl (B d12_102) k) ?_
  refine step (fun t k => XS.imul X0.here hx rfl (B d12_104) rfl k) ?_
  refine step (fun t k => XS.iload X0.here hx rfl (B d12_105) (by rw [hls13]; rfl) k) ?_
  refine step (fun t k => XS.isub X0.here hx rfl (B d12_107) rfl k) ?_
  show G s₁ (mkF m 108 ls13 [(.int ((y11 * (100 : Int32)) - y7))])
  obtain ⟨r14, hr14⟩ := own_ex ((y11 * (100 : Int32)) - y7)
  rw [← hr14]
  have br15 := own_br bq12 (by omega) hr14
  have bd16 : -100000000 < y11.toInt ∧ y11.toInt ≤ -10000000 := by
    omega
  obtain ⟨ls17, hls17⟩ := own_sl #[vL x0, s_, vI 10, vR o3, u_, u_, vI r14, vI 10, vI 0, vI y11, vI y7]
  refine step (fun t k => XS.istore X0.here hx rfl (B d12_108) rfl (l' := ls17) (by rw [hls13, hls17]; rfl) k) ?_
  refine step (fun t k => XS.iload X0.here hx rfl (B d12_110) (by rw [hls17]; rfl) k) ?_
  obtain ⟨ls18, hls18⟩ := own_sl #[vL x0, s_, vI 10, vR o3, u_, u_, vI r14, vI 10, vI 0, vI y11, vI y11]
  refine step (fun t k => XS.istore X0.here hx rfl (B d12_112) rfl (l' := ls18) (by rw [hls17, hls18]; rfl) k) ?_
  refine step (fun t k => XS.aloadN X0.here hx rfl (B d12_114) (by rw [hls18]; rfl) rfl k) ?_
  obtain ⟨ls19, hls19⟩ := own_sl #[vL x0, s_, vI 10, vR o3, u_, u_, vI r14, vI 9, vI 0, vI y11, vI y11]
  refine step (fun t k => XS.iinc X0.here hx rfl (B d12_115) (by rw [hls18]; rfl) (l' := ls19) (by rw [hls18, hls19]; rfl) k) ?_
  refine step (fun t k => XS.iload X0.here hx rfl (B d12_118) (by rw [hls19]; rfl) k) ?_
  show G s₁ (mkF m 120 ls19 [(.int 9), (.ref o3)])
  obtain ⟨T20, X20, e20, st20⟩ := getS2 X0 hx hZ hown (host := "") (Or.inl (ww98 hw)) Via.refl e0 (Sta.ext O0.2 ST.k10) (g := (mkF m 120 ls19 [(.int 9), (.ref o3)])) rfl (B d12_120)
  refine step st20 ?_
  refine step (fun t k => XS.iload X20.here hx rfl (B d12_123) (by rw [hls19]; rfl) k) ?_
  have hj21 := own_hj br15
  obtain ⟨z21, hz21, st21⟩ := own_ldDig X20 hx hZ e20 ST.k23 O0.2 hj21 (g := (mkF m 125 ls19 [(.int r14), (.ref w_5), (.int 9), (.ref o3)])) rfl rfl (B d12_125)
  refine step st21 ?_
  obtain ⟨T22, h22, X22, e22, W22, V22, st22⟩ := own_stB X20 hx hZ e20 Va (j := (9 : Int32)) (by decide) (i := 9) rfl (by show 9 < 10; decide) (g := (mkF m 126 ls19 [(.int z21), (.int 9), (.ref o3)])) rfl rfl (B d12_126)
  replace V22 : Arv Z h22 o3 kk .byte (10 : Int32) [(.int 0), (.int 0), (.int 0), (.int 0), (.int 0), (.int 0), (.int 0), (.int 0), (.int 0), (.int (nar .byte z21))] (.int 0) := V22
  have N22 := Fr.snoc X22 N0 geo
  obtain ⟨lc22, X22, N22⟩ := own_gen X22 N22
  have O22 := O0.wr W22 geo
  have K22 : Keep h0 h22 [o3] := K0.wr W22 (Or.inl (List.mem_of_getElem? (i := 0) rfl))
  refine step st22 ?_
  refine step (fun t k => XS.aloadN X22.here hx rfl (B d12_127) (by rw [hls19]; rfl) rfl k) ?_
  obtain ⟨ls23, hls23⟩ := own_sl #[vL x0, s_, vI 10, vR o3, u_, u_, vI r14, vI 8, vI 0, vI y11, vI y11]
  refine step (fun t k => XS.iinc X22.here hx rfl (B d12_128) (by rw [hls19]; rfl) (l' := ls23) (by rw [hls19, hls23]; rfl) k) ?_
  refine step (fun t k => XS.iload X22.here hx rfl (B d12_131) (by rw [hls23]; rfl) k) ?_
  obtain ⟨T24, X24, e24, st24⟩ := getS2 X22 hx hZ hown (host := "") (Or.inl (ww185 hw)) Via.refl e22 (Sta.ext O22.2 ST.k12) (g := (mkF m 133 ls23 [(.int 8), (.ref o3)])) rfl (B d12_133)
  refine step st24 ?_
  refine step (fun t k => XS.iload X24.here hx rfl (B d12_136) (by rw [hls23]; rfl) k) ?_
  have hj25 := own_hj br15
  obtain ⟨z25, hz25, st25⟩ := own_ldDig X24 hx hZ e24 ST.k24 O22.2 hj25 (g := (mkF m 138 ls23 [(.int r14), (.ref w_6), (.int 8), (.ref o3)])) rfl rfl (B d12_138)
  refine step st25 ?_
  obtain ⟨T26, h26, X26, e26, W26, V26, st26⟩ := own_stB X24 hx hZ e24 V22 (j := (8 : Int32)) (by decide) (i := 8) rfl (by show 8 < 10; decide) (g := (mkF m 139 ls23 [(.int z25), (.int 8), (.ref o3)])) rfl rfl (B d12_139)
  replace V26 : Arv Z h26 o3 kk .byte (10 : Int32) [(.int 0), (.int 0), (.int 0), (.int 0), (.int 0), (.int 0), (.int 0), (.int 0), (.int (nar .byte z25)), (.int (nar .byte z21))] (.int 0) := V26
  have N26 := Fr.snoc X26 N22 geo
  obtain ⟨lc26, X26, N26⟩ := own_gen X26 N26
  have O26 := O22.wr W26 geo
  have K26 : Keep h0 h26 [o3] := K22.wr W26 (Or.inl (List.mem_of_getElem? (i := 0) rfl))
  refine step st26 ?_
  refine step (fun t k => XS.goto X26.here hx rfl (pc0 := 140) (pc' := 86) rfl (B d12_140) (by decide) (by decide) k) ?_
  refine step (fun t k => XS.iload X26.here hx rfl (B d12_86) (by rw [hls23]; rfl) k) ?_
  refine step (fun t k => XS.bipush X26.here hx rfl (B d12_88) k) ?_
  show G T26 (mkF m 90 ls23 [(.int (-100)), (.int y11)])
  have ho27 := own_n (b := y11) (by decide : (-100 : Int32).toInt = -100) (by omega)
  refine step (fun t k => XS.icmpNo X26.here hx rfl (B d12_90) rfl (flt ho27).2.2.1 k) ?_
  refine step (fun t k => XS.iload X26.here hx rfl (B d12_93) (by rw [hls23]; rfl) k) ?_
  refine step (fun t k => XS.bipush X26.here hx rfl (B d12_95) k) ?_
  refine step (fun t k => XS.idiv X26.here hx rfl (B d12_97) rfl (by decide) k) ?_
  show G T26 (mkF m 98 ls23 [(.int (y11 / (100 : Int32)))])
  obtain ⟨y28, hy28⟩ := own_ex (y11 / (100 : Int32))
  rw [← hy28]
  have bq29 := own_bq hy28 (by omega)
  obtain ⟨ls30, hls30⟩ := own_sl #[vL x0, s_, vI 10, vR o3, u_, u_, vI r14, vI 8, vI 0, vI y28, vI y11]
  refine step (fun t k => XS.istore X26.here hx rfl (B d12_98) rfl (l' := ls30) (by rw [hls23, hls30]; rfl) k) ?_
  refine step (fun t k => XS.iload X26.here hx rfl (B d12_100) (by rw [hls30]; rfl) k) ?_
  refine step (fun t k => XS.bipush X26.here hx rfl (B d12_102) k) ?_
  refine step (fun t k => XS.imul X26.here hx rfl (B d12_104) rfl k) ?_
  refine step (fun t k => XS.iload X26.here hx rfl (B d12_105) (by rw [hls30]; rfl) k) ?_
  refine step (fun t k => XS.isub X26.here hx rfl (B d12_107) rfl k) ?_
  show G T26 (mkF m 108 ls30 [(.int ((y28 * (100 : Int32)) - y11))])
  obtain ⟨r31, hr31⟩ := own_ex ((y28 * (100 : Int32)) - y11)
  rw [← hr31]
  have br32 := own_br bq29 (by omega) hr31
  have bd33 : -1000000 < y28.toInt ∧ y28.toInt ≤ -100000 := by
    omega
  obtain ⟨ls34, hls34⟩ := own_sl #[vL x0, s_, vI 10, vR o3, u_, u_, vI r31, vI 8, vI 0, vI y28, vI y11]
  refine step (fun t k => XS.istore X26.here hx rfl (B d12_108) rfl (l' := ls34) (by rw [hls30, hls34]; rfl) k) ?_
  refine step (fun t k => XS.iload X26.here hx rfl (B d12_110) (by rw [hls34]; rfl) k) ?_
  obtain ⟨ls35, hls35⟩ := own_sl #[vL x0, s_, vI 10, vR o3, u_, u_, vI r31, vI 8, vI 0, vI y28, vI y28]
  refine step (fun t k => XS.istore X26.here hx rfl (B d12_112) rfl (l' := ls35) (by rw [hls34, hls35]; rfl) k) ?_
  refine step (fun t k => XS.aloadN X26.here hx rfl (B d12_114) (by rw [hls35]; rfl) rfl k) ?_
  obtain ⟨ls36, hls36⟩ := own_sl #[vL x0, s_, vI 10, vR o3, u_, u_, vI r31, vI 7, vI 0, vI y28, vI y28]
  refine step (fun t k => XS.iinc X26.here hx rfl (B d12_115) (by rw [hls35]; rfl) (l' := ls36) (by rw [hls35, hls36]; rfl) k) ?_
  refine step (fun t k => XS.iload X26.here hx rfl (B d12_118) (by rw [hls36]; rfl) k) ?_
  show G T26 (mkF m 120 ls36 [(.int 7), (.ref o3)])
  obtain ⟨T37, X37, e37, st37⟩ := getS2 X26 hx hZ hown (host := "") (Or.inl (ww98 hw)) Via.refl e26 (Sta.ext O26.2 ST.k10) (g := (mkF m 120 ls36 [(.int 7), (.ref o3)])) rfl (B d12_120)
  refine step st37 ?_
  refine step (fun t k => XS.iload X37.here hx rfl (B d12_123) (by rw [hls36]; rfl) k) ?_
  have hj38 := own_hj br32
  obtain ⟨z38, hz38, st38⟩ := own_ldDig X37 hx hZ e37 ST.k23 O26.2 hj38 (g := (mkF m 125 ls36 [(.int r31), (.ref w_5), (.int 7), (.ref o3)])) rfl rfl (B d12_125)
  refine step st38 ?_
  obtain ⟨T39, h39, X39, e39, W39, V39, st39⟩ := own_stB X37 hx hZ e37 V26 (j := (7 : Int32)) (by decide) (i := 7) rfl (by show 7 < 10; decide) (g := (mkF m 126 ls36 [(.int z38), (.int 7), (.ref o3)])) rfl rfl (B d12_126)
  replace V39 : Arv Z h39 o3 kk .byte (10 : Int32) [(.int 0), (.int 0), (.int 0), (.int 0), (.int 0), (.int 0), (.int 0), (.int (nar .byte z38)), (.int (nar .byte z25)), (.int (nar .byte z21))] (.int 0) := V39
  have N39 := Fr.snoc X39 N26 geo
  obtain ⟨lc39, X39, N39⟩ := own_gen X39 N39
  have O39 := O26.wr W39 geo
  have K39 : Keep h0 h39 [o3] := K26.wr W39 (Or.inl (List.mem_of_getElem? (i := 0) rfl))
  refine step st39 ?_
  refine step (fun t k => XS.aloadN X39.here hx rfl (B d12_127) (by rw [hls36]; rfl) rfl k) ?_
  obtain ⟨ls40, hls40⟩ := own_sl #[vL x0, s_, vI 10, vR o3, u_, u_, vI r31, vI 6, vI 0, vI y28, vI y28]
  refine step (fun t k => XS.iinc X39.here hx rfl (B d12_128) (by rw [hls36]; rfl) (l' := ls40) (by rw [hls36, hls40]; rfl) k) ?_
  refine step (fun t k => XS.iload X39.here hx rfl (B d12_131) (by rw [hls40]; rfl) k) ?_
  obtain ⟨T41, X41, e41, st41⟩ := getS2 X39 hx hZ hown (host := "") (Or.inl (ww185 hw)) Via.refl e39 (Sta.ext O39.2 ST.k12) (g := (mkF m 133 ls40 [(.int 6), (.ref o3)])) rfl (B d12_133)
  refine step st41 ?_
  refine step (fun t k => XS.iload X41.here hx rfl (B d12_136) (by rw [hls40]; rfl) k) ?_
  have hj42 := own_hj br32
  obtain ⟨z42, hz42, st42⟩ := own_ldDig X41 hx hZ e41 ST.k24 O39.2 hj42 (g := (mkF m 138 ls40 [(.int r31), (.ref w_6), (.int 6), (.ref o3)])) rfl rfl (B d12_138)
  refine step st42 ?_
  obtain ⟨T43, h43, X43, e43, W43, V43, st43⟩ := own_stB X41 hx hZ e41 V39 (j := (6 : Int32)) (by decide) (i := 6) rfl (by show 6 < 10; decide) (g := (mkF m 139 ls40 [(.int z42), (.int 6), (.ref o3)])) rfl rfl (B d12_139)
  replace V43 : Arv Z h43 o3 kk .byte (10 : Int32) [(.int 0), (.int 0), (.int 0), (.int 0), (.int 0), (.int 0), (.int (nar .byte z42)), (.int (nar .byte z38)), (.int (nar .byte z25)), (.int (nar .byte z21))] (.int 0) := V43
  have N43 := Fr.snoc X43 N39 geo
  obtain ⟨lc43, X43, N43⟩ := own_gen X43 N43
  have O43 := O39.wr W43 geo
  have K43 : Keep h0 h43 [o3] := K39.wr W43 (Or.inl (List.mem_of_getElem? (i := 0) rfl))
  refine step st43 ?_
  refine step (fun t k => XS.goto X43.here hx rfl (pc0 := 140) (pc' := 86) rfl (B d12_140) (by decide) (by decide) k) ?_
  refine step (fun t k => XS.iload X43.here hx rfl (B d12_86) (by rw [hls40]; rfl) k) ?_
  refine step (fun t k => XS.bipush X43.here hx rfl (B d12_88) k) ?_
  show G T43 (mkF m 90 ls40 [(.int (-100)), (.int y28)])
  have ho44 := own_n (b := y28) (by decide : (-100 : Int32).toInt = -100) (by omega)
  refine step (fun t k => XS.icmpNo X43.here hx rfl (B d12_90) rfl (flt ho44).2.2.1 k) ?_
  refine step (fun t k => XS.iload X43.here hx rfl (B d12_93) (by rw [hls40]; rfl) k) ?_
  refine step (fun t k => XS.bipush X43.here hx rfl (B d12_95) k) ?_
  refine step (fun t k => XS.idiv X43.here hx rfl (B d12_97) rfl (by decide) k) ?_
  show G T43 (mkF m 98 ls40 [(.int (y28 / (100 : Int32)))])
  obtain ⟨y45, hy45⟩ := own_ex (y28 / (100 : Int32))
  rw [← hy45]
  have bq46 := own_bq hy45 (by omega)
  obtain ⟨ls47, hls47⟩ := own_sl #[vL x0, s_, vI 10, vR o3, u_, u_, vI r31, vI 6, vI 0, vI y45, vI y28]
  refine step (fun t k => XS.istore X43.here hx rfl (B d12_98) rfl (l' := ls47) (by rw [hls40, hls47]; rfl) k) ?_
  refine step (fun t k => XS.iload X43.here hx rfl (B d12_100) (by rw [hls47]; rfl) k) ?_
  refine step (fun t k => XS.bipush X43.here hx rfl (B d12_102) k) ?_
  refine step (fun t k => XS.imul X43.here hx rfl (B d12_104) rfl k) ?_
  refine step (fun t k => XS.iload X43.here hx rfl (B d12_105) (by rw [hls47]; rfl) k) ?_
  refine step (fun t k => XS.isub X43.here hx rfl (B d12_107) rfl k) ?_
  show G T43 (mkF m 108 ls47 [(.int ((y45 * (100 : Int32)) - y28))])
  obtain ⟨r48, hr48⟩ := own_ex ((y45 * (100 : Int32)) - y28)
  rw [← hr48]
  have br49 := own_br bq46 (by omega) hr48
  have bd50 : -10000 < y45.toInt ∧ y45.toInt ≤ -1000 := by
    omega
  obtain ⟨ls51, hls51⟩ := own_sl #[vL x0, s_, vI 10, vR o3, u_, u_, vI r48, vI 6, vI 0, vI y45, vI y28]
  refine step (fun t k => XS.istore X43.here hx rfl (B d12_108) rfl (l' := ls51) (by rw [hls47, hls51]; rfl) k) ?_
  refine step (fun t k => XS.iload X43.here hx rfl (B d12_110) (by rw [hls51]; rfl) k) ?_
  obtain ⟨ls52, hls52⟩ := own_sl #[vL x0, s_, vI 10, vR o3, u_, u_, vI r48, vI 6, vI 0, vI y45, vI y45]
  refine step (fun t k => XS.istore X43.here hx rfl (B d12_112) rfl (l' := ls52) (by rw [hls51, hls52]; rfl) k) ?_
  refine step (fun t k => XS.aloadN X43.here hx rfl (B d12_114) (by rw [hls52]; rfl) rfl k) ?_
  obtain ⟨ls53, hls53⟩ := own_sl #[vL x0, s_, vI 10, vR o3, u_, u_, vI r48, vI 5, vI 0, vI y45, vI y45]
  refine step (fun t k => XS.iinc X43.here hx rfl (B d12_115) (by rw [hls52]; rfl) (l' := ls53) (by rw [hls52, hls53]; rfl) k) ?_
  refine step (fun t k => XS.iload X43.here hx rfl (B d12_118) (by rw [hls53]; rfl) k) ?_
  show G T43 (mkF m 120 ls53 [(.int 5), (.ref o3)])
  obtain ⟨T54, X54, e54, st54⟩ := getS2 X43 hx hZ hown (host := "") (Or.inl (ww98 hw)) Via.refl e43 (Sta.ext O43.2 ST.k10) (g := (mkF m 120 ls53 [(.int 5), (.ref o3)])) rfl (B d12_120)
  refine step st54 ?_
  refine step (fun t k => XS.iload X54.here hx rfl (B d12_123) (by rw [hls53]; rfl) k) ?_
  have hj55 := own_hj br49
  obtain ⟨z55, hz55, st55⟩ := own_ldDig X54 hx hZ e54 ST.k23 O43.2 hj55 (g := (mkF m 125 ls53 [(.int r48), (.ref w_5), (.int 5), (.ref o3)])) rfl rfl (B d12_125)
  refine step st55 ?_
  obtain ⟨T56, h56, X56, e56, W56, V56, st56⟩ := own_stB X54 hx hZ e54 V43 (j := (5 : Int32)) (by decide) (i := 5) rfl (by show 5 < 10; decide) (g := (mkF m 126 ls53 [(.int z55), (.int 5), (.ref o3)])) rfl rfl (B d12_126)
  replace V56 : Arv Z h56 o3 kk .byte (10 : Int32) [(.int 0), (.int 0), (.int 0), (.int 0), (.int 0), (.int (nar .byte z55)), (.int (nar .byte z42)), (.int (nar .byte z38)), (.int (nar .byte z25)), (.int (nar .byte z21))] (.int 0) := V56
  have N56 := Fr.snoc X56 N43 geo
  obtain ⟨lc56, X56, N56⟩ := own_gen X56 N56
  have O56 := O43.wr W56 geo
  have K56 : Keep h0 h56 [o3] := K43.wr W56 (Or.inl (List.mem_of_getElem? (i := 0) rfl))
  refine step st56 ?_
  refine step (fun t k => XS.aloadN X56.here hx rfl (B d12_127) (by rw [hls53]; rfl) rfl k) ?_
  obtain ⟨ls57, hls57⟩ := own_sl #[vL x0, s_, vI 10, vR o3, u_, u_, vI r48, vI 4, vI 0, vI y45, vI y45]
  refine step (fun t k => XS.iinc X56.here hx rfl (B d12_128) (by rw [hls53]; rfl) (l' := ls57) (by rw [hls53, hls57]; rfl) k) ?_
  refine step (fun t k => XS.iload X56.here hx rfl (B d12_131) (by rw [hls57]; rfl) k) ?_
  obtain ⟨T58, X58, e58, st58⟩ := getS2 X56 hx hZ hown (host := "") (Or.inl (ww185 hw)) Via.refl e56 (Sta.ext O56.2 ST.k12) (g := (mkF m 133 ls57 [(.int 4), (.ref o3)])) rfl (B d12_133)
  refine step st58 ?_
  refine step (fun t k => XS.iload X58.here hx rfl (B d12_136) (by rw [hls57]; rfl) k) ?_
  have hj59 := own_hj br49
  obtain ⟨z59, hz59, st59⟩ := own_ldDig X58 hx hZ e58 ST.k24 O56.2 hj59 (g := (mkF m 138 ls57 [(.int r48), (.ref w_6), (.int 4), (.ref o3)])) rfl rfl (B d12_138)
  refine step st59 ?_
  obtain ⟨T60, h60, X60, e60, W60, V60, st60⟩ := own_stB X58 hx hZ e58 V56 (j := (4 : Int32)) (by decide) (i := 4) rfl (by show 4 < 10; decide) (g := (mkF m 139 ls57 [(.int z59), (.int 4), (.ref o3)])) rfl rfl (B d12_139)
  replace V60 : Arv Z h60 o3 kk .byte (10 : Int32) [(.int 0), (.int 0), (.int 0), (.int 0), (.int (nar .byte z59)), (.int (nar .byte z55)), (.int (nar .byte z42)), (.int (nar .byte z38)), (.int (nar .byte z25)), (.int (nar .byte z21))] (.int 0) := V60
  have N60 := Fr.snoc X60 N56 geo
  obtain ⟨lc60, X60, N60⟩ := own_gen X60 N60
  have O60 := O56.wr W60 geo
  have K60 : Keep h0 h60 [o3] := K56.wr W60 (Or.inl (List.mem_of_getElem? (i := 0) rfl))
  refine step st60 ?_
  refine step (fun t k => XS.goto X60.here hx rfl (pc0 := 140) (pc' := 86) rfl (B d12_140) (by decide) (by decide) k) ?_
  refine step (fun t k => XS.iload X60.here hx rfl (B d12_86) (by rw [hls57]; rfl) k) ?_
  refine step (fun t k => XS.bipush X60.here hx rfl (B d12_88) k) ?_
  show G T60 (mkF m 90 ls57 [(.int (-100)), (.int y45)])
  have ho61 := own_n (b := y45) (by decide : (-100 : Int32).toInt = -100) (by omega)
  refine step (fun t k => XS.icmpNo X60.here hx rfl (B d12_90) rfl (flt ho61).2.2.1 k) ?_
  refine step (fun t k => XS.iload X60.here hx rfl (B d12_93) (by rw [hls57]; rfl) k) ?_
  refine step (fun t k => XS.bipush X60.here hx rfl (B d12_95) k) ?_
  refine step (fun t k => XS.idiv X60.here hx rfl (B d12_97) rfl (by decide) k) ?_
  show G T60 (mkF m 98 ls57 [(.int (y45 / (100 : Int32)))])
  obtain ⟨y62, hy62⟩ := own_ex (y45 / (100 : Int32))
  rw [← hy62]
  have bq63 := own_bq hy62 (by omega)
  obtain ⟨ls64, hls64⟩ := own_sl #[vL x0, s_, vI 10, vR o3, u_, u_, vI r48, vI 4, vI 0, vI y62, vI y45]
  refine step (fun t k => XS.istore X60.here hx rfl (B d12_98) rfl (l' := ls64) (by rw [hls57, hls64]; rfl) k) ?_
  refine step (fun t k => XS.iload X60.here hx rfl (B d12_100) (by rw [hls64]; rfl) k) ?_
  refine step (fun t k => XS.bipush X60.here hx rfl (B d12_102) k) ?_
  refine step (fun t k => XS.imul X60.here hx rfl (B d12_104) rfl k) ?_
  refine step (fun t k => XS.iload X60.here hx rfl (B d12_105) (by rw [hls64]; rfl) k) ?_
  refine step (fun t k => XS.isub X60.here hx rfl (B d12_107) rfl k) ?_
  show G T60 (mkF m 108 ls64 [(.int ((y62 * (100 : Int32)) - y45))])
  obtain ⟨r65, hr65⟩ := own_ex ((y62 * (100 : Int32)) - y45)
  rw [← hr65]
  have br66 := own_br bq63 (by omega) hr65
  have bd67 : -100 < y62.toInt ∧ y62.toInt ≤ -10 := by
    omega
  obtain ⟨ls68, hls68⟩ := own_sl #[vL x0, s_, vI 10, vR o3, u_, u_, vI r65, vI 4, vI 0, vI y62, vI y45]
  refine step (fun t k => XS.istore X60.here hx rfl (B d12_108) rfl (l' := ls68) (by rw [hls64, hls68]; rfl) k) ?_
  refine step (fun t k => XS.iload X60.here hx rfl (B d12_110) (by rw [hls68]; rfl) k) ?_
  obtain ⟨ls69, hls69⟩ := own_sl #[vL x0, s_, vI 10, vR o3, u_, u_, vI r65, vI 4, vI 0, vI y62, vI y62]
  refine step (fun t k => XS.istore X60.here hx rfl (B d12_112) rfl (l' := ls69) (by rw [hls68, hls69]; rfl) k) ?_
  refine step (fun t k => XS.aloadN X60.here hx rfl (B d12_114) (by rw [hls69]; rfl) rfl k) ?_
  obtain ⟨ls70, hls70⟩ := own_sl #[vL x0, s_, vI 10, vR o3, u_, u_, vI r65, vI 3, vI 0, vI y62, vI y62]
  refine step (fun t k => XS.iinc X60.here hx rfl (B d12_115) (by rw [hls69]; rfl) (l' := ls70) (by rw [hls69, hls70]; rfl) k) ?_
  refine step (fun t k => XS.iload X60.here hx rfl (B d12_118) (by rw [hls70]; rfl) k) ?_
  show G T60 (mkF m 120 ls70 [(.int 3), (.ref o3)])
  obtain ⟨T71, X71, e71, st71⟩ := getS2 X60 hx hZ hown (host := "") (Or.inl (ww98 hw)) Via.refl e60 (Sta.ext O60.2 ST.k10) (g := (mkF m 120 ls70 [(.int 3), (.ref o3)])) rfl (B d12_120)
  refine step st71 ?_
  refine step (fun t k => XS.iload X71.here hx rfl (B d12_123) (by rw [hls70]; rfl) k) ?_
  have hj72 := own_hj br66
  obtain ⟨z72, hz72, st72⟩ := own_ldDig X71 hx hZ e71 ST.k23 O60.2 hj72 (g := (mkF m 125 ls70 [(.int r65), (.ref w_5), (.int 3), (.ref o3)])) rfl rfl (B d12_125)
  refine step st72 ?_
  obtain ⟨T73, h73, X73, e73, W73, V73, st73⟩ := own_stB X71 hx hZ e71 V60 (j := (3 : Int32)) (by decide) (i := 3) rfl (by show 3 < 10; decide) (g := (mkF m 126 ls70 [(.int z72), (.int 3), (.ref o3)])) rfl rfl (B d12_126)
  replace V73 : Arv Z h73 o3 kk .byte (10 : Int32) [(.int 0), (.int 0), (.int 0), (.int (nar .byte z72)), (.int (nar .byte z59)), (.int (nar .byte z55)), (.int (nar .byte z42)), (.int (nar .byte z38)), (.int (nar .byte z25)), (.int (nar .byte z21))] (.int 0) := V73
  have N73 := Fr.snoc X73 N60 geo
  obtain ⟨lc73, X73, N73⟩ := own_gen X73 N73
  have O73 := O60.wr W73 geo
  have K73 : Keep h0 h73 [o3] := K60.wr W73 (Or.inl (List.mem_of_getElem? (i := 0) rfl))
  refine step st73 ?_
  refine step (fun t k => XS.aloadN X73.here hx rfl (B d12_127) (by rw [hls70]; rfl) rfl k) ?_
  obtain ⟨ls74, hls74⟩ := own_sl #[vL x0, s_, vI 10, vR o3, u_, u_, vI r65, vI 2, vI 0, vI y62, vI y62]
  refine step (fun t k => XS.iinc X73.here hx rfl (B d12_128) (by rw [hls70]; rfl) (l' := ls74) (by rw [hls70, hls74]; rfl) k) ?_
  refine step (fun t k => XS.iload X73.here hx rfl (B d12_131) (by rw [hls74]; rfl) k) ?_
  obtain ⟨T75, X75, e75, st75⟩ := getS2 X73 hx hZ hown (host := "") (Or.inl (ww185 hw)) Via.refl e73 (Sta.ext O73.2 ST.k12) (g := (mkF m 133 ls74 [(.int 2), (.ref o3)])) rfl (B d12_133)
  refine step st75 ?_
  refine step (fun t k => XS.iload X75.here hx rfl (B d12_136) (by rw [hls74]; rfl) k) ?_
  have hj76 := own_hj br66
  obtain ⟨z76, hz76, st76⟩ := own_ldDig X75 hx hZ e75 ST.k24 O73.2 hj76 (g := (mkF m 138 ls74 [(.int r65), (.ref w_6), (.int 2), (.ref o3)])) rfl rfl (B d12_138)
  refine step st76 ?_
  obtain ⟨T77, h77, X77, e77, W77, V77, st77⟩ := own_stB X75 hx hZ e75 V73 (j := (2 : Int32)) (by decide) (i := 2) rfl (by show 2 < 10; decide) (g := (mkF m 139 ls74 [(.int z76), (.int 2), (.ref o3)])) rfl rfl (B d12_139)
  replace V77 : Arv Z h77 o3 kk .byte (10 : Int32) [(.int 0), (.int 0), (.int (nar .byte z76)), (.int (nar .byte z72)), (.int (nar .byte z59)), (.int (nar .byte z55)), (.int (nar .byte z42)), (.int (nar .byte z38)), (.int (nar .byte z25)), (.int (nar .byte z21))] (.int 0) := V77
  have N77 := Fr.snoc X77 N73 geo
  obtain ⟨lc77, X77, N77⟩ := own_gen X77 N77
  have O77 := O73.wr W77 geo
  have K77 : Keep h0 h77 [o3] := K73.wr W77 (Or.inl (List.mem_of_getElem? (i := 0) rfl))
  refine step st77 ?_
  refine step (fun t k => XS.goto X77.here hx rfl (pc0 := 140) (pc' := 86) rfl (B d12_140) (by decide) (by decide) k) ?_
  refine step (fun t k => XS.iload X77.here hx rfl (B d12_86) (by rw [hls74]; rfl) k) ?_
  refine step (fun t k => XS.bipush X77.here hx rfl (B d12_88) k) ?_
  show G T77 (mkF m 90 ls74 [(.int (-100)), (.int y62)])
  have ho78 := own_y (b := y62) (by decide : (-100 : Int32).toInt = -100) (by omega)
  refine step (fun t k => XS.icmpYes X77.here hx rfl (pc0 := 90) (pc' := 143) rfl (B d12_90) rfl (tlt ho78).2.2.1 (by decide) (by decide) k) ?_
  refine step (fun t k => XS.aloadN X77.here hx rfl (B d12_143) (by rw [hls74]; rfl) rfl k) ?_
  obtain ⟨ls79, hls79⟩ := own_sl #[vL x0, s_, vI 10, vR o3, u_, u_, vI r65, vI 1, vI 0, vI y62, vI y62]
  refine step (fun t k => XS.iinc X77.here hx rfl (B d12_144) (by rw [hls74]; rfl) (l' := ls79) (by rw [hls74, hls79]; rfl) k) ?_
  refine step (fun t k => XS.iload X77.here hx rfl (B d12_147) (by rw [hls79]; rfl) k) ?_
  obtain ⟨T80, X80, e80, st80⟩ := getS2 X77 hx hZ hown (host := "") (Or.inl (ww98 hw)) Via.refl e77 (Sta.ext O77.2 ST.k10) (g := (mkF m 149 ls79 [(.int 1), (.ref o3)])) rfl (B d12_149)
  refine step st80 ?_
  refine step (fun t k => XS.iload X80.here hx rfl (B d12_152) (by rw [hls79]; rfl) k) ?_
  refine step (fun t k => XS.ineg X80.here hx rfl (B d12_154) rfl k) ?_
  have hj81 := own_hj (own_ng y62 (by omega))
  obtain ⟨z81, hz81, st81⟩ := own_ldDig X80 hx hZ e80 ST.k23 O77.2 hj81 (g := (mkF m 155 ls79 [(.int (-y62)), (.ref w_5), (.int 1), (.ref o3)])) rfl rfl (B d12_155)
  refine step st81 ?_
  obtain ⟨T82, h82, X82, e82, W82, V82, st82⟩ := own_stB X80 hx hZ e80 V77 (j := (1 : Int32)) (by decide) (i := 1) rfl (by show 1 < 10; decide) (g := (mkF m 156 ls79 [(.int z81), (.int 1), (.ref o3)])) rfl rfl (B d12_156)
  replace V82 : Arv Z h82 o3 kk .byte (10 : Int32) [(.int 0), (.int (nar .byte z81)), (.int (nar .byte z76)), (.int (nar .byte z72)), (.int (nar .byte z59)), (.int (nar .byte z55)), (.int (nar .byte z42)), (.int (nar .byte z38)), (.int (nar .byte z25)), (.int (nar .byte z21))] (.int 0) := V82
  have N82 := Fr.snoc X82 N77 geo
  obtain ⟨lc82, X82, N82⟩ := own_gen X82 N82
  have O82 := O77.wr W82 geo
  have K82 : Keep h0 h82 [o3] := K77.wr W82 (Or.inl (List.mem_of_getElem? (i := 0) rfl))
  refine step st82 ?_
  refine step (fun t k => XS.iload X82.here hx rfl (B d12_157) (by rw [hls79]; rfl) k) ?_
  refine step (fun t k => XS.bipush X82.here hx rfl (B d12_159) k) ?_
  show G T82 (mkF m 161 ls79 [(.int (-9)), (.int y62)])
  have ho83 := own_yr (b := y62) (by decide : (-9 : Int32).toInt = -9) (by omega)
  refine step (fun t k => XS.icmpNo X82.here hx rfl (B d12_161) rfl (tlt ho83).2.1 k) ?_
  refine step (fun t k => XS.aloadN X82.here hx rfl (B d12_164) (by rw [hls79]; rfl) rfl k) ?_
  obtain ⟨ls84, hls84⟩ := own_sl #[vL x0, s_, vI 10, vR o3, u_, u_, vI r65, vI 0, vI 0, vI y62, vI y62]
  refine step (fun t k => XS.iinc X82.here hx rfl (B d12_165) (by rw [hls79]; rfl) (l' := ls84) (by rw [hls79, hls84]; rfl) k) ?_
  refine step (fun t k => XS.iload X82.here hx rfl (B d12_168) (by rw [hls84]; rfl) k) ?_
  obtain ⟨T85, X85, e85, st85⟩ := getS2 X82 hx hZ hown (host := "") (Or.inl (ww185 hw)) Via.refl e82 (Sta.ext O82.2 ST.k12) (g := (mkF m 170 ls84 [(.int 0), (.ref o3)])) rfl (B d12_170)
  refine step st85 ?_
  refine step (fun t k => XS.iload X85.here hx rfl (B d12_173) (by rw [hls84]; rfl) k) ?_
  refine step (fun t k => XS.ineg X85.here hx rfl (B d12_175) rfl k) ?_
  have hj86 := own_hj (own_ng y62 (by omega))
  obtain ⟨z86, hz86, st86⟩ := own_ldDig X85 hx hZ e85 ST.k24 O82.2 hj86 (g := (mkF m 176 ls84 [(.int (-y62)), (.ref w_6), (.int 0), (.ref o3)])) rfl rfl (B d12_176)
  refine step st86 ?_
  obtain ⟨T87, h87, X87, e87, W87, V87, st87⟩ := own_stB X85 hx hZ e85 V82 (j := (0 : Int32)) (by decide) (i := 0) rfl (by show 0 < 10; decide) (g := (mkF m 177 ls84 [(.int z86), (.int 0), (.ref o3)])) rfl rfl (B d12_177)
  replace V87 : Arv Z h87 o3 kk .byte (10 : Int32) [(.int (nar .byte z86)), (.int (nar .byte z81)), (.int (nar .byte z76)), (.int (nar .byte z72)), (.int (nar .byte z59)), (.int (nar .byte z55)), (.int (nar .byte z42)), (.int (nar .byte z38)), (.int (nar .byte z25)), (.int (nar .byte z21))] (.int 0) := V87
  have N87 := Fr.snoc X87 N82 geo
  obtain ⟨lc87, X87, N87⟩ := own_gen X87 N87
  have K87 : Keep h0 h87 [o3] := K82.wr W87 (Or.inl (List.mem_of_getElem? (i := 0) rfl))
  refine step st87 ?_
  refine step (fun t k => XS.iload X87.here hx rfl (B d12_178) (by rw [hls84]; rfl) k) ?_
  refine step (fun t k => XS.ifYes X87.here hx rfl (pc0 := 180) (pc' := 192) rfl (B d12_180) rfl ((if0 _ _).trans (teq (by decide : (0 : Int32) = (0 : Int32))).1) (by decide) (by decide) k) ?_
  refine step (fun t k => XS.iload X87.here hx rfl (B d12_192) (by rw [hls84]; rfl) k) ?_
  exact ret (v := some (.int 0)) X87 (fun h => by rw [Bd.returns] at h; cases h) (fun fs hr => retI X87 hx Bd.returns (B d12_194) hr) e87 ⟨(nar .byte z86), (nar .byte z81), (nar .byte z76), (nar .byte z72), (nar .byte z59), (nar .byte z55), (nar .byte z42), (nar .byte z38), (nar .byte z25), (nar .byte z21), rfl, N87, K87, V87, hz21⟩ (by decide) (by decide)
theorem d12_32 : decode qc12 32 = .ok (.lload_n 0, 1) := by decide +kernel
theorem d12_33 : decode qc12 33 = .ok (.ldc2_w 131, 3) := by decide +kernel
theorem ww188 (hw : HW Z a0) : Cond.before (Cond.constantLong cn_3 131 (100 : Int64)) a0 Z = true := own_w hw 188 rfl
theorem d12_36 : decode qc12 36 = .ok (.ldiv, 1) := by decide +kernel
theorem d12_37 : decode qc12 37 = .ok (.lstore 4, 2) := by decide +kernel
theorem d12_39 : decode qc12 39 = .ok (.lload 4, 2) := by decide +kernel
theorem d12_41 : decode qc12 41 = .ok (.ldc2_w 131, 3) := by decide +kernel
theorem d12_44 : decode qc12 44 = .ok (.lmul, 1) := by decide +kernel
theorem d12_45 : decode qc12 45 = .ok (.lload_n 0, 1) := by decide +kernel
theorem d12_46 : decode qc12 46 = .ok (.lsub, 1) := by decide +kernel
theorem d12_47 : decode qc12 47 = .ok (.l2i, 1) := by decide +kernel
theorem d12_48 : decode qc12 48 = .ok (.istore 6, 2) := by decide +kernel
theorem d12_50 : decode qc12 50 = .ok (.lload 4, 2) := by decide +kernel
theorem d12_52 : decode qc12 52 = .ok (.lstore_n 0, 1) := by decide +kernel
theorem d12_53 : decode qc12 53 = .ok (.aload_n 3, 1) := by decide +kernel
theorem d12_54 : decode qc12 54 = .ok (.iinc 7 (-1), 3) := by decide +kernel
theorem d12_57 : decode qc12 57 = .ok (.iload 7, 2) := by decide +kernel
theorem d12_59 : decode qc12 59 = .ok (.getstatic 133, 3) := by decide +kernel
theorem d12_62 : decode qc12 62 = .ok (.iload 6, 2) := by decide +kernel
theorem d12_64 : decode qc12 64 = .ok (.baload, 1) := by decide +kernel
theorem d12_65 : decode qc12 65 = .ok (.bastore, 1) := by decide +kernel
theorem d12_66 : decode qc12 66 = .ok (.aload_n 3, 1) := by decide +kernel
theorem d12_67 : decode qc12 67 = .ok (.iinc 7 (-1), 3) := by decide +kernel
theorem d12_70 : decode qc12 70 = .ok (.iload 7, 2) := by decide +kernel
theorem d12_72 : decode qc12 72 = .ok (.getstatic 137, 3) := by decide +kernel
theorem d12_75 : decode qc12 75 = .ok (.iload 6, 2) := by decide +kernel
theorem d12_77 : decode qc12 77 = .ok (.baload, 1) := by decide +kernel
theorem d12_78 : decode qc12 78 = .ok (.bastore, 1) := by decide +kernel
theorem d12_79 : decode qc12 79 = .ok (.goto (-55), 3) := by decide +kernel
abbrev rr_gc10n : Room := { frames := 0, cells := 0, slots := 0, locals := 0 }
theorem ef_gc10n (m : MethodId) (q0 : Int64) (o3 : Addr) : entryFrame m #[(.long q0), (.int 11), (.ref o3)] 11 = mkF m 0 #[vL q0, s_, vI 11, vR o3, u_, u_, u_, u_, u_, u_, u_] [] := by first | (simp [entryFrame, mkF, argsToLocals, Value.category]; done) | rfl
def Q_gc10n (Z : State) (w_0 : Addr) (w_1 : Addr) (w_2 : Addr) (w_3 : Addr) (w_4 : Addr) (w_5 : Addr) (w_6 : Addr) (w_7 : Int32) (w_8 : Value) (q0 : Int64) (o3 : Addr) (kk : ClassId) (h0 : Heap) (n0 : Nat) (v : Option Value) (h : Heap) (L : List Loc) : Prop := ∃ c0 : Int32, ∃ c1 : Int32, ∃ c2 : Int32, ∃ c3 : Int32, ∃ c4 : Int32, ∃ c5 : Int32, ∃ c6 : Int32, ∃ c7 : Int32, ∃ c8 : Int32, ∃ c9 : Int32, ∃ c10 : Int32, v = some (.int 0) ∧ Fr n0 L ∧ Keep h0 h [o3] ∧ Arv Z h o3 kk .byte (11 : Int32) [(.int c0), (.int c1), (.int c2), (.int c3), (.int c4), (.int c5), (.int c6), (.int c7), (.int c8), (.int c9), (.int c10)] (.int 0) ∧ ¬ (c10 &&& (255 : Int32)) = (32 : Int32)
theorem rm_gc10n (l : Launch) (Z : State) (a0 : Array Value) (hw : HW Z a0) (ws : List Jvm.Cond) (w_0 : Addr) (w_1 : Addr) (w_2 : Addr) (w_3 : Addr) (w_4 : Addr) (w_5 : Addr) (w_6 : Addr) (w_7 : Int32) (w_8 : Value) (q0 : Int64) (o3 : Addr) (kk : ClassId) (h0 : Heap) (n0 : Nat) (Z0 : n0 ≤ h0.size) (ST : own_St Z w_0 w_1 w_2 w_3 w_4 w_5 w_6 w_7 w_8) (O0 : Old Z n0 h0) (hrg : -2147483648 ≤ q0.toInt ∧ q0.toInt ≤ 2147483647) (hsg : q0 < (0 : Int64)) (hhi : ¬ ((-1000000000 : Int64) < q0)) (Va : Arv Z h0 o3 kk .byte (11 : Int32) [(.int 0), (.int 0), (.int 0), (.int 0), (.int 0), (.int 0), (.int 0), (.int 0), (.int 0), (.int 0), (.int 0)] (.int 0)) (geo : n0 ≤ o3) :
    MetFree l y_12 (head1 (Jvm.Cond.code y_12 jdk_35_method_14_code 11 (some .int) :: ws) rr_gc10n) (fun a U => a = #[(.long q0), (.int 11), (.ref o3)] ∧ Z.Warmed39 U.vm ∧ U.heap = h0) (fun _ _ _ _ _ => True) (fun _ U o U' => ∃ v L, o = .returned v ∧ Q_gc10n Z w_0 w_1 w_2 w_3 w_4 w_5 w_6 w_7 w_8 q0 o3 kk h0 n0 v U'.heap L ∧ FrameEnd U o U' L rr_gc10n.cells rr_gc10n.slots) := by
  refine MetFree.of_bodySF (plainFor_of_name pn_5) hisR ?_
  intro p e s m args below meth c s₁ Bd hml0 hP hK
  obtain ⟨rfl, hZ, hh⟩ := hP
  have hx := Bd.exec
  have hby := Bd.bytes
  have B := @hb _ _ hby
  have hml : c.maxLocals = 11 := hml0
  have hown : s.vm.findClass cn_3 = some m.cls := findClass_of_methodNamed Bd.named
  have X0 : Stand p l e rr_gc10n s m #[(.long q0), (.int 11), (.ref o3)] below meth c s₁ [] 0 0 := Stand.of_body Bd
  have e0 : s₁.heap = h0 := by rw [← hh, Bd.state]; rfl
  have N0 := Fr.nil n0
  have K0 : Keep h0 h0 [o3] := Keep.refl _ _
  obtain ⟨G, step, ret, fin⟩ := own_openX X0 (rr_gc10n.cells) (rr_gc10n.slots) (Q_gc10n Z w_0 w_1 w_2 w_3 w_4 w_5 w_6 w_7 w_8 q0 o3 kk h0 n0) Bd.notSynchronized
  refine fin (g := entryFrame m #[(.long q0), (.int 11), (.ref o3)] 11) ?_
  rw [ef_gc10n m q0 o3]
  obtain ⟨ls0, hls0⟩ := own_sl #[vL q0, s_, vI 11, vR o3, u_, u_, u_, u_, u_, u_, u_]
  suffices hG0 : G s₁ (mkF m 0 ls0 []) by rw [hls0] at hG0; exact hG0
  refine step (fun t k => XS.iloadN X0.here hx rfl (B d12_0) (by rw [hls0]; rfl) k) ?_
  obtain ⟨ls1, hls1⟩ := own_sl #[vL q0, s_, vI 11, vR o3, u_, u_, u_, vI 11, u_, u_, u_]
  refine step (fun t k => XS.istore X0.here hx rfl (B d12_1) rfl (l' := ls1) (by rw [hls0, hls1]; rfl) k) ?_
  refine step (fun t k => XS.lloadN X0.here hx rfl (B d12_3) (by rw [hls1]; rfl) k) ?_
  refine step (fun t k => XS.lconst X0.here hx rfl (B d12_4) k) ?_
  refine step (fun t k => XS.lcmp X0.here hx rfl (B d12_5) rfl k) ?_
  refine step (fun t k => XS.ifNo X0.here hx rfl (B d12_6) rfl ((if0 _ _).trans (tlt ((lw_lt _ _).mpr hsg)).2.1) k) ?_
  show G s₁ (mkF m 9 ls1 [])
  refine step (fun t k => XS.iconst X0.here hx rfl (B d12_9) k) ?_
  refine step (fun t k => XS.goto X0.here hx rfl (pc0 := 10) (pc' := 14) rfl (B d12_10) (by decide) (by decide) k) ?_
  obtain ⟨ls2, hls2⟩ := own_sl #[vL q0, s_, vI 11, vR o3, u_, u_, u_, vI 11, vI 1, u_, u_]
  refine step (fun t k => XS.istore X0.here hx rfl (B d12_14) rfl (l' := ls2) (by rw [hls1, hls2]; rfl) k) ?_
  refine step (fun t k => XS.iload X0.here hx rfl (B d12_16) (by rw [hls2]; rfl) k) ?_
  refine step (fun t k => XS.ifYes X0.here hx rfl (pc0 := 18) (pc' := 24) rfl (B d12_18) rfl ((if0 _ _).trans (feq (by decide : ¬ ((1 : Int32) = (0 : Int32)))).2) (by decide) (by decide) k) ?_
  have bd3 : -2147483649 < q0.toInt ∧ q0.toInt ≤ -1000000000 := by
    have k0 : (0 : Int64).toInt = 0 := by decide
    rw [own_xltL] at hsg
    have k2 : (-1000000000 : Int64).toInt = -1000000000 := by decide
    rw [own_xltL] at hhi
    omega
  refine step (fun t k => XS.lloadN X0.here hx rfl (B d12_24) (by rw [hls2]; rfl) k) ?_
  show G s₁ (mkF m 25 ls2 [(.long q0)])
  have q4 := X0.ldc2Long hx hown (mvT hZ (ww97 hw)) (g := (mkF m 25 ls2 [(.long q0)])) rfl (B d12_25)
  refine step q4 ?_
  refine step (fun t k => XS.lcmp X0.here hx rfl (B d12_28) rfl k) ?_
  by_cases hc5 : (-2147483648 : Int64) < q0
  · skip
    refine step (fun t k => XS.ifYes X0.here hx rfl (pc0 := 29) (pc' := 82) rfl (B d12_29) rfl ((if0 _ _).trans (tlt ((lw_gt _ _).mpr hc5)).2.2.1) (by decide) (by decide) k) ?_
    refine step (fun t k => XS.lloadN X0.here hx rfl (B d12_82) (by rw [hls2]; rfl) k) ?_
    refine step (fun t k => XS.l2i X0.here hx rfl (B d12_83) rfl k) ?_
    show G s₁ (mkF m 84 ls2 [(.int (q0.toInt32))])
    obtain ⟨y6, hy6⟩ := own_ex (q0.toInt32)
    rw [← hy6]
    have bd7 : -2147483649 < y6.toInt ∧ y6.toInt ≤ -1000000000 := by
      rw [hy6]
      have c1 := c_l2i q0
      have r1 := rng32 q0.toInt32
      omega
    obtain ⟨ls8, hls8⟩ := own_sl #[vL q0, s_, vI 11, vR o3, u_, u_, u_, vI 11, vI 1, u_, vI y6]
    refine step (fun t k => XS.istore X0.here hx rfl (B d12_84) rfl (l' := ls8) (by rw [hls2, hls8]; rfl) k) ?_
    refine step (fun t k => XS.iload X0.here hx rfl (B d12_86) (by rw [hls8]; rfl) k) ?_
    refine step (fun t k => XS.bipush X0.here hx rfl (B d12_88) k) ?_
    show G s₁ (mkF m 90 ls8 [(.int (-100)), (.int y6)])
    have ho9 := own_n (b := y6) (by decide : (-100 : Int32).toInt = -100) (by omega)
    refine step (fun t k => XS.icmpNo X0.here hx rfl (B d12_90) rfl (flt ho9).2.2.1 k) ?_
    refine step (fun t k => XS.iload X0.here hx rfl (B d12_93) (by rw [hls8]; rfl) k) ?_
    refine step (fun t k => XS.bipush X0.here hx rfl (B d12_95) k) ?_
    refine step (fun t k => XS.idiv X0.here hx rfl (B d12_97) rfl (by decide) k) ?_
    show G s₁ (mkF m 98 ls8 [(.int (y6 / (100 : Int32)))])
    obtain ⟨y10, hy10⟩ := own_ex (y6 / (100 : Int32))
    rw [← hy10]
    have bq11 := own_bq hy10 (by omega)
    obtain ⟨ls12, hls12⟩ := own_sl #[vL q0, s_, vI 11, vR o3, u_, u_, u_, vI 11, vI 1, vI y10, vI y6]
    refine step (fun t k => XS.istore X0.here hx rfl (B d12_98) rfl (l' := ls12) (by rw [hls8, hls12]; rfl) k) ?_
    refine step (fun t k => XS.iload X0.here hx rfl (B d12_100) (by rw [hls12]; rfl) k) ?_
    refine step (fun t k => XS.bipush X0.here hx rfl (B d12_102) k) ?_
    refine step (fun t k => XS.imul X0.here hx rfl (B d12_104) rfl k) ?_
    refine step (fun t k => XS.iload X0.here hx rfl (B d12_105) (by rw [hls12]; rfl) k) ?_
    refine step (fun t k => XS.isub X0.here hx rfl (B d12_107) rfl k) ?_
    show G s₁ (mkF m 108 ls12 [(.int ((y10 * (100 : Int32)) - y6))])
    obtain ⟨r13, hr13⟩ := own_ex ((y10 * (100 : Int32)) - y6)
    rw [← hr13]
    have br14 := own_br bq11 (by omega) hr13
    have bd15 : -100000000 < y10.toInt ∧ y10.toInt ≤ -10000000 := by
      omega
    obtain ⟨ls16, hls16⟩ := own_sl #[vL q0, s_, vI 11, vR o3, u_, u_, vI r13, vI 11, vI 1, vI y10, vI y6]
    refine step (fun t k => XS.istore X0.here hx rfl (B d12_108) rfl (l' := ls16) (by rw [hls12, hls16]; rfl) k) ?_
    refine step (fun t k => XS.iload X0.here hx rfl (B d12_110) (by rw [hls16]; rfl) k) ?_
    obtain ⟨ls17, hls17⟩ := own_sl #[vL q0, s_, vI 11, vR o3, u_, u_, vI r13, vI 11, vI 1, vI y10, vI y10]
    refine step (fun t k => XS.istore X0.here hx rfl (B d12_112) rfl (l' := ls17) (by rw [hls16, hls17]; rfl) k) ?_
    refine step (fun t k => XS.aloadN X0.here hx rfl (B d12_114) (by rw [hls17]; rfl) rfl k) ?_
    obtain ⟨ls18, hls18⟩ := own_sl #[vL q0, s_, vI 11, vR o3, u_, u_, vI r13, vI 10, vI 1, vI y10, vI y10]
    refine step (fun t k => XS.iinc X0.here hx rfl (B d12_115) (by rw [hls17]; rfl) (l' := ls18) (by rw [hls17, hls18]; rfl) k) ?_
    refine step (fun t k => XS.iload X0.here hx rfl (B d12_118) (by rw [hls18]; rfl) k) ?_
    show G s₁ (mkF m 120 ls18 [(.int 10), (.ref o3)])
    obtain ⟨T19, X19, e19, st19⟩ := getS2 X0 hx hZ hown (host := "") (Or.inl (ww98 hw)) Via.refl e0 (Sta.ext O0.2 ST.k10) (g := (mkF m 120 ls18 [(.int 10), (.ref o3)])) rfl (B d12_120)
    refine step st19 ?_
    refine step (fun t k => XS.iload X19.here hx rfl (B d12_123) (by rw [hls18]; rfl) k) ?_
    have hj20 := own_hj br14
    obtain ⟨z20, hz20, st20⟩ := own_ldDig X19 hx hZ e19 ST.k23 O0.2 hj20 (g := (mkF m 125 ls18 [(.int r13), (.ref w_5), (.int 10), (.ref o3)])) rfl rfl (B d12_125)
    refine step st20 ?_
    obtain ⟨T21, h21, X21, e21, W21, V21, st21⟩ := own_stB X19 hx hZ e19 Va (j := (10 : Int32)) (by decide) (i := 10) rfl (by show 10 < 11; decide) (g := (mkF m 126 ls18 [(.int z20), (.int 10), (.ref o3)])) rfl rfl (B d12_126)
    replace V21 : Arv Z h21 o3 kk .byte (11 : Int32) [(.int 0), (.int 0), (.int 0), (.int 0), (.int 0), (.int 0), (.int 0), (.int 0), (.int 0), (.int 0), (.int (nar .byte z20))] (.int 0) := V21
    have N21 := Fr.snoc X21 N0 geo
    obtain ⟨lc21, X21, N21⟩ := own_gen X21 N21
    have O21 := O0.wr W21 geo
    have K21 : Keep h0 h21 [o3] := K0.wr W21 (Or.inl (List.mem_of_getElem? (i := 0) rfl))
    refine step st21 ?_
    refine step (fun t k => XS.aloadN X21.here hx rfl (B d12_127) (by rw [hls18]; rfl) rfl k) ?_
    obtain ⟨ls22, hls22⟩ := own_sl #[vL q0, s_, vI 11, vR o3, u_, u_, vI r13, vI 9, vI 1, vI y10, vI y10]
    refine step (fun t k => XS.iinc X21.here hx rfl (B d12_128) (by rw [hls18]; rfl) (l' := ls22) (by rw [hls18, hls22]; rfl) k) ?_
    refine step (fun t k => XS.iload X21.here hx rfl (B d12_131) (by rw [hls22]; rfl) k) ?_
    obtain ⟨T23, X23, e23, st23⟩ := getS2 X21 hx hZ hown (host := "") (Or.inl (ww185 hw)) Via.refl e21 (Sta.ext O21.2 ST.k12) (g := (mkF m 133 ls22 [(.int 9), (.ref o3)])) rfl (B d12_133)
    refine step st23 ?_
    refine step (fun t k => XS.iload X23.here hx rfl (B d12_136) (by rw [hls22]; rfl) k) ?_
    have hj24 := own_hj br14
    obtain ⟨z24, hz24, st24⟩ := own_ldDig X23 hx hZ e23 ST.k24 O21.2 hj24 (g := (mkF m 138 ls22 [(.int r13), (.ref w_6), (.int 9), (.ref o3)])) rfl rfl (B d12_138)
    refine step st24 ?_
    obtain ⟨T25, h25, X25, e25, W25, V25, st25⟩ := own_stB X23 hx hZ e23 V21 (j := (9 : Int32)) (by decide) (i := 9) rfl (by show 9 < 11; decide) (g := (mkF m 139 ls22 [(.int z24), (.int 9), (.ref o3)])) rfl rfl (B d12_139)
    replace V25 : Arv Z h25 o3 kk .byte (11 : Int32) [(.int 0), (.int 0), (.int 0), (.int 0), (.int 0), (.int 0), (.int 0), (.int 0), (.int 0), (.int (nar .byte z24)), (.int (nar .byte z20))] (.int 0) := V25
    have N25 := Fr.snoc X25 N21 geo
    obtain ⟨lc25, X25, N25⟩ := own_gen X25 N25
    have O25 := O21.wr W25 geo
    have K25 : Keep h0 h25 [o3] := K21.wr W25 (Or.inl (List.mem_of_getElem? (i := 0) rfl))
    refine step st25 ?_
    refine step (fun t k => XS.goto X25.here hx rfl (pc0 := 140) (pc' := 86) rfl (B d12_140) (by decide) (by decide) k) ?_
    refine step (fun t k => XS.iload X25.here hx rfl (B d12_86) (by rw [hls22]; rfl) k) ?_
    refine step (fun t k => XS.bipush X25.here hx rfl (B d12_88) k) ?_
    show G T25 (mkF m 90 ls22 [(.int (-100)), (.int y10)])
    have ho26 := own_n (b := y10) (by decide : (-100 : Int32).toInt = -100) (by omega)
    refine step (fun t k => XS.icmpNo X25.here hx rfl (B d12_90) rfl (flt ho26).2.2.1 k) ?_
    refine step (fun t k => XS.iload X25.here hx rfl (B d12_93) (by rw [hls22]; rfl) k) ?_
    refine step (fun t k => XS.bipush X25.here hx rfl (B d12_95) k) ?_
    refine step (fun t k => XS.idiv X25.here hx rfl (B d12_97) rfl (by decide) k) ?_
    show G T25 (mkF m 98 ls22 [(.int (y10 / (100 : Int32)))])
    obtain ⟨y27, hy27⟩ := own_ex (y10 / (100 : Int32))
    rw [← hy27]
    have bq28 := own_bq hy27 (by omega)
    obtain ⟨ls29, hls29⟩ := own_sl #[vL q0, s_, vI 11, vR o3, u_, u_, vI r13, vI 9, vI 1, vI y27, vI y10]
    refine step (fun t k => XS.istore X25.here hx rfl (B d12_98) rfl (l' := ls29) (by rw [hls22, hls29]; rfl) k) ?_
    refine step (fun t k => XS.iload X25.here hx rfl (B d12_100) (by rw [hls29]; rfl) k) ?_
    refine step (fun t k => XS.bipush X25.here hx rfl (B d12_102) k) ?_
    refine step (fun t k => XS.imul X25.here hx rfl (B d12_104) rfl k) ?_
    refine step (fun t k => XS.iload X25.here hx rfl (B d12_105) (by rw [hls29]; rfl) k) ?_
    refine step (fun t k => XS.isub X25.here hx rfl (B d12_107) rfl k) ?_
    show G T25 (mkF m 108 ls29 [(.int ((y27 * (100 : Int32)) - y10))])
    obtain ⟨r30, hr30⟩ := own_ex ((y27 * (100 : Int32)) - y10)
    rw [← hr30]
    have br31 := own_br bq28 (by omega) hr30
    have bd32 : -1000000 < y27.toInt ∧ y27.toInt ≤ -100000 := by
      omega
    obtain ⟨ls33, hls33⟩ := own_sl #[vL q0, s_, vI 11, vR o3, u_, u_, vI r30, vI 9, vI 1, vI y27, vI y10]
    refine step (fun t k => XS.istore X25.here hx rfl (B d12_108) rfl (l' := ls33) (by rw [hls29, hls33]; rfl) k) ?_
    refine step (fun t k => XS.iload X25.here hx rfl (B d12_110) (by rw [hls33]; rfl) k) ?_
    obtain ⟨ls34, hls34⟩ := own_sl #[vL q0, s_, vI 11, vR o3, u_, u_, vI r30, vI 9, vI 1, vI y27, vI y27]
    refine step (fun t k => XS.istore X25.here hx rfl (B d12_112) rfl (l' := ls34) (by rw [hls33, hls34]; rfl) k) ?_
    refine step (fun t k => XS.aloadN X25.here hx rfl (B d12_114) (by rw [hls34]; rfl) rfl k) ?_
    obtain ⟨ls35, hls35⟩ := own_sl #[vL q0, s_, vI 11, vR o3, u_, u_, vI r30, vI 8, vI 1, vI y27, vI y27]
    refine step (fun t k => XS.iinc X25.here hx rfl (B d12_115) (by rw [hls34]; rfl) (l' := ls35) (by rw [hls34, hls35]; rfl) k) ?_
    refine step (fun t k => XS.iload X25.here hx rfl (B d12_118) (by rw [hls35]; rfl) k) ?_
    show G T25 (mkF m 120 ls35 [(.int 8), (.ref o3)])
    obtain ⟨T36, X36, e36, st36⟩ := getS2 X25 hx hZ hown (host := "") (Or.inl (ww98 hw)) Via.refl e25 (Sta.ext O25.2 ST.k10) (g := (mkF m 120 ls35 [(.int 8), (.ref o3)])) rfl (B d12_120)
    refine step st36 ?_
    refine step (fun t k => XS.iload X36.here hx rfl (B d12_123) (by rw [hls35]; rfl) k) ?_
    have hj37 := own_hj br31
    obtain ⟨z37, hz37, st37⟩ := own_ldDig X36 hx hZ e36 ST.k23 O25.2 hj37 (g := (mkF m 125 ls35 [(.int r30), (.ref w_5), (.int 8), (.ref o3)])) rfl rfl (B d12_125)
    refine step st37 ?_
    obtain ⟨T38, h38, X38, e38, W38, V38, st38⟩ := own_stB X36 hx hZ e36 V25 (j := (8 : Int32)) (by decide) (i := 8) rfl (by show 8 < 11; decide) (g := (mkF m 126 ls35 [(.int z37), (.int 8), (.ref o3)])) rfl rfl (B d12_126)
    replace V38 : Arv Z h38 o3 kk .byte (11 : Int32) [(.int 0), (.int 0), (.int 0), (.int 0), (.int 0), (.int 0), (.int 0), (.int 0), (.int (nar .byte z37)), (.int (nar .byte z24)), (.int (nar .byte z20))] (.int 0) := V38
    have N38 := Fr.snoc X38 N25 geo
    obtain ⟨lc38, X38, N38⟩ := own_gen X38 N38
    have O38 := O25.wr W38 geo
    have K38 : Keep h0 h38 [o3] := K25.wr W38 (Or.inl (List.mem_of_getElem? (i := 0) rfl))
    refine step st38 ?_
    refine step (fun t k => XS.aloadN X38.here hx rfl (B d12_127) (by rw [hls35]; rfl) rfl k) ?_
    obtain ⟨ls39, hls39⟩ := own_sl #[vL q0, s_, vI 11, vR o3, u_, u_, vI r30, vI 7, vI 1, vI y27, vI y27]
    refine step (fun t k => XS.iinc X38.here hx rfl (B d12_128) (by rw [hls35]; rfl) (l' := ls39) (by rw [hls35, hls39]; rfl) k) ?_
    refine step (fun t k => XS.iload X38.here hx rfl (B d12_131) (by rw [hls39]; rfl) k) ?_
    obtain ⟨T40, X40, e40, st40⟩ := getS2 X38 hx hZ hown (host := "") (Or.inl (ww185 hw)) Via.refl e38 (Sta.ext O38.2 ST.k12) (g := (mkF m 133 ls39 [(.int 7), (.ref o3)])) rfl (B d12_133)
    refine step st40 ?_
    refine step (fun t k => XS.iload X40.here hx rfl (B d12_136) (by rw [hls39]; rfl) k) ?_
    have hj41 := own_hj br31
    obtain ⟨z41, hz41, st41⟩ := own_ldDig X40 hx hZ e40 ST.k24 O38.2 hj41 (g := (mkF m 138 ls39 [(.int r30), (.ref w_6), (.int 7), (.ref o3)])) rfl rfl (B d12_138)
    refine step st41 ?_
    obtain ⟨T42, h42, X42, e42, W42, V42, st42⟩ := own_stB X40 hx hZ e40 V38 (j := (7 : Int32)) (by decide) (i := 7) rfl (by show 7 < 11; decide) (g := (mkF m 139 ls39 [(.int z41), (.int 7), (.ref o3)])) rfl rfl (B d12_139)
    replace V42 : Arv Z h42 o3 kk .byte (11 : Int32) [(.int 0), (.int 0), (.int 0), (.int 0), (.int 0), (.int 0), (.int 0), (.int (nar .byte z41)), (.int (nar .byte z37)), (.int (nar .byte z24)), (.int (nar .byte z20))] (.int 0) := V42
    have N42 := Fr.snoc X42 N38 geo
    obtain ⟨lc42, X42, N42⟩ := own_gen X42 N42
    have O42 := O38.wr W42 geo
    have K42 : Keep h0 h42 [o3] := K38.wr W42 (Or.inl (List.mem_of_getElem? (i := 0) rfl))
    refine step st42 ?_
    refine step (fun t k => XS.goto X42.here hx rfl (pc0 := 140) (pc' := 86) rfl (B d12_140) (by decide) (by decide) k) ?_
    refine step (fun t k => XS.iload X42.here hx rfl (B d12_86) (by rw [hls39]; rfl) k) ?_
    refine step (fun t k => XS.bipush X42.here hx rfl (B d12_88) k) ?_
    show G T42 (mkF m 90 ls39 [(.int (-100)), (.int y27)])
    have ho43 := own_n (b := y27) (by decide : (-100 : Int32).toInt = -100) (by omega)
    refine step (fun t k => XS.icmpNo X42.here hx rfl (B d12_90) rfl (flt ho43).2.2.1 k) ?_
    refine step (fun t k => XS.iload X42.here hx rfl (B d12_93) (by rw [hls39]; rfl) k) ?_
    refine step (fun t k => XS.bipush X42.here hx rfl (B d12_95) k) ?_
    refine step (fun t k => XS.idiv X42.here hx rfl (B d12_97) rfl (by decide) k) ?_
    show G T42 (mkF m 98 ls39 [(.int (y27 / (100 : Int32)))])
    obtain ⟨y44, hy44⟩ := own_ex (y27 / (100 : Int32))
    rw [← hy44]
    have bq45 := own_bq hy44 (by omega)
    obtain ⟨ls46, hls46⟩ := own_sl #[vL q0, s_, vI 11, vR o3, u_, u_, vI r30, vI 7, vI 1, vI y44, vI y27]
    refine step (fun t k => XS.istore X42.here hx rfl (B d12_98) rfl (l' := ls46) (by rw [hls39, hls46]; rfl) k) ?_
    refine step (fun t k => XS.iload X42.here hx rfl (B d12_100) (by rw [hls46]; rfl) k) ?_
    refine step (fun t k => XS.bipush X42.here hx rfl (B d12_102) k) ?_
    refine step (fun t k => XS.imul X42.here hx rfl (B d12_104) rfl k) ?_
    refine step (fun t k => XS.iload X42.here hx rfl (B d12_105) (by rw [hls46]; rfl) k) ?_
    refine step (fun t k => XS.isub X42.here hx rfl (B d12_107) rfl k) ?_
    show G T42 (mkF m 108 ls46 [(.int ((y44 * (100 : Int32)) - y27))])
    obtain ⟨r47, hr47⟩ := own_ex ((y44 * (100 : Int32)) - y27)
    rw [← hr47]
    have br48 := own_br bq45 (by omega) hr47
    have bd49 : -10000 < y44.toInt ∧ y44.toInt ≤ -1000 := by
      omega
    obtain ⟨ls50, hls50⟩ := own_sl #[vL q0, s_, vI 11, vR o3, u_, u_, vI r47, vI 7, vI 1, vI y44, vI y27]
    refine step (fun t k => XS.istore X42.here hx rfl (B d12_108) rfl (l' := ls50) (by rw [hls46, hls50]; rfl) k) ?_
    refine step (fun t k => XS.iload X42.here hx rfl (B d12_110) (by rw [hls50]; rfl) k) ?_
    obtain ⟨ls51, hls51⟩ := own_sl #[vL q0, s_, vI 11, vR o3, u_, u_, vI r47, vI 7, vI 1, vI y44, vI y44]
    refine step (fun t k => XS.istore X42.here hx rfl (B d12_112) rfl (l' := ls51) (by rw [hls50, hls51]; rfl) k) ?_
    refine step (fun t k => XS.aloadN X42.here hx rfl (B d12_114) (by rw [hls51]; rfl) rfl k) ?_
    obtain ⟨ls52, hls52⟩ := own_sl #[vL q0, s_, vI 11, vR o3, u_, u_, vI r47, vI 6, vI 1, vI y44, vI y44]
    refine step (fun t k => XS.iinc X42.here hx rfl (B d12_115) (by rw [hls51]; rfl) (l' := ls52) (by rw [hls51, hls52]; rfl) k) ?_
    refine step (fun t k => XS.iload X42.here hx rfl (B d12_118) (by rw [hls52]; rfl) k) ?_
    show G T42 (mkF m 120 ls52 [(.int 6), (.ref o3)])
    obtain ⟨T53, X53, e53, st53⟩ := getS2 X42 hx hZ hown (host := "") (Or.inl (ww98 hw)) Via.refl e42 (Sta.ext O42.2 ST.k10) (g := (mkF m 120 ls52 [(.int 6), (.ref o3)])) rfl (B d12_120)
    refine step st53 ?_
    refine step (fun t k => XS.iload X53.here hx rfl (B d12_123) (by rw [hls52]; rfl) k) ?_
    have hj54 := own_hj br48
    obtain ⟨z54, hz54, st54⟩ := own_ldDig X53 hx hZ e53 ST.k23 O42.2 hj54 (g := (mkF m 125 ls52 [(.int r47), (.ref w_5), (.int 6), (.ref o3)])) rfl rfl (B d12_125)
    refine step st54 ?_
    obtain ⟨T55, h55, X55, e55, W55, V55, st55⟩ := own_stB X53 hx hZ e53 V42 (j := (6 : Int32)) (by decide) (i := 6) rfl (by show 6 < 11; decide) (g := (mkF m 126 ls52 [(.int z54), (.int 6), (.ref o3)])) rfl rfl (B d12_126)
    replace V55 : Arv Z h55 o3 kk .byte (11 : Int32) [(.int 0), (.int 0), (.int 0), (.int 0), (.int 0), (.int 0), (.int (nar .byte z54)), (.int (nar .byte z41)), (.int (nar .byte z37)), (.int (nar .byte z24)), (.int (nar .byte z20))] (.int 0) := V55
    have N55 := Fr.snoc X55 N42 geo
    obtain ⟨lc55, X55, N55⟩ := own_gen X55 N55
    have O55 := O42.wr W55 geo
    have K55 : Keep h0 h55 [o3] := K42.wr W55 (Or.inl (List.mem_of_getElem? (i := 0) rfl))
    refine step st55 ?_
    refine step (fun t k => XS.aloadN X55.here hx rfl (B d12_127) (by rw [hls52]; rfl) rfl k) ?_
    obtain ⟨ls56, hls56⟩ := own_sl #[vL q0, s_, vI 11, vR o3, u_, u_, vI r47, vI 5, vI 1, vI y44, vI y44]
    refine step (fun t k => XS.iinc X55.here hx rfl (B d12_128) (by rw [hls52]; rfl) (l' := ls56) (by rw [hls52, hls56]; rfl) k) ?_
    refine step (fun t k => XS.iload X55.here hx rfl (B d12_131) (by rw [hls56]; rfl) k) ?_
    obtain ⟨T57, X57, e57, st57⟩ := getS2 X55 hx hZ hown (host := "") (Or.inl (ww185 hw)) Via.refl e55 (Sta.ext O55.2 ST.k12) (g := (mkF m 133 ls56 [(.int 5), (.ref o3)])) rfl (B d12_133)
    refine step st57 ?_
    refine step (fun t k => XS.iload X57.here hx rfl (B d12_136) (by rw [hls56]; rfl) k) ?_
    have hj58 := own_hj br48
    obtain ⟨z58, hz58, st58⟩ := own_ldDig X57 hx hZ e57 ST.k24 O55.2 hj58 (g := (mkF m 138 ls56 [(.int r47), (.ref w_6), (.int 5), (.ref o3)])) rfl rfl (B d12_138)
    refine step st58 ?_
    obtain ⟨T59, h59, X59, e59, W59, V59, st59⟩ := own_stB X57 hx hZ e57 V55 (j := (5 : Int32)) (by decide) (i := 5) rfl (by show 5 < 11; decide) (g := (mkF m 139 ls56 [(.int z58), (.int 5), (.ref o3)])) rfl rfl (B d12_139)
    replace V59 : Arv Z h59 o3 kk .byte (11 : Int32) [(.int 0), (.int 0), (.int 0), (.int 0), (.int 0), (.int (nar .byte z58)), (.int (nar .byte z54)), (.int (nar .byte z41)), (.int (nar .byte z37)), (.int (nar .byte z24)), (.int (nar .byte z20))] (.int 0) := V59
    have N59 := Fr.snoc X59 N55 geo
    obtain ⟨lc59, X59, N59⟩ := own_gen X59 N59
    have O59 := O55.wr W59 geo
    have K59 : Keep h0 h59 [o3] := K55.wr W59 (Or.inl (List.mem_of_getElem? (i := 0) rfl))
    refine step st59 ?_
    refine step (fun t k => XS.goto X59.here hx rfl (pc0 := 140) (pc' := 86) rfl (B d12_140) (by decide) (by decide) k) ?_
    refine step (fun t k => XS.iload X59.here hx rfl (B d12_86) (by rw [hls56]; rfl) k) ?_
    refine step (fun t k => XS.bipush X59.here hx rfl (B d12_88) k) ?_
    show G T59 (mkF m 90 ls56 [(.int (-100)), (.int y44)])
    have ho60 := own_n (b := y44) (by decide : (-100 : Int32).toInt = -100) (by omega)
    refine step (fun t k => XS.icmpNo X59.here hx rfl (B d12_90) rfl (flt ho60).2.2.1 k) ?_
    refine step (fun t k => XS.iload X59.here hx rfl (B d12_93) (by rw [hls56]; rfl) k) ?_
    refine step (fun t k => XS.bipush X59.here hx rfl (B d12_95) k) ?_
    refine step (fun t k => XS.idiv X59.here hx rfl (B d12_97) rfl (by decide) k) ?_
    show G T59 (mkF m 98 ls56 [(.int (y44 / (100 : Int32)))])
    obtain ⟨y61, hy61⟩ := own_ex (y44 / (100 : Int32))
    rw [← hy61]
    have bq62 := own_bq hy61 (by omega)
    obtain ⟨ls63, hls63⟩ := own_sl #[vL q0, s_, vI 11, vR o3, u_, u_, vI r47, vI 5, vI 1, vI y61, vI y44]
    refine step (fun t k => XS.istore X59.here hx rfl (B d12_98) rfl (l' := ls63) (by rw [hls56, hls63]; rfl) k) ?_
    refine step (fun t k => XS.iload X59.here hx rfl (B d12_100) (by rw [hls63]; rfl) k) ?_
    refine step (fun t k => XS.bipush X59.here hx rfl (B d12_102) k) ?_
    refine step (fun t k => XS.imul X59.here hx rfl (B d12_104) rfl k) ?_
    refine step (fun t k => XS.iload X59.here hx rfl (B d12_105) (by rw [hls63]; rfl) k) ?_
    refine step (fun t k => XS.isub X59.here hx rfl (B d12_107) rfl k) ?_
    show G T59 (mkF m 108 ls63 [(.int ((y61 * (100 : Int32)) - y44))])
    obtain ⟨r64, hr64⟩ := own_ex ((y61 * (100 : Int32)) - y44)
    rw [← hr64]
    have br65 := own_br bq62 (by omega) hr64
    have bd66 : -100 < y61.toInt ∧ y61.toInt ≤ -10 := by
      omega
    obtain ⟨ls67, hls67⟩ := own_sl #[vL q0, s_, vI 11, vR o3, u_, u_, vI r64, vI 5, vI 1, vI y61, vI y44]
    refine step (fun t k => XS.istore X59.here hx rfl (B d12_108) rfl (l' := ls67) (by rw [hls63, hls67]; rfl) k) ?_
    refine step (fun t k => XS.iload X59.here hx rfl (B d12_110) (by rw [hls67]; rfl) k) ?_
    obtain ⟨ls68, hls68⟩ := own_sl #[vL q0, s_, vI 11, vR o3, u_, u_, vI r64, vI 5, vI 1, vI y61, vI y61]
    refine step (fun t k => XS.istore X59.here hx rfl (B d12_112) rfl (l' := ls68) (by rw [hls67, hls68]; rfl) k) ?_
    refine step (fun t k => XS.aloadN X59.here hx rfl (B d12_114) (by rw [hls68]; rfl) rfl k) ?_
    obtain ⟨ls69, hls69⟩ := own_sl #[vL q0, s_, vI 11, vR o3, u_, u_, vI r64, vI 4, vI 1, vI y61, vI y61]
    refine step (fun t k => XS.iinc X59.here hx rfl (B d12_115) (by rw [hls68]; rfl) (l' := ls69) (by rw [hls68, hls69]; rfl) k) ?_
    refine step (fun t k => XS.iload X59.here hx rfl (B d12_118) (by rw [hls69]; rfl) k) ?_
    show G T59 (mkF m 120 ls69 [(.int 4), (.ref o3)])
    obtain ⟨T70, X70, e70, st70⟩ := getS2 X59 hx hZ hown (host := "") (Or.inl (ww98 hw)) Via.refl e59 (Sta.ext O59.2 ST.k10) (g := (mkF m 120 ls69 [(.int 4), (.ref o3)])) rfl (B d12_120)
    refine step st70 ?_
    refine step (fun t k => XS.iload X70.here hx rfl (B d12_123) (by rw [hls69]; rfl) k) ?_
    have hj71 := own_hj br65
    obtain ⟨z71, hz71, st71⟩ := own_ldDig X70 hx hZ e70 ST.k23 O59.2 hj71 (g := (mkF m 125 ls69 [(.int r64), (.ref w_5), (.int 4), (.ref o3)])) rfl rfl (B d12_125)
    refine step st71 ?_
    obtain ⟨T72, h72, X72, e72, W72, V72, st72⟩ := own_stB X70 hx hZ e70 V59 (j := (4 : Int32)) (by decide) (i := 4) rfl (by show 4 < 11; decide) (g := (mkF m 126 ls69 [(.int z71), (.int 4), (.ref o3)])) rfl rfl (B d12_126)
    replace V72 : Arv Z h72 o3 kk .byte (11 : Int32) [(.int 0), (.int 0), (.int 0), (.int 0), (.int (nar .byte z71)), (.int (nar .byte z58)), (.int (nar .byte z54)), (.int (nar .byte z41)), (.int (nar .byte z37)), (.int (nar .byte z24)), (.int (nar .byte z20))] (.int 0) := V72
    have N72 := Fr.snoc X72 N59 geo
    obtain ⟨lc72, X72, N72⟩ := own_gen X72 N72
    have O72 := O59.wr W72 geo
    have K72 : Keep h0 h72 [o3] := K59.wr W72 (Or.inl (List.mem_of_getElem? (i := 0) rfl))
    refine step st72 ?_
    refine step (fun t k => XS.aloadN X72.here hx rfl (B d12_127) (by rw [hls69]; rfl) rfl k) ?_
    obtain ⟨ls73, hls73⟩ := own_sl #[vL q0, s_, vI 11, vR o3, u_, u_, vI r64, vI 3, vI 1, vI y61, vI y61]
    refine step (fun t k => XS.iinc X72.here hx rfl (B d12_128) (by rw [hls69]; rfl) (l' := ls73) (by rw [hls69, hls73]; rfl) k) ?_
    refine step (fun t k => XS.iload X72.here hx rfl (B d12_131) (by rw [hls73]; rfl) k) ?_
    obtain ⟨T74, X74, e74, st74⟩ := getS2 X72 hx hZ hown (host := "") (Or.inl (ww185 hw)) Via.refl e72 (Sta.ext O72.2 ST.k12) (g := (mkF m 133 ls73 [(.int 3), (.ref o3)])) rfl (B d12_133)
    refine step st74 ?_
    refine step (fun t k => XS.iload X74.here hx rfl (B d12_136) (by rw [hls73]; rfl) k) ?_
    have hj75 := own_hj br65
    obtain ⟨z75, hz75, st75⟩ := own_ldDig X74 hx hZ e74 ST.k24 O72.2 hj75 (g := (mkF m 138 ls73 [(.int r64), (.ref w_6), (.int 3), (.ref o3)])) rfl rfl (B d12_138)
    refine step st75 ?_
    obtain ⟨T76, h76, X76, e76, W76, V76, st76⟩ := own_stB X74 hx hZ e74 V72 (j := (3 : Int32)) (by decide) (i := 3) rfl (by show 3 < 11; decide) (g := (mkF m 139 ls73 [(.int z75), (.int 3), (.ref o3)])) rfl rfl (B d12_139)
    replace V76 : Arv Z h76 o3 kk .byte (11 : Int32) [(.int 0), (.int 0), (.int 0), (.int (nar .byte z75)), (.int (nar .byte z71)), (.int (nar .byte z58)), (.int (nar .byte z54)), (.int (nar .byte z41)), (.int (nar .byte z37)), (.int (nar .byte z24)), (.int (nar .byte z20))] (.int 0) := V76
    have N76 := Fr.snoc X76 N72 geo
    obtain ⟨lc76, X76, N76⟩ := own_gen X76 N76
    have O76 := O72.wr W76 geo
    have K76 : Keep h0 h76 [o3] := K72.wr W76 (Or.inl (List.mem_of_getElem? (i := 0) rfl))
    refine step st76 ?_
    refine step (fun t k => XS.goto X76.here hx rfl (pc0 := 140) (pc' := 86) rfl (B d12_140) (by decide) (by decide) k) ?_
    refine step (fun t k => XS.iload X76.here hx rfl (B d12_86) (by rw [hls73]; rfl) k) ?_
    refine step (fun t k => XS.bipush X76.here hx rfl (B d12_88) k) ?_
    show G T76 (mkF m 90 ls73 [(.int (-100)), (.int y61)])
    have ho77 := own_y (b := y61) (by decide : (-100 : Int32).toInt = -100) (by omega)
    refine step (fun t k => XS.icmpYes X76.here hx rfl (pc0 := 90) (pc' := 143) rfl (B d12_90) rfl (tlt ho77).2.2.1 (by decide) (by decide) k) ?_
    refine step (fun t k => XS.aloadN X76.here hx rfl (B d12_143) (by rw [hls73]; rfl) rfl k) ?_
    obtain ⟨ls78, hls78⟩ := own_sl #[vL q0, s_, vI 11, vR o3, u_, u_, vI r64, vI 2, vI 1, vI y61, vI y61]
    refine step (fun t k => XS.iinc X76.here hx rfl (B d12_144) (by rw [hls73]; rfl) (l' := ls78) (by rw [hls73, hls78]; rfl) k) ?_
    refine step (fun t k => XS.iload X76.here hx rfl (B d12_147) (by rw [hls78]; rfl) k) ?_
    obtain ⟨T79, X79, e79, st79⟩ := getS2 X76 hx hZ hown (host := "") (Or.inl (ww98 hw)) Via.refl e76 (Sta.ext O76.2 ST.k10) (g := (mkF m 149 ls78 [(.int 2), (.ref o3)])) rfl (B d12_149)
    refine step st79 ?_
    refine step (fun t k => XS.iload X79.here hx rfl (B d12_152) (by rw [hls78]; rfl) k) ?_
    refine step (fun t k => XS.ineg X79.here hx rfl (B d12_154) rfl k) ?_
    have hj80 := own_hj (own_ng y61 (by omega))
    obtain ⟨z80, hz80, st80⟩ := own_ldDig X79 hx hZ e79 ST.k23 O76.2 hj80 (g := (mkF m 155 ls78 [(.int (-y61)), (.ref w_5), (.int 2), (.ref o3)])) rfl rfl (B d12_155)
    refine step st80 ?_
    obtain ⟨T81, h81, X81, e81, W81, V81, st81⟩ := own_stB X79 hx hZ e79 V76 (j := (2 : Int32)) (by decide) (i := 2) rfl (by show 2 < 11; decide) (g := (mkF m 156 ls78 [(.int z80), (.int 2), (.ref o3)])) rfl rfl (B d12_156)
    replace V81 : Arv Z h81 o3 kk .byte (11 : Int32) [(.int 0), (.int 0), (.int (nar .byte z80)), (.int (nar .byte z75)), (.int (nar .byte z71)), (.int (nar .byte z58)), (.int (nar .byte z54)), (.int (nar .byte z41)), (.int (nar .byte z37)), (.int (nar .byte z24)), (.int (nar .byte z20))] (.int 0) := V81
    have N81 := Fr.snoc X81 N76 geo
    obtain ⟨lc81, X81, N81⟩ := own_gen X81 N81
    have O81 := O76.wr W81 geo
    have K81 : Keep h0 h81 [o3] := K76.wr W81 (Or.inl (List.mem_of_getElem? (i := 0) rfl))
    refine step st81 ?_
    refine step (fun t k => XS.iload X81.here hx rfl (B d12_157) (by rw [hls78]; rfl) k) ?_
    refine step (fun t k => XS.bipush X81.here hx rfl (B d12_159) k) ?_
    show G T81 (mkF m 161 ls78 [(.int (-9)), (.int y61)])
    have ho82 := own_yr (b := y61) (by decide : (-9 : Int32).toInt = -9) (by omega)
    refine step (fun t k => XS.icmpNo X81.here hx rfl (B d12_161) rfl (tlt ho82).2.1 k) ?_
    refine step (fun t k => XS.aloadN X81.here hx rfl (B d12_164) (by rw [hls78]; rfl) rfl k) ?_
    obtain ⟨ls83, hls83⟩ := own_sl #[vL q0, s_, vI 11, vR o3, u_, u_, vI r64, vI 1, vI 1, vI y61, vI y61]
    refine step (fun t k => XS.iinc X81.here hx rfl (B d12_165) (by rw [hls78]; rfl) (l' := ls83) (by rw [hls78, hls83]; rfl) k) ?_
    refine step (fun t k => XS.iload X81.here hx rfl (B d12_168) (by rw [hls83]; rfl) k) ?_
    obtain ⟨T84, X84, e84, st84⟩ := getS2 X81 hx hZ hown (host := "") (Or.inl (ww185 hw)) Via.refl e81 (Sta.ext O81.2 ST.k12) (g := (mkF m 170 ls83 [(.int 1), (.ref o3)])) rfl (B d12_170)
    refine step st84 ?_
    refine step (fun t k => XS.iload X84.here hx rfl (B d12_173) (by rw [hls83]; rfl) k) ?_
    refine step (fun t k => XS.ineg X84.here hx rfl (B d12_175) rfl k) ?_
    have hj85 := own_hj (own_ng y61 (by omega))
    obtain ⟨z85, hz85, st85⟩ := own_ldDig X84 hx hZ e84 ST.k24 O81.2 hj85 (g := (mkF m 176 ls83 [(.int (-y61)), (.ref w_6), (.int 1), (.ref o3)])) rfl rfl (B d12_176)
    refine step st85 ?_
    obtain ⟨T86, h86, X86, e86, W86, V86, st86⟩ := own_stB X84 hx hZ e84 V81 (j := (1 : Int32)) (by decide) (i := 1) rfl (by show 1 < 11; decide) (g := (mkF m 177 ls83 [(.int z85), (.int 1), (.ref o3)])) rfl rfl (B d12_177)
    replace V86 : Arv Z h86 o3 kk .byte (11 : Int32) [(.int 0), (.int (nar .byte z85)), (.int (nar .byte z80)), (.int (nar .byte z75)), (.int (nar .byte z71)), (.int (nar .byte z58)), (.int (nar .byte z54)), (.int (nar .byte z41)), (.int (nar .byte z37)), (.int (nar .byte z24)), (.int (nar .byte z20))] (.int 0) := V86
    have N86 := Fr.snoc X86 N81 geo
    obtain ⟨lc86, X86, N86⟩ := own_gen X86 N86
    have K86 : Keep h0 h86 [o3] := K81.wr W86 (Or.inl (List.mem_of_getElem? (i := 0) rfl))
    refine step st86 ?_
    refine step (fun t k => XS.iload X86.here hx rfl (B d12_178) (by rw [hls83]; rfl) k) ?_
    refine step (fun t k => XS.ifNo X86.here hx rfl (B d12_180) rfl ((if0 _ _).trans (feq (by decide : ¬ ((1 : Int32) = (0 : Int32)))).1) k) ?_
    refine step (fun t k => XS.aloadN X86.here hx rfl (B d12_183) (by rw [hls83]; rfl) rfl k) ?_
    obtain ⟨ls87, hls87⟩ := own_sl #[vL q0, s_, vI 11, vR o3, u_, u_, vI r64, vI 0, vI 1, vI y61, vI y61]
    refine step (fun t k => XS.iinc X86.here hx rfl (B d12_184) (by rw [hls83]; rfl) (l' := ls87) (by rw [hls83, hls87]; rfl) k) ?_
    refine step (fun t k => XS.iload X86.here hx rfl (B d12_187) (by rw [hls87]; rfl) k) ?_
    show G T86 (mkF m 189 ls87 [(.int 0), (.ref o3)])
    refine step (fun t k => XS.bipush X86.here hx rfl (B d12_189) k) ?_
    show G T86 (mkF m 191 ls87 [(.int 45), (.int 0), (.ref o3)])
    obtain ⟨T88, h88, X88, e88, W88, V88, st88⟩ := own_stB X86 hx hZ e86 V86 (j := (0 : Int32)) (by decide) (i := 0) rfl (by show 0 < 11; decide) (g := (mkF m 191 ls87 [(.int 45), (.int 0), (.ref o3)])) rfl rfl (B d12_191)
    replace V88 : Arv Z h88 o3 kk .byte (11 : Int32) [(.int (nar .byte (45 : Int32))), (.int (nar .byte z85)), (.int (nar .byte z80)), (.int (nar .byte z75)), (.int (nar .byte z71)), (.int (nar .byte z58)), (.int (nar .byte z54)), (.int (nar .byte z41)), (.int (nar .byte z37)), (.int (nar .byte z24)), (.int (nar .byte z20))] (.int 0) := V88
    have N88 := Fr.snoc X88 N86 geo
    obtain ⟨lc88, X88, N88⟩ := own_gen X88 N88
    have K88 : Keep h0 h88 [o3] := K86.wr W88 (Or.inl (List.mem_of_getElem? (i := 0) rfl))
    refine step st88 ?_
    refine step (fun t k => XS.iload X88.here hx rfl (B d12_192) (by rw [hls87]; rfl) k) ?_
    exact ret (v := some (.int 0)) X88 (fun h => by rw [Bd.returns] at h; cases h) (fun fs hr => retI X88 hx Bd.returns (B d12_194) hr) e88 ⟨(nar .byte (45 : Int32)), (nar .byte z85), (nar .byte z80), (nar .byte z75), (nar .byte z71), (nar .byte z58), (nar .byte z54), (nar .byte z41), (nar .byte z37), (nar .byte z24), (nar .byte z20), rfl, N88, K88, V88, hz20⟩ (by decide) (by decide)
  · skip
    refine step (fun t k => XS.ifNo X0.here hx rfl (B d12_29) rfl ((if0 _ _).trans (flt (fun q => hc5 ((lw_gt _ _).mp q))).2.2.1) k) ?_
    refine step (fun t k => XS.lloadN X0.here hx rfl (B d12_32) (by rw [hls2]; rfl) k) ?_
    have q89 := X0.ldc2Long hx hown (mvT hZ (ww188 hw)) (g := (mkF m 33 ls2 [(.long q0)])) rfl (B d12_33)
    refine step q89 ?_
    refine step (fun t k => XS.ldiv X0.here hx rfl (B d12_36) rfl (by decide) k) ?_
    show G s₁ (mkF m 37 ls2 [(.long (q0 / (100 : Int64)))])
    obtain ⟨y90, hy90⟩ := own_ex (q0 / (100 : Int64))
    rw [← hy90]
    have bq91 := own_bqL hy90 (by omega)
    obtain ⟨ls92, hls92⟩ := own_sl #[vL q0, s_, vI 11, vR o3, vL y90, s_, u_, vI 11, vI 1, u_, u_]
    refine step (fun t k => XS.lstore X0.here hx rfl (B d12_37) rfl (l' := ls92) (by rw [hls2, hls92]; rfl) k) ?_
    refine step (fun t k => XS.lload X0.here hx rfl (B d12_39) (by rw [hls92]; rfl) k) ?_
    have q93 := X0.ldc2Long hx hown (mvT hZ (ww188 hw)) (g := (mkF m 41 ls92 [(.long y90)])) rfl (B d12_41)
    refine step q93 ?_
    refine step (fun t k => XS.lmul X0.here hx rfl (B d12_44) rfl k) ?_
    refine step (fun t k => XS.lloadN X0.here hx rfl (B d12_45) (by rw [hls92]; rfl) k) ?_
    refine step (fun t k => XS.lsub X0.here hx rfl (B d12_46) rfl k) ?_
    refine step (fun t k => XS.l2i X0.here hx rfl (B d12_47) rfl k) ?_
    show G s₁ (mkF m 48 ls92 [(.int (((y90 * (100 : Int64)) - q0).toInt32))])
    obtain ⟨r94, hr94⟩ := own_ex (((y90 * (100 : Int64)) - q0).toInt32)
    rw [← hr94]
    have br95 := own_brL bq91 (by omega) hr94
    have bd96 : -100000000 < y90.toInt ∧ y90.toInt ≤ -10000000 := by
      omega
    obtain ⟨ls97, hls97⟩ := own_sl #[vL q0, s_, vI 11, vR o3, vL y90, s_, vI r94, vI 11, vI 1, u_, u_]
    refine step (fun t k => XS.istore X0.here hx rfl (B d12_48) rfl (l' := ls97) (by rw [hls92, hls97]; rfl) k) ?_
    refine step (fun t k => XS.lload X0.here hx rfl (B d12_50) (by rw [hls97]; rfl) k) ?_
    obtain ⟨ls98, hls98⟩ := own_sl #[vL y90, s_, vI 11, vR o3, vL y90, s_, vI r94, vI 11, vI 1, u_, u_]
    refine step (fun t k => XS.lstoreN X0.here hx rfl (B d12_52) rfl (l' := ls98) (by rw [hls97, hls98]; rfl) k) ?_
    refine step (fun t k => XS.aloadN X0.here hx rfl (B d12_53) (by rw [hls98]; rfl) rfl k) ?_
    obtain ⟨ls99, hls99⟩ := own_sl #[vL y90, s_, vI 11, vR o3, vL y90, s_, vI r94, vI 10, vI 1, u_, u_]
    refine step (fun t k => XS.iinc X0.here hx rfl (B d12_54) (by rw [hls98]; rfl) (l' := ls99) (by rw [hls98, hls99]; rfl) k) ?_
    refine step (fun t k => XS.iload X0.here hx rfl (B d12_57) (by rw [hls99]; rfl) k) ?_
    show G s₁ (mkF m 59 ls99 [(.int 10), (.ref o3)])
    obtain ⟨T100, X100, e100, st100⟩ := getS2 X0 hx hZ hown (host := "") (Or.inl (ww98 hw)) Via.refl e0 (Sta.ext O0.2 ST.k10) (g := (mkF m 59 ls99 [(.int 10), (.ref o3)])) rfl (B d12_59)
    refine step st100 ?_
    refine step (fun t k => XS.iload X100.here hx rfl (B d12_62) (by rw [hls99]; rfl) k) ?_
    have hj101 := own_hj br95
    obtain ⟨z101, hz101, st101⟩ := own_ldDig X100 hx hZ e100 ST.k23 O0.2 hj101 (g := (mkF m 64 ls99 [(.int r94), (.ref w_5), (.int 10), (.ref o3)])) rfl rfl (B d12_64)
    refine step st101 ?_
    obtain ⟨T102, h102, X102, e102, W102, V102, st102⟩ := own_stB X100 hx hZ e100 Va (j := (10 : Int32)) (by decide) (i := 10) rfl (by show 10 < 11; decide) (g := (mkF m 65 ls99 [(.int z101), (.int 10), (.ref o3)])) rfl rfl (B d12_65)
    replace V102 : Arv Z h102 o3 kk .byte (11 : Int32) [(.int 0), (.int 0), (.int 0), (.int 0), (.int 0), (.int 0), (.int 0), (.int 0), (.int 0), (.int 0), (.int (nar .byte z101))] (.int 0) := V102
    have N102 := Fr.snoc X102 N0 geo
    obtain ⟨lc102, X102, N102⟩ := own_gen X102 N102
    have O102 := O0.wr W102 geo
    have K102 : Keep h0 h102 [o3] := K0.wr W102 (Or.inl (List.mem_of_getElem? (i := 0) rfl))
    refine step st102 ?_
    refine step (fun t k => XS.aloadN X102.here hx rfl (B d12_66) (by rw [hls99]; rfl) rfl k) ?_
    obtain ⟨ls103, hls103⟩ := own_sl #[vL y90, s_, vI 11, vR o3, vL y90, s_, vI r94, vI 9, vI 1, u_, u_]
    refine step (fun t k => XS.iinc X102.here hx rfl (B d12_67) (by rw [hls99]; rfl) (l' := ls103) (by rw [hls99, hls103]; rfl) k) ?_
    refine step (fun t k => XS.iload X102.here hx rfl (B d12_70) (by rw [hls103]; rfl) k) ?_
    obtain ⟨T104, X104, e104, st104⟩ := getS2 X102 hx hZ hown (host := "") (Or.inl (ww185 hw)) Via.refl e102 (Sta.ext O102.2 ST.k12) (g := (mkF m 72 ls103 [(.int 9), (.ref o3)])) rfl (B d12_72)
    refine step st104 ?_
    refine step (fun t k => XS.iload X104.here hx rfl (B d12_75) (by rw [hls103]; rfl) k) ?_
    have hj105 := own_hj br95
    obtain ⟨z105, hz105, st105⟩ := own_ldDig X104 hx hZ e104 ST.k24 O102.2 hj105 (g := (mkF m 77 ls103 [(.int r94), (.ref w_6), (.int 9), (.ref o3)])) rfl rfl (B d12_77)
    refine step st105 ?_
    obtain ⟨T106, h106, X106, e106, W106, V106, st106⟩ := own_stB X104 hx hZ e104 V102 (j := (9 : Int32)) (by decide) (i := 9) rfl (by show 9 < 11; decide) (g := (mkF m 78 ls103 [(.int z105), (.int 9), (.ref o3)])) rfl rfl (B d12_78)
    replace V106 : Arv Z h106 o3 kk .byte (11 : Int32) [(.int 0), (.int 0), (.int 0), (.int 0), (.int 0), (.int 0), (.int 0), (.int 0), (.int 0), (.int (nar .byte z105)), (.int (nar .byte z101))] (.int 0) := V106
    have N106 := Fr.snoc X106 N102 geo
    obtain ⟨lc106, X106, N106⟩ := own_gen X106 N106
    have O106 := O102.wr W106 geo
    have K106 : Keep h0 h106 [o3] := K102.wr W106 (Or.inl (List.mem_of_getElem? (i := 0) rfl))
    refine step st106 ?_
    refine step (fun t k => XS.goto X106.here hx rfl (pc0 := 79) (pc' := 24) rfl (B d12_79) (by decide) (by decide) k) ?_
    refine step (fun t k => XS.lloadN X106.here hx rfl (B d12_24) (by rw [hls103]; rfl) k) ?_
    have q107 := X106.ldc2Long hx hown (mvT hZ (ww97 hw)) (g := (mkF m 25 ls103 [(.long y90)])) rfl (B d12_25)
    refine step q107 ?_
    refine step (fun t k => XS.lcmp X106.here hx rfl (B d12_28) rfl k) ?_
    have ho108 := own_yL (b := y90) (by decide : (-2147483648 : Int64).toInt = -2147483648) (by omega)
    refine step (fun t k => XS.ifYes X106.here hx rfl (pc0 := 29) (pc' := 82) rfl (B d12_29) rfl ((if0 _ _).trans (tlt ((lw_gt _ _).mpr ho108)).2.2.1) (by decide) (by decide) k) ?_
    refine step (fun t k => XS.lloadN X106.here hx rfl (B d12_82) (by rw [hls103]; rfl) k) ?_
    refine step (fun t k => XS.l2i X106.here hx rfl (B d12_83) rfl k) ?_
    show G T106 (mkF m 84 ls103 [(.int (y90.toInt32))])
    obtain ⟨y109, hy109⟩ := own_ex (y90.toInt32)
    rw [← hy109]
    have bd110 : -100000000 < y109.toInt ∧ y109.toInt ≤ -10000000 := by
      rw [hy109]
      have c1 := c_l2i y90
      have r1 := rng32 y90.toInt32
      omega
    obtain ⟨ls111, hls111⟩ := own_sl #[vL y90, s_, vI 11, vR o3, vL y90, s_, vI r94, vI 9, vI 1, u_, vI y109]
    refine step (fun t k => XS.istore X106.here hx rfl (B d12_84) rfl (l' := ls111) (by rw [hls103, hls111]; rfl) k) ?_
    refine step (fun t k => XS.iload X106.here hx rfl (B d12_86) (by rw [hls111]; rfl) k) ?_
    refine step (fun t k => XS.bipush X106.here hx rfl (B d12_88) k) ?_
    show G T106 (mkF m 90 ls111 [(.int (-100)), (.int y109)])
    have ho112 := own_n (b := y109) (by decide : (-100 : Int32).toInt = -100) (by omega)
    refine step (fun t k => XS.icmpNo X106.here hx rfl (B d12_90) rfl (flt ho112).2.2.1 k) ?_
    refine step (fun t k => XS.iload X106.here hx rfl (B d12_93) (by rw [hls111]; rfl) k) ?_
    refine step (fun t k => XS.bipush X106.here hx rfl (B d12_95) k) ?_
    refine step (fun t k => XS.idiv X106.here hx rfl (B d12_97) rfl (by decide) k) ?_
    show G T106 (mkF m 98 ls111 [(.int (y109 / (100 : Int32)))])
    obtain ⟨y113, hy113⟩ := own_ex (y109 / (100 : Int32))
    rw [← hy113]
    have bq114 := own_bq hy113 (by omega)
    obtain ⟨ls115, hls115⟩ := own_sl #[vL y90, s_, vI 11, vR o3, vL y90, s_, vI r94, vI 9, vI 1, vI y113, vI y109]
    refine step (fun t k => XS.istore X106.here hx rfl (B d12_98) rfl (l' := ls115) (by rw [hls111, hls115]; rfl) k) ?_
    refine step (fun t k => XS.iload X106.here hx rfl (B d12_100) (by rw [hls115]; rfl) k) ?_
    refine step (fun t k => XS.bipush X106.here hx rfl (B d12_102) k) ?_
    refine step (fun t k => XS.imul X106.here hx rfl (B d12_104) rfl k) ?_
    refine step (fun t k => XS.iload X106.here hx rfl (B d12_105) (by rw [hls115]; rfl) k) ?_
    refine step (fun t k => XS.isub X106.here hx rfl (B d12_107) rfl k) ?_
    show G T106 (mkF m 108 ls115 [(.int ((y113 * (100 : Int32)) - y109))])
    obtain ⟨r116, hr116⟩ := own_ex ((y113 * (100 : Int32)) - y109)
    rw [← hr116]
    have br117 := own_br bq114 (by omega) hr116
    have bd118 : -1000000 < y113.toInt ∧ y113.toInt ≤ -100000 := by
      omega
    obtain ⟨ls119, hls119⟩ := own_sl #[vL y90, s_, vI 11, vR o3, vL y90, s_, vI r116, vI 9, vI 1, vI y113, vI y109]
    refine step (fun t k => XS.istore X106.here hx rfl (B d12_108) rfl (l' := ls119) (by rw [hls115, hls119]; rfl) k) ?_
    refine step (fun t k => XS.iload X106.here hx rfl (B d12_110) (by rw [hls119]; rfl) k) ?_
    obtain ⟨ls120, hls120⟩ := own_sl #[vL y90, s_, vI 11, vR o3, vL y90, s_, vI r116, vI 9, vI 1, vI y113, vI y113]
    refine step (fun t k => XS.istore X106.here hx rfl (B d12_112) rfl (l' := ls120) (by rw [hls119, hls120]; rfl) k) ?_
    refine step (fun t k => XS.aloadN X106.here hx rfl (B d12_114) (by rw [hls120]; rfl) rfl k) ?_
    obtain ⟨ls121, hls121⟩ := own_sl #[vL y90, s_, vI 11, vR o3, vL y90, s_, vI r116, vI 8, vI 1, vI y113, vI y113]
    refine step (fun t k => XS.iinc X106.here hx rfl (B d12_115) (by rw [hls120]; rfl) (l' := ls121) (by rw [hls120, hls121]; rfl) k) ?_
    refine step (fun t k => XS.iload X106.here hx rfl (B d12_118) (by rw [hls121]; rfl) k) ?_
    show G T106 (mkF m 120 ls121 [(.int 8), (.ref o3)])
    obtain ⟨T122, X122, e122, st122⟩ := getS2 X106 hx hZ hown (host := "") (Or.inl (ww98 hw)) Via.refl e106 (Sta.ext O106.2 ST.k10) (g := (mkF m 120 ls121 [(.int 8), (.ref o3)])) rfl (B d12_120)
    refine step st122 ?_
    refine step (fun t k => XS.iload X122.here hx rfl (B d12_123) (by rw [hls121]; rfl) k) ?_
    have hj123 := own_hj br117
    obtain ⟨z123, hz123, st123⟩ := own_ldDig X122 hx hZ e122 ST.k23 O106.2 hj123 (g := (mkF m 125 ls121 [(.int r116), (.ref w_5), (.int 8), (.ref o3)])) rfl rfl (B d12_125)
    refine step st123 ?_
    obtain ⟨T124, h124, X124, e124, W124, V124, st124⟩ := own_stB X122 hx hZ e122 V106 (j := (8 : Int32)) (by decide) (i := 8) rfl (by show 8 < 11; decide) (g := (mkF m 126 ls121 [(.int z123), (.int 8), (.ref o3)])) rfl rfl (B d12_126)
    replace V124 : Arv Z h124 o3 kk .byte (11 : Int32) [(.int 0), (.int 0), (.int 0), (.int 0), (.int 0), (.int 0), (.int 0), (.int 0), (.int (nar .byte z123)), (.int (nar .byte z105)), (.int (nar .byte z101))] (.int 0) := V124
    have N124 := Fr.snoc X124 N106 geo
    obtain ⟨lc124, X124, N124⟩ := own_gen X124 N124
    have O124 := O106.wr W124 geo
    have K124 : Keep h0 h124 [o3] := K106.wr W124 (Or.inl (List.mem_of_getElem? (i := 0) rfl))
    refine step st124 ?_
    refine step (fun t k => XS.aloadN X124.here hx rfl (B d12_127) (by rw [hls121]; rfl) rfl k) ?_
    obtain ⟨ls125, hls125⟩ := own_sl #[vL y90, s_, vI 11, vR o3, vL y90, s_, vI r116, vI 7, vI 1, vI y113, vI y113]
    refine step (fun t k => XS.iinc X124.here hx rfl (B d12_128) (by rw [hls121]; rfl) (l' := ls125) (by rw [hls121, hls125]; rfl) k) ?_
    refine step (fun t k => XS.iload X124.here hx rfl (B d12_131) (by rw [hls125]; rfl) k) ?_
    obtain ⟨T126, X126, e126, st126⟩ := getS2 X124 hx hZ hown (host := "") (Or.inl (ww185 hw)) Via.refl e124 (Sta.ext O124.2 ST.k12) (g := (mkF m 133 ls125 [(.int 7), (.ref o3)])) rfl (B d12_133)
    refine step st126 ?_
    refine step (fun t k => XS.iload X126.here hx rfl (B d12_136) (by rw [hls125]; rfl) k) ?_
    have hj127 := own_hj br117
    obtain ⟨z127, hz127, st127⟩ := own_ldDig X126 hx hZ e126 ST.k24 O124.2 hj127 (g := (mkF m 138 ls125 [(.int r116), (.ref w_6), (.int 7), (.ref o3)])) rfl rfl (B d12_138)
    refine step st127 ?_
    obtain ⟨T128, h128, X128, e128, W128, V128, st128⟩ := own_stB X126 hx hZ e126 V124 (j := (7 : Int32)) (by decide) (i := 7) rfl (by show 7 < 11; decide) (g := (mkF m 139 ls125 [(.int z127), (.int 7), (.ref o3)])) rfl rfl (B d12_139)
    replace V128 : Arv Z h128 o3 kk .byte (11 : Int32) [(.int 0), (.int 0), (.int 0), (.int 0), (.int 0), (.int 0), (.int 0), (.int (nar .byte z127)), (.int (nar .byte z123)), (.int (nar .byte z105)), (.int (nar .byte z101))] (.int 0) := V128
    have N128 := Fr.snoc X128 N124 geo
    obtain ⟨lc128, X128, N128⟩ := own_gen X128 N128
    have O128 := O124.wr W128 geo
    have K128 : Keep h0 h128 [o3] := K124.wr W128 (Or.inl (List.mem_of_getElem? (i := 0) rfl))
    refine step st128 ?_
    refine step (fun t k => XS.goto X128.here hx rfl (pc0 := 140) (pc' := 86) rfl (B d12_140) (by decide) (by decide) k) ?_
    refine step (fun t k => XS.iload X128.here hx rfl (B d12_86) (by rw [hls125]; rfl) k) ?_
    refine step (fun t k => XS.bipush X128.here hx rfl (B d12_88) k) ?_
    show G T128 (mkF m 90 ls125 [(.int (-100)), (.int y113)])
    have ho129 := own_n (b := y113) (by decide : (-100 : Int32).toInt = -100) (by omega)
    refine step (fun t k => XS.icmpNo X128.here hx rfl (B d12_90) rfl (flt ho129).2.2.1 k) ?_
    refine step (fun t k => XS.iload X128.here hx rfl (B d12_93) (by rw [hls125]; rfl) k) ?_
    refine step (fun t k => XS.bipush X128.here hx rfl (B d12_95) k) ?_
    refine step (fun t k => XS.idiv X128.here hx rfl (B d12_97) rfl (by decide) k) ?_
    show G T128 (mkF m 98 ls125 [(.int (y113 / (100 : Int32)))])
    obtain ⟨y130, hy130⟩ := own_ex (y113 / (100 : Int32))
    rw [← hy130]
    have bq131 := own_bq hy130 (by omega)
    obtain ⟨ls132, hls132⟩ := own_sl #[vL y90, s_, vI 11, vR o3, vL y90, s_, vI r116, vI 7, vI 1, vI y130, vI y113]
    refine step (fun t k => XS.istore X128.here hx rfl (B d12_98) rfl (l' := ls132) (by rw [hls125, hls132]; rfl) k) ?_
    refine step (fun t k => XS.iload X128.here hx rfl (B d12_100) (by rw [hls132]; rfl) k) ?_
    refine step (fun t k => XS.bipush X128.here hx rfl (B d12_102) k) ?_
    refine step (fun t k => XS.imul X128.here hx rfl (B d12_104) rfl k) ?_
    refine step (fun t k => XS.iload X128.here hx rfl (B d12_105) (by rw [hls132]; rfl) k) ?_
    refine step (fun t k => XS.isub X128.here hx rfl (B d12_107) rfl k) ?_
    show G T128 (mkF m 108 ls132 [(.int ((y130 * (100 : Int32)) - y113))])
    obtain ⟨r133, hr133⟩ := own_ex ((y130 * (100 : Int32)) - y113)
    rw [← hr133]
    have br134 := own_br bq131 (by omega) hr133
    have bd135 : -10000 < y130.toInt ∧ y130.toInt ≤ -1000 := by
      omega
    obtain ⟨ls136, hls136⟩ := own_sl #[vL y90, s_, vI 11, vR o3, vL y90, s_, vI r133, vI 7, vI 1, vI y130, vI y113]
    refine step (fun t k => XS.istore X128.here hx rfl (B d12_108) rfl (l' := ls136) (by rw [hls132, hls136]; rfl) k) ?_
    refine step (fun t k => XS.iload X128.here hx rfl (B d12_110) (by rw [hls136]; rfl) k) ?_
    obtain ⟨ls137, hls137⟩ := own_sl #[vL y90, s_, vI 11, vR o3, vL y90, s_, vI r133, vI 7, vI 1, vI y130, vI y130]
    refine step (fun t k => XS.istore X128.here hx rfl (B d12_112) rfl (l' := ls137) (by rw [hls136, hls137]; rfl) k) ?_
    refine step (fun t k => XS.aloadN X128.here hx rfl (B d12_114) (by rw [hls137]; rfl) rfl k) ?_
    obtain ⟨ls138, hls138⟩ := own_sl #[vL y90, s_, vI 11, vR o3, vL y90, s_, vI r133, vI 6, vI 1, vI y130, vI y130]
    refine step (fun t k => XS.iinc X128.here hx rfl (B d12_115) (by rw [hls137]; rfl) (l' := ls138) (by rw [hls137, hls138]; rfl) k) ?_
    refine step (fun t k => XS.iload X128.here hx rfl (B d12_118) (by rw [hls138]; rfl) k) ?_
    show G T128 (mkF m 120 ls138 [(.int 6), (.ref o3)])
    obtain ⟨T139, X139, e139, st139⟩ := getS2 X128 hx hZ hown (host := "") (Or.inl (ww98 hw)) Via.refl e128 (Sta.ext O128.2 ST.k10) (g := (mkF m 120 ls138 [(.int 6), (.ref o3)])) rfl (B d12_120)
    refine step st139 ?_
    refine step (fun t k => XS.iload X139.here hx rfl (B d12_123) (by rw [hls138]; rfl) k) ?_
    have hj140 := own_hj br134
    obtain ⟨z140, hz140, st140⟩ := own_ldDig X139 hx hZ e139 ST.k23 O128.2 hj140 (g := (mkF m 125 ls138 [(.int r133), (.ref w_5), (.int 6), (.ref o3)])) rfl rfl (B d12_125)
    refine step st140 ?_
    obtain ⟨T141, h141, X141, e141, W141, V141, st141⟩ := own_stB X139 hx hZ e139 V128 (j := (6 : Int32)) (by decide) (i := 6) rfl (by show 6 < 11; decide) (g := (mkF m 126 ls138 [(.int z140), (.int 6), (.ref o3)])) rfl rfl (B d12_126)
    replace V141 : Arv Z h141 o3 kk .byte (11 : Int32) [(.int 0), (.int 0), (.int 0), (.int 0), (.int 0), (.int 0), (.int (nar .byte z140)), (.int (nar .byte z127)), (.int (nar .byte z123)), (.int (nar .byte z105)), (.int (nar .byte z101))] (.int 0) := V141
    have N141 := Fr.snoc X141 N128 geo
    obtain ⟨lc141, X141, N141⟩ := own_gen X141 N141
    have O141 := O128.wr W141 geo
    have K141 : Keep h0 h141 [o3] := K128.wr W141 (Or.inl (List.mem_of_getElem? (i := 0) rfl))
    refine step st141 ?_
    refine step (fun t k => XS.aloadN X141.here hx rfl (B d12_127) (by rw [hls138]; rfl) rfl k) ?_
    obtain ⟨ls142, hls142⟩ := own_sl #[vL y90, s_, vI 11, vR o3, vL y90, s_, vI r133, vI 5, vI 1, vI y130, vI y130]
    refine step (fun t k => XS.iinc X141.here hx rfl (B d12_128) (by rw [hls138]; rfl) (l' := ls142) (by rw [hls138, hls142]; rfl) k) ?_
    refine step (fun t k => XS.iload X141.here hx rfl (B d12_131) (by rw [hls142]; rfl) k) ?_
    obtain ⟨T143, X143, e143, st143⟩ := getS2 X141 hx hZ hown (host := "") (Or.inl (ww185 hw)) Via.refl e141 (Sta.ext O141.2 ST.k12) (g := (mkF m 133 ls142 [(.int 5), (.ref o3)])) rfl (B d12_133)
    refine step st143 ?_
    refine step (fun t k => XS.iload X143.here hx rfl (B d12_136) (by rw [hls142]; rfl) k) ?_
    have hj144 := own_hj br134
    obtain ⟨z144, hz144, st144⟩ := own_ldDig X143 hx hZ e143 ST.k24 O141.2 hj144 (g := (mkF m 138 ls142 [(.int r133), (.ref w_6), (.int 5), (.ref o3)])) rfl rfl (B d12_138)
    refine step st144 ?_
    obtain ⟨T145, h145, X145, e145, W145, V145, st145⟩ := own_stB X143 hx hZ e143 V141 (j := (5 : Int32)) (by decide) (i := 5) rfl (by show 5 < 11; decide) (g := (mkF m 139 ls142 [(.int z144), (.int 5), (.ref o3)])) rfl rfl (B d12_139)
    replace V145 : Arv Z h145 o3 kk .byte (11 : Int32) [(.int 0), (.int 0), (.int 0), (.int 0), (.int 0), (.int (nar .byte z144)), (.int (nar .byte z140)), (.int (nar .byte z127)), (.int (nar .byte z123)), (.int (nar .byte z105)), (.int (nar .byte z101))] (.int 0) := V145
    have N145 := Fr.snoc X145 N141 geo
    obtain ⟨lc145, X145, N145⟩ := own_gen X145 N145
    have O145 := O141.wr W145 geo
    have K145 : Keep h0 h145 [o3] := K141.wr W145 (Or.inl (List.mem_of_getElem? (i := 0) rfl))
    refine step st145 ?_
    refine step (fun t k => XS.goto X145.here hx rfl (pc0 := 140) (pc' := 86) rfl (B d12_140) (by decide) (by decide) k) ?_
    refine step (fun t k => XS.iload X145.here hx rfl (B d12_86) (by rw [hls142]; rfl) k) ?_
    refine step (fun t k => XS.bipush X145.here hx rfl (B d12_88) k) ?_
    show G T145 (mkF m 90 ls142 [(.int (-100)), (.int y130)])
    have ho146 := own_n (b := y130) (by decide : (-100 : Int32).toInt = -100) (by omega)
    refine step (fun t k => XS.icmpNo X145.here hx rfl (B d12_90) rfl (flt ho146).2.2.1 k) ?_
    refine step (fun t k => XS.iload X145.here hx rfl (B d12_93) (by rw [hls142]; rfl) k) ?_
    refine step (fun t k => XS.bipush X145.here hx rfl (B d12_95) k) ?_
    refine step (fun t k => XS.idiv X145.here hx rfl (B d12_97) rfl (by decide) k) ?_
    show G T145 (mkF m 98 ls142 [(.int (y130 / (100 : Int32)))])
    obtain ⟨y147, hy147⟩ := own_ex (y130 / (100 : Int32))
    rw [← hy147]
    have bq148 := own_bq hy147 (by omega)
    obtain ⟨ls149, hls149⟩ := own_sl #[vL y90, s_, vI 11, vR o3, vL y90, s_, vI r133, vI 5, vI 1, vI y147, vI y130]
    refine step (fun t k => XS.istore X145.here hx rfl (B d12_98) rfl (l' := ls149) (by rw [hls142, hls149]; rfl) k) ?_
    refine step (fun t k => XS.iload X145.here hx rfl (B d12_100) (by rw [hls149]; rfl) k) ?_
    refine step (fun t k => XS.bipush X145.here hx rfl (B d12_102) k) ?_
    refine step (fun t k => XS.imul X145.here hx rfl (B d12_104) rfl k) ?_
    refine step (fun t k => XS.iload X145.here hx rfl (B d12_105) (by rw [hls149]; rfl) k) ?_
    refine step (fun t k => XS.isub X145.here hx rfl (B d12_107) rfl k) ?_
    show G T145 (mkF m 108 ls149 [(.int ((y147 * (100 : Int32)) - y130))])
    obtain ⟨r150, hr150⟩ := own_ex ((y147 * (100 : Int32)) - y130)
    rw [← hr150]
    have br151 := own_br bq148 (by omega) hr150
    have bd152 : -100 < y147.toInt ∧ y147.toInt ≤ -10 := by
      omega
    obtain ⟨ls153, hls153⟩ := own_sl #[vL y90, s_, vI 11, vR o3, vL y90, s_, vI r150, vI 5, vI 1, vI y147, vI y130]
    refine step (fun t k => XS.istore X145.here hx rfl (B d12_108) rfl (l' := ls153) (by rw [hls149, hls153]; rfl) k) ?_
    refine step (fun t k => XS.iload X145.here hx rfl (B d12_110) (by rw [hls153]; rfl) k) ?_
    obtain ⟨ls154, hls154⟩ := own_sl #[vL y90, s_, vI 11, vR o3, vL y90, s_, vI r150, vI 5, vI 1, vI y147, vI y147]
    refine step (fun t k => XS.istore X145.here hx rfl (B d12_112) rfl (l' := ls154) (by rw [hls153, hls154]; rfl) k) ?_
    refine step (fun t k => XS.aloadN X145.here hx rfl (B d12_114) (by rw [hls154]; rfl) rfl k) ?_
    obtain ⟨ls155, hls155⟩ := own_sl #[vL y90, s_, vI 11, vR o3, vL y90, s_, vI r150, vI 4, vI 1, vI y147, vI y147]
    refine step (fun t k => XS.iinc X145.here hx rfl (B d12_115) (by rw [hls154]; rfl) (l' := ls155) (by rw [hls154, hls155]; rfl) k) ?_
    refine step (fun t k => XS.iload X145.here hx rfl (B d12_118) (by rw [hls155]; rfl) k) ?_
    show G T145 (mkF m 120 ls155 [(.int 4), (.ref o3)])
    obtain ⟨T156, X156, e156, st156⟩ := getS2 X145 hx hZ hown (host := "") (Or.inl (ww98 hw)) Via.refl e145 (Sta.ext O145.2 ST.k10) (g := (mkF m 120 ls155 [(.int 4), (.ref o3)])) rfl (B d12_120)
    refine step st156 ?_
    refine step (fun t k => XS.iload X156.here hx rfl (B d12_123) (by rw [hls155]; rfl) k) ?_
    have hj157 := own_hj br151
    obtain ⟨z157, hz157, st157⟩ := own_ldDig X156 hx hZ e156 ST.k23 O145.2 hj157 (g := (mkF m 125 ls155 [(.int r150), (.ref w_5), (.int 4), (.ref o3)])) rfl rfl (B d12_125)
    refine step st157 ?_
    obtain ⟨T158, h158, X158, e158, W158, V158, st158⟩ := own_stB X156 hx hZ e156 V145 (j := (4 : Int32)) (by decide) (i := 4) rfl (by show 4 < 11; decide) (g := (mkF m 126 ls155 [(.int z157), (.int 4), (.ref o3)])) rfl rfl (B d12_126)
    replace V158 : Arv Z h158 o3 kk .byte (11 : Int32) [(.int 0), (.int 0), (.int 0), (.int 0), (.int (nar .byte z157)), (.int (nar .byte z144)), (.int (nar .byte z140)), (.int (nar .byte z127)), (.int (nar .byte z123)), (.int (nar .byte z105)), (.int (nar .byte z101))] (.int 0) := V158
    have N158 := Fr.snoc X158 N145 geo
    obtain ⟨lc158, X158, N158⟩ := own_gen X158 N158
    have O158 := O145.wr W158 geo
    have K158 : Keep h0 h158 [o3] := K145.wr W158 (Or.inl (List.mem_of_getElem? (i := 0) rfl))
    refine step st158 ?_
    refine step (fun t k => XS.aloadN X158.here hx rfl (B d12_127) (by rw [hls155]; rfl) rfl k) ?_
    obtain ⟨ls159, hls159⟩ := own_sl #[vL y90, s_, vI 11, vR o3, vL y90, s_, vI r150, vI 3, vI 1, vI y147, vI y147]
    refine step (fun t k => XS.iinc X158.here hx rfl (B d12_128) (by rw [hls155]; rfl) (l' := ls159) (by rw [hls155, hls159]; rfl) k) ?_
    refine step (fun t k => XS.iload X158.here hx rfl (B d12_131) (by rw [hls159]; rfl) k) ?_
    obtain ⟨T160, X160, e160, st160⟩ := getS2 X158 hx hZ hown (host := "") (Or.inl (ww185 hw)) Via.refl e158 (Sta.ext O158.2 ST.k12) (g := (mkF m 133 ls159 [(.int 3), (.ref o3)])) rfl (B d12_133)
    refine step st160 ?_
    refine step (fun t k => XS.iload X160.here hx rfl (B d12_136) (by rw [hls159]; rfl) k) ?_
    have hj161 := own_hj br151
    obtain ⟨z161, hz161, st161⟩ := own_ldDig X160 hx hZ e160 ST.k24 O158.2 hj161 (g := (mkF m 138 ls159 [(.int r150), (.ref w_6), (.int 3), (.ref o3)])) rfl rfl (B d12_138)
    refine step st161 ?_
    obtain ⟨T162, h162, X162, e162, W162, V162, st162⟩ := own_stB X160 hx hZ e160 V158 (j := (3 : Int32)) (by decide) (i := 3) rfl (by show 3 < 11; decide) (g := (mkF m 139 ls159 [(.int z161), (.int 3), (.ref o3)])) rfl rfl (B d12_139)
    replace V162 : Arv Z h162 o3 kk .byte (11 : Int32) [(.int 0), (.int 0), (.int 0), (.int (nar .byte z161)), (.int (nar .byte z157)), (.int (nar .byte z144)), (.int (nar .byte z140)), (.int (nar .byte z127)), (.int (nar .byte z123)), (.int (nar .byte z105)), (.int (nar .byte z101))] (.int 0) := V162
    have N162 := Fr.snoc X162 N158 geo
    obtain ⟨lc162, X162, N162⟩ := own_gen X162 N162
    have O162 := O158.wr W162 geo
    have K162 : Keep h0 h162 [o3] := K158.wr W162 (Or.inl (List.mem_of_getElem? (i := 0) rfl))
    refine step st162 ?_
    refine step (fun t k => XS.goto X162.here hx rfl (pc0 := 140) (pc' := 86) rfl (B d12_140) (by decide) (by decide) k) ?_
    refine step (fun t k => XS.iload X162.here hx rfl (B d12_86) (by rw [hls159]; rfl) k) ?_
    refine step (fun t k => XS.bipush X162.here hx rfl (B d12_88) k) ?_
    show G T162 (mkF m 90 ls159 [(.int (-100)), (.int y147)])
    have ho163 := own_y (b := y147) (by decide : (-100 : Int32).toInt = -100) (by omega)
    refine step (fun t k => XS.icmpYes X162.here hx rfl (pc0 := 90) (pc' := 143) rfl (B d12_90) rfl (tlt ho163).2.2.1 (by decide) (by decide) k) ?_
    refine step (fun t k => XS.aloadN X162.here hx rfl (B d12_143) (by rw [hls159]; rfl) rfl k) ?_
    obtain ⟨ls164, hls164⟩ := own_sl #[vL y90, s_, vI 11, vR o3, vL y90, s_, vI r150, vI 2, vI 1, vI y147, vI y147]
    refine step (fun t k => XS.iinc X162.here hx rfl (B d12_144) (by rw [hls159]; rfl) (l' := ls164) (by rw [hls159, hls164]; rfl) k) ?_
    refine step (fun t k => XS.iload X162.here hx rfl (B d12_147) (by rw [hls164]; rfl) k) ?_
    obtain ⟨T165, X165, e165, st165⟩ := getS2 X162 hx hZ hown (host := "") (Or.inl (ww98 hw)) Via.refl e162 (Sta.ext O162.2 ST.k10) (g := (mkF m 149 ls164 [(.int 2), (.ref o3)])) rfl (B d12_149)
    refine step st165 ?_
    refine step (fun t k => XS.iload X165.here hx rfl (B d12_152) (by rw [hls164]; rfl) k) ?_
    refine step (fun t k => XS.ineg X165.here hx rfl (B d12_154) rfl k) ?_
    have hj166 := own_hj (own_ng y147 (by omega))
    obtain ⟨z166, hz166, st166⟩ := own_ldDig X165 hx hZ e165 ST.k23 O162.2 hj166 (g := (mkF m 155 ls164 [(.int (-y147)), (.ref w_5), (.int 2), (.ref o3)])) rfl rfl (B d12_155)
    refine step st166 ?_
    obtain ⟨T167, h167, X167, e167, W167, V167, st167⟩ := own_stB X165 hx hZ e165 V162 (j := (2 : Int32)) (by decide) (i := 2) rfl (by show 2 < 11; decide) (g := (mkF m 156 ls164 [(.int z166), (.int 2), (.ref o3)])) rfl rfl (B d12_156)
    replace V167 : Arv Z h167 o3 kk .byte (11 : Int32) [(.int 0), (.int 0), (.int (nar .byte z166)), (.int (nar .byte z161)), (.int (nar .byte z157)), (.int (nar .byte z144)), (.int (nar .byte z140)), (.int (nar .byte z127)), (.int (nar .byte z123)), (.int (nar .byte z105)), (.int (nar .byte z101))] (.int 0) := V167
    have N167 := Fr.snoc X167 N162 geo
    obtain ⟨lc167, X167, N167⟩ := own_gen X167 N167
    have O167 := O162.wr W167 geo
    have K167 : Keep h0 h167 [o3] := K162.wr W167 (Or.inl (List.mem_of_getElem? (i := 0) rfl))
    refine step st167 ?_
    refine step (fun t k => XS.iload X167.here hx rfl (B d12_157) (by rw [hls164]; rfl) k) ?_
    refine step (fun t k => XS.bipush X167.here hx rfl (B d12_159) k) ?_
    show G T167 (mkF m 161 ls164 [(.int (-9)), (.int y147)])
    have ho168 := own_yr (b := y147) (by decide : (-9 : Int32).toInt = -9) (by omega)
    refine step (fun t k => XS.icmpNo X167.here hx rfl (B d12_161) rfl (tlt ho168).2.1 k) ?_
    refine step (fun t k => XS.aloadN X167.here hx rfl (B d12_164) (by rw [hls164]; rfl) rfl k) ?_
    obtain ⟨ls169, hls169⟩ := own_sl #[vL y90, s_, vI 11, vR o3, vL y90, s_, vI r150, vI 1, vI 1, vI y147, vI y147]
    refine step (fun t k => XS.iinc X167.here hx rfl (B d12_165) (by rw [hls164]; rfl) (l' := ls169) (by rw [hls164, hls169]; rfl) k) ?_
    refine step (fun t k => XS.iload X167.here hx rfl (B d12_168) (by rw [hls169]; rfl) k) ?_
    obtain ⟨T170, X170, e170, st170⟩ := getS2 X167 hx hZ hown (host := "") (Or.inl (ww185 hw)) Via.refl e167 (Sta.ext O167.2 ST.k12) (g := (mkF m 170 ls169 [(.int 1), (.ref o3)])) rfl (B d12_170)
    refine step st170 ?_
    refine step (fun t k => XS.iload X170.here hx rfl (B d12_173) (by rw [hls169]; rfl) k) ?_
    refine step (fun t k => XS.ineg X170.here hx rfl (B d12_175) rfl k) ?_
    have hj171 := own_hj (own_ng y147 (by omega))
    obtain ⟨z171, hz171, st171⟩ := own_ldDig X170 hx hZ e170 ST.k24 O167.2 hj171 (g := (mkF m 176 ls169 [(.int (-y147)), (.ref w_6), (.int 1), (.ref o3)])) rfl rfl (B d12_176)
    refine step st171 ?_
    obtain ⟨T172, h172, X172, e172, W172, V172, st172⟩ := own_stB X170 hx hZ e170 V167 (j := (1 : Int32)) (by decide) (i := 1) rfl (by show 1 < 11; decide) (g := (mkF m 177 ls169 [(.int z171), (.int 1), (.ref o3)])) rfl rfl (B d12_177)
    replace V172 : Arv Z h172 o3 kk .byte (11 : Int32) [(.int 0), (.int (nar .byte z171)), (.int (nar .byte z166)), (.int (nar .byte z161)), (.int (nar .byte z157)), (.int (nar .byte z144)), (.int (nar .byte z140)), (.int (nar .byte z127)), (.int (nar .byte z123)), (.int (nar .byte z105)), (.int (nar .byte z101))] (.int 0) := V172
    have N172 := Fr.snoc X172 N167 geo
    obtain ⟨lc172, X172, N172⟩ := own_gen X172 N172
    have K172 : Keep h0 h172 [o3] := K167.wr W172 (Or.inl (List.mem_of_getElem? (i := 0) rfl))
    refine step st172 ?_
    refine step (fun t k => XS.iload X172.here hx rfl (B d12_178) (by rw [hls169]; rfl) k) ?_
    refine step (fun t k => XS.ifNo X172.here hx rfl (B d12_180) rfl ((if0 _ _).trans (feq (by decide : ¬ ((1 : Int32) = (0 : Int32)))).1) k) ?_
    refine step (fun t k => XS.aloadN X172.here hx rfl (B d12_183) (by rw [hls169]; rfl) rfl k) ?_
    obtain ⟨ls173, hls173⟩ := own_sl #[vL y90, s_, vI 11, vR o3, vL y90, s_, vI r150, vI 0, vI 1, vI y147, vI y147]
    refine step (fun t k => XS.iinc X172.here hx rfl (B d12_184) (by rw [hls169]; rfl) (l' := ls173) (by rw [hls169, hls173]; rfl) k) ?_
    refine step (fun t k => XS.iload X172.here hx rfl (B d12_187) (by rw [hls173]; rfl) k) ?_
    show G T172 (mkF m 189 ls173 [(.int 0), (.ref o3)])
    refine step (fun t k => XS.bipush X172.here hx rfl (B d12_189) k) ?_
    show G T172 (mkF m 191 ls173 [(.int 45), (.int 0), (.ref o3)])
    obtain ⟨T174, h174, X174, e174, W174, V174, st174⟩ := own_stB X172 hx hZ e172 V172 (j := (0 : Int32)) (by decide) (i := 0) rfl (by show 0 < 11; decide) (g := (mkF m 191 ls173 [(.int 45), (.int 0), (.ref o3)])) rfl rfl (B d12_191)
    replace V174 : Arv Z h174 o3 kk .byte (11 : Int32) [(.int (nar .byte (45 : Int32))), (.int (nar .byte z171)), (.int (nar .byte z166)), (.int (nar .byte z161)), (.int (nar .byte z157)), (.int (nar .byte z144)), (.int (nar .byte z140)), (.int (nar .byte z127)), (.int (nar .byte z123)), (.int (nar .byte z105)), (.int (nar .byte z101))] (.int 0) := V174
    have N174 := Fr.snoc X174 N172 geo
    obtain ⟨lc174, X174, N174⟩ := own_gen X174 N174
    have K174 : Keep h0 h174 [o3] := K172.wr W174 (Or.inl (List.mem_of_getElem? (i := 0) rfl))
    refine step st174 ?_
    refine step (fun t k => XS.iload X174.here hx rfl (B d12_192) (by rw [hls173]; rfl) k) ?_
    exact ret (v := some (.int 0)) X174 (fun h => by rw [Bd.returns] at h; cases h) (fun fs hr => retI X174 hx Bd.returns (B d12_194) hr) e174 ⟨(nar .byte (45 : Int32)), (nar .byte z171), (nar .byte z166), (nar .byte z161), (nar .byte z157), (nar .byte z144), (nar .byte z140), (nar .byte z127), (nar .byte z123), (nar .byte z105), (nar .byte z101), rfl, N174, K174, V174, hz101⟩ (by decide) (by decide)
theorem d13_0 : decode qc13 0 = .ok (.aload_n 0, 1) := by decide +kernel
theorem d13_1 : decode qc13 1 = .ok (.invokespecial 1, 3) := by decide +kernel
theorem ww106 (hw : HW Z a0) : Cond.before (Cond.methodLink cn_2 1 ({ cls := cn_8, name := "<init>", desc := "()V" } : MethodName)) a0 Z = true := own_w hw 106 rfl
theorem d13_4 : decode qc13 4 = .ok (.aload_n 0, 1) := by decide +kernel
theorem d13_5 : decode qc13 5 = .ok (.aload_n 1, 1) := by decide +kernel
theorem d13_6 : decode qc13 6 = .ok (.putfield 9, 3) := by decide +kernel
theorem ww107 (hw : HW Z a0) : Cond.before (Cond.fieldLink cn_2 9 cn_2 "value" "[B") a0 Z = true := own_w hw 107 rfl
theorem ww108 (hw : HW Z a0) : Cond.before (Cond.laysFinal cn_2 cn_2 "value" "[B") a0 Z = true := own_w hw 108 rfl
theorem ww101 (hw : HW Z a0) : Cond.before (Cond.instantiable cn_2 4) a0 Z = true := own_w hw 101 rfl
theorem d13_9 : decode qc13 9 = .ok (.aload_n 0, 1) := by decide +kernel
theorem d13_10 : decode qc13 10 = .ok (.iload_n 2, 1) := by decide +kernel
theorem d13_11 : decode qc13 11 = .ok (.putfield 15, 3) := by decide +kernel
theorem ww109 (hw : HW Z a0) : Cond.before (Cond.fieldLink cn_2 15 cn_2 "coder" "B") a0 Z = true := own_w hw 109 rfl
theorem ww110 (hw : HW Z a0) : Cond.before (Cond.laysFinal cn_2 cn_2 "coder" "B") a0 Z = true := own_w hw 110 rfl
theorem d13_14 : decode qc13 14 = .ok (.return_, 1) := by decide +kernel
abbrev rr_si : Room := { frames := 1, cells := 0, slots := 0, locals := 12 }
abbrev y_13 : MethodName := ⟨cn_2, "<init>", "([BB)V"⟩
theorem pn_7 : plainName cn_2 = true := by first | (simp [plainName, overriddenIn]; done) | decide +kernel
theorem ef_si (m : MethodId) (o0 : Addr) (o1 : Addr) : entryFrame m #[(.ref o0), (.ref o1), (.int 0)] 3 = mkF m 0 #[vR o0, vR o1, vI 0] [] := by first | (simp [entryFrame, mkF, argsToLocals, Value.category]; done) | rfl
def Q_si (Z : State) (w_0 : Addr) (w_1 : Addr) (w_2 : Addr) (w_3 : Addr) (w_4 : Addr) (w_5 : Addr) (w_6 : Addr) (w_7 : Int32) (w_8 : Value) (o0 : Addr) (o1 : Addr) (h0 : Heap) (n0 : Nat) (v : Option Value) (h : Heap) (L : List Loc) : Prop := v = none ∧ Fr n0 L ∧ Keep h0 h [o0] ∧ Exa Z h o0 cn_2 ∧ Fld Z h o0 cn_2 "value" "[B" (.ref o1) ∧ Fld Z h o0 cn_2 "coder" "B" (.int 0)
theorem rm_si (l : Launch) (Z : State) (a0 : Array Value) (hw : HW Z a0) (ws : List Jvm.Cond) (w_0 : Addr) (w_1 : Addr) (w_2 : Addr) (w_3 : Addr) (w_4 : Addr) (w_5 : Addr) (w_6 : Addr) (w_7 : Int32) (w_8 : Value) (o0 : Addr) (o1 : Addr) (h0 : Heap) (n0 : Nat) (Z0 : n0 ≤ h0.size) (ST : own_St Z w_0 w_1 w_2 w_3 w_4 w_5 w_6 w_7 w_8) (O0 : Old Z n0 h0) (Ex : Exa Z h0 o0 cn_2) (geo : n0 ≤ o0) (Fa : Fld Z h0 o0 cn_2 "value" "[B" .null) (Fb : Fld Z h0 o0 cn_2 "coder" "B" (.int 0)) :
    MetFree l y_13 (head1 (Jvm.Cond.code y_13 jdk_42_method_151_code 3 none :: ws) rr_si) (fun a U => a = #[(.ref o0), (.ref o1), (.int 0)] ∧ Z.Warmed39 U.vm ∧ U.heap = h0) (fun _ _ _ _ _ => True) (fun _ U o U' => ∃ v L, o = .returned v ∧ Q_si Z w_0 w_1 w_2 w_3 w_4 w_5 w_6 w_7 w_8 o0 o1 h0 n0 v U'.heap L ∧ FrameEnd U o U' L rr_si.cells rr_si.slots) := by
  refine MetFree.of_bodySF (plainFor_of_name pn_7) hisR ?_
  intro p e s m args below meth c s₁ Bd hml0 hP hK
  obtain ⟨rfl, hZ, hh⟩ := hP
  have hx := Bd.exec
  have hby := Bd.bytes
  have B := @hb _ _ hby
  have hml : c.maxLocals = 3 := hml0
  have hown : s.vm.findClass cn_2 = some m.cls := findClass_of_methodNamed Bd.named
  have hnm := (name_of_methodNamed Bd.named Bd.method).1
  have X0 : Stand p l e rr_si s m #[(.ref o0), (.ref o1), (.int 0)] below meth c s₁ [] 0 0 := Stand.of_body Bd
  have e0 : s₁.heap = h0 := by rw [← hh, Bd.state]; rfl
  have N0 := Fr.nil n0
  have K0 : Keep h0 h0 [o0] := Keep.refl _ _
  obtain ⟨G, step, ret, fin⟩ := own_openX X0 (rr_si.cells) (rr_si.slots) (Q_si Z w_0 w_1 w_2 w_3 w_4 w_5 w_6 w_7 w_8 o0 o1 h0 n0) Bd.notSynchronized
  refine fin (g := entryFrame m #[(.ref o0), (.ref o1), (.int 0)] 3) ?_
  rw [ef_si m o0 o1]
  refine step (fun t k => XS.aloadN X0.here hx rfl (B d13_0) rfl rfl k) ?_
  obtain ⟨T1, X1, e1, st1⟩ := initO X0 hx hZ hown (ww106 hw) (ww25 hw) (ww26 hw) e0 (g := (mkF m 1 #[vR o0, vR o1, vI 0] [(.ref o0)])) rfl (by rw [hml]; rfl) rfl (B d13_1) (by decide) (W := 0) (by show 2 * 0 + _ ≤ _; exact Nat.le_of_eq rfl) (by decide)
  refine step st1 ?_
  refine step (fun t k => XS.aloadN X1.here hx rfl (B d13_4) rfl rfl k) ?_
  refine step (fun t k => XS.aloadN X1.here hx rfl (B d13_5) rfl rfl k) ?_
  obtain ⟨T2, h2, X2, e2, W2, st2⟩ := putF X1 hx hZ hown (host := "") (Or.inl (ww107 hw)) Via.refl e1 Fa Ex (Or.inr ⟨(ww108 hw), rfl, hnm⟩) (ww101 hw) (ty := (.array .byte)) (by decide) rfl rfl (g := (mkF m 6 #[vR o0, vR o1, vI 0] [(.ref o1), (.ref o0)])) rfl rfl (B d13_6)
  have F2 : Fld Z h2 o0 cn_2 "value" "[B" (.ref o1) := Fld.same W2 Fa
  have N2 := Fr.snoc X2 N0 geo
  obtain ⟨lc2, X2, N2⟩ := own_gen X2 N2
  have K2 : Keep h0 h2 [o0] := K0.wr W2 (Or.inl (List.mem_of_getElem? (i := 0) rfl))
  refine step st2 ?_
  refine step (fun t k => XS.aloadN X2.here hx rfl (B d13_9) rfl rfl k) ?_
  refine step (fun t k => XS.iloadN X2.here hx rfl (B d13_10) rfl k) ?_
  have f4 := (Fld.other W2 Fb (Or.inr (slot_ne (Or.inr (ww110 hw)) (Or.inr (ww108 hw)) (by decide) (t := .byte) (t' := (.array .byte)) (by decide) (by decide))))
  have f5 := (Exa.wr W2 Ex)
  obtain ⟨T3, h3, X3, e3, W3, st3⟩ := putFN X2 hx hZ hown (ww109 hw) Via.refl e2 f4 f5 (Or.inr ⟨(ww110 hw), rfl, hnm⟩) (ww101 hw) (ty := .byte) (v' := (.int (nar .byte (0 : Int32)))) (by decide) rfl (fits_nar_byte _) (g := (mkF m 11 #[vR o0, vR o1, vI 0] [(.int 0), (.ref o0)])) rfl rfl (B d13_11)
  have F3 : Fld Z h3 o0 cn_2 "coder" "B" (.int 0) := Fld.same W3 f4
  have N3 := Fr.snoc X3 N2 geo
  obtain ⟨lc3, X3, N3⟩ := own_gen X3 N3
  have K3 : Keep h0 h3 [o0] := K2.wr W3 (Or.inl (List.mem_of_getElem? (i := 0) rfl))
  refine step st3 ?_
  have f6 := (Exa.wr W3 f5)
  have f7 := (Fld.other W3 F2 (Or.inr (slot_ne (Or.inr (ww108 hw)) (Or.inr (ww110 hw)) (by decide) (t := (.array .byte)) (t' := .byte) (by decide) (by decide))))
  exact ret (v := none) X3 (fun _ => rfl) (fun fs hr => X3.returnOut hx Bd.returns (B d13_14) hr) e3 ⟨rfl, N3, K3, f6, f7, F3⟩ (by decide) (by decide)
abbrev rr_gc : Room := { frames := 0, cells := 0, slots := 0, locals := 0 }
def Q_gc (Z : State) (w_0 : Addr) (w_1 : Addr) (w_2 : Addr) (w_3 : Addr) (w_4 : Addr) (w_5 : Addr) (w_6 : Addr) (w_7 : Int32) (w_8 : Value) (q0 : Int64) (n : Int32) (o3 : Addr) (kk : ClassId) (h0 : Heap) (n0 : Nat) (v : Option Value) (h : Heap) (L : List Loc) : Prop := ∃ vs : List Value, ∃ z : Int32, v = some (.int 0) ∧ Fr n0 L ∧ Keep h0 h [o3] ∧ Arv Z h o3 kk .byte n vs (.int 0) ∧ own_last n vs z
theorem rm_gc (l : Launch) (Z : State) (a0 : Array Value) (hw : HW Z a0) (ws : List Jvm.Cond) (w_0 : Addr) (w_1 : Addr) (w_2 : Addr) (w_3 : Addr) (w_4 : Addr) (w_5 : Addr) (w_6 : Addr) (w_7 : Int32) (w_8 : Value) (q0 : Int64) (n : Int32) (o3 : Addr) (kk : ClassId) (h0 : Heap) (n0 : Nat) (Z0 : n0 ≤ h0.size) (ST : own_St Z w_0 w_1 w_2 w_3 w_4 w_5 w_6 w_7 w_8) (O0 : Old Z n0 h0) (hrg : -2147483648 ≤ q0.toInt ∧ q0.toInt ≤ 2147483647) (hsz : own_size q0 n) (Va : Arv Z h0 o3 kk .byte n [] (.int 0)) (geo : n0 ≤ o3) :
    MetFree l y_12 (head1 (Jvm.Cond.code y_12 jdk_35_method_14_code 11 (some .int) :: ws) rr_gc) (fun a U => a = #[(.long q0), (.int n), (.ref o3)] ∧ Z.Warmed39 U.vm ∧ U.heap = h0) (fun _ _ _ _ _ => True) (fun _ U o U' => ∃ v L, o = .returned v ∧ Q_gc Z w_0 w_1 w_2 w_3 w_4 w_5 w_6 w_7 w_8 q0 n o3 kk h0 n0 v U'.heap L ∧ FrameEnd U o U' L rr_gc.cells rr_gc.slots) := by
  unfold own_size at hsz
  rcases hsz with ⟨rfl, h1, h2⟩ | ⟨rfl, h1, h2⟩ | ⟨rfl, h1, h2, h3⟩ | ⟨rfl, h1, h2, h3⟩ | ⟨rfl, h1, h2, h3⟩ | ⟨rfl, h1, h2, h3⟩ | ⟨rfl, h1, h2, h3⟩ | ⟨rfl, h1, h2, h3⟩ | ⟨rfl, h1, h2, h3⟩ | ⟨rfl, h1, h2, h3⟩ | ⟨rfl, h1, h2, h3⟩ | ⟨rfl, h1, h2, h3⟩ | ⟨rfl, h1, h2, h3⟩ | ⟨rfl, h1, h2, h3⟩ | ⟨rfl, h1, h2, h3⟩ | ⟨rfl, h1, h2, h3⟩ | ⟨rfl, h1, h2, h3⟩ | ⟨rfl, h1, h2, h3⟩ | ⟨rfl, h1, h2⟩ | ⟨rfl, h1, h2⟩
  · intro p e g1 g2 g3 s m args below g4 g5 g6 g7
    obtain ⟨st, o, r1, r2, r3, v, L, r4, ⟨c0, r5, r6, r7, r8, r9⟩, r10⟩ := rm_gc1p l Z a0 hw ws w_0 w_1 w_2 w_3 w_4 w_5 w_6 w_7 w_8 q0 o3 kk h0 n0 Z0 ST O0 hrg h1 h2 (Va.pad (pad_rep [] (.int 0) 1)) geo p e g1 g2 g3 s m args below g4 g5 g6 g7
    exact ⟨st, o, r1, r2, r3, v, L, r4, ⟨_, c0, r5, r6, r7, r8, ⟨by decide, rfl, r9⟩⟩, r10⟩
  · intro p e g1 g2 g3 s m args below g4 g5 g6 g7
    obtain ⟨st, o, r1, r2, r3, v, L, r4, ⟨c0, c1, r5, r6, r7, r8, r9⟩, r10⟩ := rm_gc1n l Z a0 hw ws w_0 w_1 w_2 w_3 w_4 w_5 w_6 w_7 w_8 q0 o3 kk h0 n0 Z0 ST O0 hrg h1 h2 (Va.pad (pad_rep [] (.int 0) 2)) geo p e g1 g2 g3 s m args below g4 g5 g6 g7
    exact ⟨st, o, r1, r2, r3, v, L, r4, ⟨_, c1, r5, r6, r7, r8, ⟨by decide, rfl, r9⟩⟩, r10⟩
  · intro p e g1 g2 g3 s m args below g4 g5 g6 g7
    obtain ⟨st, o, r1, r2, r3, v, L, r4, ⟨c0, c1, r5, r6, r7, r8, r9⟩, r10⟩ := rm_gc2p l Z a0 hw ws w_0 w_1 w_2 w_3 w_4 w_5 w_6 w_7 w_8 q0 o3 kk h0 n0 Z0 ST O0 hrg h1 h2 h3 (Va.pad (pad_rep [] (.int 0) 2)) geo p e g1 g2 g3 s m args below g4 g5 g6 g7
    exact ⟨st, o, r1, r2, r3, v, L, r4, ⟨_, c1, r5, r6, r7, r8, ⟨by decide, rfl, r9⟩⟩, r10⟩
  · intro p e g1 g2 g3 s m args below g4 g5 g6 g7
    obtain ⟨st, o, r1, r2, r3, v, L, r4, ⟨c0, c1, c2, r5, r6, r7, r8, r9⟩, r10⟩ := rm_gc2n l Z a0 hw ws w_0 w_1 w_2 w_3 w_4 w_5 w_6 w_7 w_8 q0 o3 kk h0 n0 Z0 ST O0 hrg h1 h2 h3 (Va.pad (pad_rep [] (.int 0) 3)) geo p e g1 g2 g3 s m args below g4 g5 g6 g7
    exact ⟨st, o, r1, r2, r3, v, L, r4, ⟨_, c2, r5, r6, r7, r8, ⟨by decide, rfl, r9⟩⟩, r10⟩
  · intro p e g1 g2 g3 s m args below g4 g5 g6 g7
    obtain ⟨st, o, r1, r2, r3, v, L, r4, ⟨c0, c1, c2, r5, r6, r7, r8, r9⟩, r10⟩ := rm_gc3p l Z a0 hw ws w_0 w_1 w_2 w_3 w_4 w_5 w_6 w_7 w_8 q0 o3 kk h0 n0 Z0 ST O0 hrg h1 h2 h3 (Va.pad (pad_rep [] (.int 0) 3)) geo p e g1 g2 g3 s m args below g4 g5 g6 g7
    exact ⟨st, o, r1, r2, r3, v, L, r4, ⟨_, c2, r5, r6, r7, r8, ⟨by decide, rfl, r9⟩⟩, r10⟩
  · intro p e g1 g2 g3 s m args below g4 g5 g6 g7
    obtain ⟨st, o, r1, r2, r3, v, L, r4, ⟨c0, c1, c2, c3, r5, r6, r7, r8, r9⟩, r10⟩ := rm_gc3n l Z a0 hw ws w_0 w_1 w_2 w_3 w_4 w_5 w_6 w_7 w_8 q0 o3 kk h0 n0 Z0 ST O0 hrg h1 h2 h3 (Va.pad (pad_rep [] (.int 0) 4)) geo p e g1 g2 g3 s m args below g4 g5 g6 g7
    exact ⟨st, o, r1, r2, r3, v, L, r4, ⟨_, c3, r5, r6, r7, r8, ⟨by decide, rfl, r9⟩⟩, r10⟩
  · intro p e g1 g2 g3 s m args below g4 g5 g6 g7
    obtain ⟨st, o, r1, r2, r3, v, L, r4, ⟨c0, c1, c2, c3, r5, r6, r7, r8, r9⟩, r10⟩ := rm_gc4p l Z a0 hw ws w_0 w_1 w_2 w_3 w_4 w_5 w_6 w_7 w_8 q0 o3 kk h0 n0 Z0 ST O0 hrg h1 h2 h3 (Va.pad (pad_rep [] (.int 0) 4)) geo p e g1 g2 g3 s m args below g4 g5 g6 g7
    exact ⟨st, o, r1, r2, r3, v, L, r4, ⟨_, c3, r5, r6, r7, r8, ⟨by decide, rfl, r9⟩⟩, r10⟩
  · intro p e g1 g2 g3 s m args below g4 g5 g6 g7
    obtain ⟨st, o, r1, r2, r3, v, L, r4, ⟨c0, c1, c2, c3, c4, r5, r6, r7, r8, r9⟩, r10⟩ := rm_gc4n l Z a0 hw ws w_0 w_1 w_2 w_3 w_4 w_5 w_6 w_7 w_8 q0 o3 kk h0 n0 Z0 ST O0 hrg h1 h2 h3 (Va.pad (pad_rep [] (.int 0) 5)) geo p e g1 g2 g3 s m args below g4 g5 g6 g7
    exact ⟨st, o, r1, r2, r3, v, L, r4, ⟨_, c4, r5, r6, r7, r8, ⟨by decide, rfl, r9⟩⟩, r10⟩
  · intro p e g1 g2 g3 s m args below g4 g5 g6 g7
    obtain ⟨st, o, r1, r2, r3, v, L, r4, ⟨c0, c1, c2, c3, c4, r5, r6, r7, r8, r9⟩, r10⟩ := rm_gc5p l Z a0 hw ws w_0 w_1 w_2 w_3 w_4 w_5 w_6 w_7 w_8 q0 o3 kk h0 n0 Z0 ST O0 hrg h1 h2 h3 (Va.pad (pad_rep [] (.int 0) 5)) geo p e g1 g2 g3 s m args below g4 g5 g6 g7
    exact ⟨st, o, r1, r2, r3, v, L, r4, ⟨_, c4, r5, r6, r7, r8, ⟨by decide, rfl, r9⟩⟩, r10⟩
  · intro p e g1 g2 g3 s m args below g4 g5 g6 g7
    obtain ⟨st, o, r1, r2, r3, v, L, r4, ⟨c0, c1, c2, c3, c4, c5, r5, r6, r7, r8, r9⟩, r10⟩ := rm_gc5n l Z a0 hw ws w_0 w_1 w_2 w_3 w_4 w_5 w_6 w_7 w_8 q0 o3 kk h0 n0 Z0 ST O0 hrg h1 h2 h3 (Va.pad (pad_rep [] (.int 0) 6)) geo p e g1 g2 g3 s m args below g4 g5 g6 g7
    exact ⟨st, o, r1, r2, r3, v, L, r4, ⟨_, c5, r5, r6, r7, r8, ⟨by decide, rfl, r9⟩⟩, r10⟩
  · intro p e g1 g2 g3 s m args below g4 g5 g6 g7
    obtain ⟨st, o, r1, r2, r3, v, L, r4, ⟨c0, c1, c2, c3, c4, c5, r5, r6, r7, r8, r9⟩, r10⟩ := rm_gc6p l Z a0 hw ws w_0 w_1 w_2 w_3 w_4 w_5 w_6 w_7 w_8 q0 o3 kk h0 n0 Z0 ST O0 hrg h1 h2 h3 (Va.pad (pad_rep [] (.int 0) 6)) geo p e g1 g2 g3 s m args below g4 g5 g6 g7
    exact ⟨st, o, r1, r2, r3, v, L, r4, ⟨_, c5, r5, r6, r7, r8, ⟨by decide, rfl, r9⟩⟩, r10⟩
  · intro p e g1 g2 g3 s m args below g4 g5 g6 g7
    obtain ⟨st, o, r1, r2, r3, v, L, r4, ⟨c0, c1, c2, c3, c4, c5, c6, r5, r6, r7, r8, r9⟩, r10⟩ := rm_gc6n l Z a0 hw ws w_0 w_1 w_2 w_3 w_4 w_5 w_6 w_7 w_8 q0 o3 kk h0 n0 Z0 ST O0 hrg h1 h2 h3 (Va.pad (pad_rep [] (.int 0) 7)) geo p e g1 g2 g3 s m args below g4 g5 g6 g7
    exact ⟨st, o, r1, r2, r3, v, L, r4, ⟨_, c6, r5, r6, r7, r8, ⟨by decide, rfl, r9⟩⟩, r10⟩
  · intro p e g1 g2 g3 s m args below g4 g5 g6 g7
    obtain ⟨st, o, r1, r2, r3, v, L, r4, ⟨c0, c1, c2, c3, c4, c5, c6, r5, r6, r7, r8, r9⟩, r10⟩ := rm_gc7p l Z a0 hw ws w_0 w_1 w_2 w_3 w_4 w_5 w_6 w_7 w_8 q0 o3 kk h0 n0 Z0 ST O0 hrg h1 h2 h3 (Va.pad (pad_rep [] (.int 0) 7)) geo p e g1 g2 g3 s m args below g4 g5 g6 g7
    exact ⟨st, o, r1, r2, r3, v, L, r4, ⟨_, c6, r5, r6, r7, r8, ⟨by decide, rfl, r9⟩⟩, r10⟩
  · intro p e g1 g2 g3 s m args below g4 g5 g6 g7
    obtain ⟨st, o, r1, r2, r3, v, L, r4, ⟨c0, c1, c2, c3, c4, c5, c6, c7, r5, r6, r7, r8, r9⟩, r10⟩ := rm_gc7n l Z a0 hw ws w_0 w_1 w_2 w_3 w_4 w_5 w_6 w_7 w_8 q0 o3 kk h0 n0 Z0 ST O0 hrg h1 h2 h3 (Va.pad (pad_rep [] (.int 0) 8)) geo p e g1 g2 g3 s m args below g4 g5 g6 g7
    exact ⟨st, o, r1, r2, r3, v, L, r4, ⟨_, c7, r5, r6, r7, r8, ⟨by decide, rfl, r9⟩⟩, r10⟩
  · intro p e g1 g2 g3 s m args below g4 g5 g6 g7
    obtain ⟨st, o, r1, r2, r3, v, L, r4, ⟨c0, c1, c2, c3, c4, c5, c6, c7, r5, r6, r7, r8, r9⟩, r10⟩ := rm_gc8p l Z a0 hw ws w_0 w_1 w_2 w_3 w_4 w_5 w_6 w_7 w_8 q0 o3 kk h0 n0 Z0 ST O0 hrg h1 h2 h3 (Va.pad (pad_rep [] (.int 0) 8)) geo p e g1 g2 g3 s m args below g4 g5 g6 g7
    exact ⟨st, o, r1, r2, r3, v, L, r4, ⟨_, c7, r5, r6, r7, r8, ⟨by decide, rfl, r9⟩⟩, r10⟩
  · intro p e g1 g2 g3 s m args below g4 g5 g6 g7
    obtain ⟨st, o, r1, r2, r3, v, L, r4, ⟨c0, c1, c2, c3, c4, c5, c6, c7, c8, r5, r6, r7, r8, r9⟩, r10⟩ := rm_gc8n l Z a0 hw ws w_0 w_1 w_2 w_3 w_4 w_5 w_6 w_7 w_8 q0 o3 kk h0 n0 Z0 ST O0 hrg h1 h2 h3 (Va.pad (pad_rep [] (.int 0) 9)) geo p e g1 g2 g3 s m args below g4 g5 g6 g7
    exact ⟨st, o, r1, r2, r3, v, L, r4, ⟨_, c8, r5, r6, r7, r8, ⟨by decide, rfl, r9⟩⟩, r10⟩
  · intro p e g1 g2 g3 s m args below g4 g5 g6 g7
    obtain ⟨st, o, r1, r2, r3, v, L, r4, ⟨c0, c1, c2, c3, c4, c5, c6, c7, c8, r5, r6, r7, r8, r9⟩, r10⟩ := rm_gc9p l Z a0 hw ws w_0 w_1 w_2 w_3 w_4 w_5 w_6 w_7 w_8 q0 o3 kk h0 n0 Z0 ST O0 hrg h1 h2 h3 (Va.pad (pad_rep [] (.int 0) 9)) geo p e g1 g2 g3 s m args below g4 g5 g6 g7
    exact ⟨st, o, r1, r2, r3, v, L, r4, ⟨_, c8, r5, r6, r7, r8, ⟨by decide, rfl, r9⟩⟩, r10⟩
  · intro p e g1 g2 g3 s m args below g4 g5 g6 g7
    obtain ⟨st, o, r1, r2, r3, v, L, r4, ⟨c0, c1, c2, c3, c4, c5, c6, c7, c8, c9, r5, r6, r7, r8, r9⟩, r10⟩ := rm_gc9n l Z a0 hw ws w_0 w_1 w_2 w_3 w_4 w_5 w_6 w_7 w_8 q0 o3 kk h0 n0 Z0 ST O0 hrg h1 h2 h3 (Va.pad (pad_rep [] (.int 0) 10)) geo p e g1 g2 g3 s m args below g4 g5 g6 g7
    exact ⟨st, o, r1, r2, r3, v, L, r4, ⟨_, c9, r5, r6, r7, r8, ⟨by decide, rfl, r9⟩⟩, r10⟩
  · intro p e g1 g2 g3 s m args below g4 g5 g6 g7
    obtain ⟨st, o, r1, r2, r3, v, L, r4, ⟨c0, c1, c2, c3, c4, c5, c6, c7, c8, c9, r5, r6, r7, r8, r9⟩, r10⟩ := rm_gc10p l Z a0 hw ws w_0 w_1 w_2 w_3 w_4 w_5 w_6 w_7 w_8 q0 o3 kk h0 n0 Z0 ST O0 hrg h1 h2 (Va.pad (pad_rep [] (.int 0) 10)) geo p e g1 g2 g3 s m args below g4 g5 g6 g7
    exact ⟨st, o, r1, r2, r3, v, L, r4, ⟨_, c9, r5, r6, r7, r8, ⟨by decide, rfl, r9⟩⟩, r10⟩
  · intro p e g1 g2 g3 s m args below g4 g5 g6 g7
    obtain ⟨st, o, r1, r2, r3, v, L, r4, ⟨c0, c1, c2, c3, c4, c5, c6, c7, c8, c9, c10, r5, r6, r7, r8, r9⟩, r10⟩ := rm_gc10n l Z a0 hw ws w_0 w_1 w_2 w_3 w_4 w_5 w_6 w_7 w_8 q0 o3 kk h0 n0 Z0 ST O0 hrg h1 h2 (Va.pad (pad_rep [] (.int 0) 11)) geo p e g1 g2 g3 s m args below g4 g5 g6 g7
    exact ⟨st, o, r1, r2, r3, v, L, r4, ⟨_, c10, r5, r6, r7, r8, ⟨by decide, rfl, r9⟩⟩, r10⟩
theorem d14_0 : decode qc14 0 = .ok (.lload_n 0, 1) := by decide +kernel
theorem d14_1 : decode qc14 1 = .ok (.invokestatic 118, 3) := by decide +kernel
theorem ww87 (hw : HW Z a0) : Cond.before (Cond.methodLink cn_3 118 ({ cls := cn_3, name := "stringSize", desc := "(J)I" } : MethodName)) a0 Z = true := own_w hw 87 rfl
theorem ww89 (hw : HW Z a0) : Cond.before (Cond.code ({ cls := cn_3, name := "stringSize", desc := "(J)I" } : MethodName) jdk_35_method_15_code 6 (Option.some FieldType.int)) a0 Z = true := own_w hw 89 rfl
theorem pd_4 : parseMethodDescriptor "(J)I" = some ⟨[.long], some .int⟩ := by decide +kernel
theorem ww88 (hw : HW Z a0) : Cond.before (Cond.static ({ cls := cn_3, name := "stringSize", desc := "(J)I" } : MethodName)) a0 Z = true := own_w hw 88 rfl
theorem d14_4 : decode qc14 4 = .ok (.istore_n 2, 1) := by decide +kernel
theorem d14_5 : decode qc14 5 = .ok (.getstatic 13, 3) := by decide +kernel
theorem ww91 (hw : HW Z a0) : Cond.before (Cond.fieldLink cn_3 13 cn_2 "COMPACT_STRINGS" "Z") a0 Z = true := own_w hw 91 rfl
theorem d14_8 : decode qc14 8 = .ok (.ifCond .eq 24, 3) := by decide +kernel
theorem d14_11 : decode qc14 11 = .ok (.iload_n 2, 1) := by decide +kernel
theorem d14_12 : decode qc14 12 = .ok (.newarray .byte, 2) := by decide +kernel
theorem d14_14 : decode qc14 14 = .ok (.astore_n 3, 1) := by decide +kernel
theorem d14_15 : decode qc14 15 = .ok (.lload_n 0, 1) := by decide +kernel
theorem d14_16 : decode qc14 16 = .ok (.iload_n 2, 1) := by decide +kernel
theorem d14_17 : decode qc14 17 = .ok (.aload_n 3, 1) := by decide +kernel
theorem d14_18 : decode qc14 18 = .ok (.invokestatic 121, 3) := by decide +kernel
theorem ww94 (hw : HW Z a0) : Cond.before (Cond.methodLink cn_3 121 ({ cls := cn_3, name := "getChars", desc := "(JI[B)I" } : MethodName)) a0 Z = true := own_w hw 94 rfl
theorem ww96 (hw : HW Z a0) : Cond.before (Cond.code ({ cls := cn_3, name := "getChars", desc := "(JI[B)I" } : MethodName) jdk_35_method_14_code 11 (Option.some FieldType.int)) a0 Z = true := own_w hw 96 rfl
theorem pd_5 : parseMethodDescriptor "(JI[B)I" = some ⟨[.long, .int, (.array .byte)], some .int⟩ := by decide +kernel
theorem ww95 (hw : HW Z a0) : Cond.before (Cond.static ({ cls := cn_3, name := "getChars", desc := "(JI[B)I" } : MethodName)) a0 Z = true := own_w hw 95 rfl
theorem d14_21 : decode qc14 21 = .ok (.pop, 1) := by decide +kernel
theorem d14_22 : decode qc14 22 = .ok (.new 5, 3) := by decide +kernel
theorem ww100 (hw : HW Z a0) : Cond.before (Cond.classLink cn_3 5 cn_2) a0 Z = true := own_w hw 100 rfl
theorem ww92 (hw : HW Z a0) : Cond.before (Cond.initialized cn_2) a0 Z = true := own_w hw 92 rfl
theorem d14_25 : decode qc14 25 = .ok (.dup, 1) := by decide +kernel
theorem d14_26 : decode qc14 26 = .ok (.aload_n 3, 1) := by decide +kernel
theorem d14_27 : decode qc14 27 = .ok (.iconst 0, 1) := by decide +kernel
theorem d14_28 : decode qc14 28 = .ok (.invokespecial 112, 3) := by decide +kernel
theorem ww102 (hw : HW Z a0) : Cond.before (Cond.methodLink cn_3 112 ({ cls := cn_2, name := "<init>", desc := "([BB)V" } : MethodName)) a0 Z = true := own_w hw 102 rfl
theorem ww105 (hw : HW Z a0) : Cond.before (Cond.code ({ cls := cn_2, name := "<init>", desc := "([BB)V" } : MethodName) jdk_42_method_151_code 3 (Option.none : Option Jvm.ClassFile.FieldType)) a0 Z = true := own_w hw 105 rfl
theorem pd_6 : parseMethodDescriptor "([BB)V" = some ⟨[(.array .byte), .byte], none⟩ := by decide +kernel
theorem ww103 (hw : HW Z a0) : Cond.before (Cond.instanceMethod ({ cls := cn_2, name := "<init>", desc := "([BB)V" } : MethodName)) a0 Z = true := own_w hw 103 rfl
theorem d14_31 : decode qc14 31 = .ok (.areturn, 1) := by decide +kernel
abbrev rr_ts : Room := { frames := 2, cells := 2, slots := 15, locals := 27 }
abbrev y_14 : MethodName := ⟨cn_3, "toString", cn_25⟩
theorem ef_ts (m : MethodId) (q0 : Int64) : entryFrame m #[(.long q0)] 4 = mkF m 0 #[vL q0, s_, u_, u_] [] := by first | (simp [entryFrame, mkF, argsToLocals, Value.category]; done) | rfl
def Q_ts (Z : State) (w_0 : Addr) (w_1 : Addr) (w_2 : Addr) (w_3 : Addr) (w_4 : Addr) (w_5 : Addr) (w_6 : Addr) (w_7 : Int32) (w_8 : Value) (q0 : Int64) (h0 : Heap) (n0 : Nat) (v : Option Value) (h : Heap) (L : List Loc) : Prop := ∃ b : Addr, ∃ t : Addr, ∃ kk : ClassId, ∃ n : Int32, ∃ vs : List Value, ∃ z : Int32, v = some (.ref b) ∧ Fr n0 L ∧ Keep h0 h [] ∧ Exa Z h b cn_2 ∧ Fld Z h b cn_2 "value" "[B" (.ref t) ∧ Fld Z h b cn_2 "coder" "B" (.int 0) ∧ Arv Z h t kk .byte n vs (.int 0) ∧ own_last n vs z
theorem rm_ts (l : Launch) (Z : State) (a0 : Array Value) (hw : HW Z a0) (ws : List Jvm.Cond) (w_0 : Addr) (w_1 : Addr) (w_2 : Addr) (w_3 : Addr) (w_4 : Addr) (w_5 : Addr) (w_6 : Addr) (w_7 : Int32) (w_8 : Value) (q0 : Int64) (h0 : Heap) (n0 : Nat) (Z0 : n0 ≤ h0.size) (ST : own_St Z w_0 w_1 w_2 w_3 w_4 w_5 w_6 w_7 w_8) (O0 : Old Z n0 h0) (hrg : -2147483648 ≤ q0.toInt ∧ q0.toInt ≤ 2147483647) :
    MetFree l y_14 (head1 (Jvm.Cond.code y_14 jdk_35_method_12_code 4 (some (.object cn_2)) :: ws) rr_ts) (fun a U => a = #[(.long q0)] ∧ Z.Warmed39 U.vm ∧ U.heap = h0) (fun _ _ _ _ _ => True) (fun _ U o U' => ∃ v L, o = .returned v ∧ Q_ts Z w_0 w_1 w_2 w_3 w_4 w_5 w_6 w_7 w_8 q0 h0 n0 v U'.heap L ∧ FrameEnd U o U' L rr_ts.cells rr_ts.slots) := by
  refine MetFree.of_bodySF (plainFor_of_name pn_5) hisR ?_
  intro p e s m args below meth c s₁ Bd hml0 hP hK
  obtain ⟨rfl, hZ, hh⟩ := hP
  have hx := Bd.exec
  have hby := Bd.bytes
  have B := @hb _ _ hby
  have hml : c.maxLocals = 4 := hml0
  have hown : s.vm.findClass cn_3 = some m.cls := findClass_of_methodNamed Bd.named
  have X0 : Stand p l e rr_ts s m #[(.long q0)] below meth c s₁ [] 0 0 := Stand.of_body Bd
  have e0 : s₁.heap = h0 := by rw [← hh, Bd.state]; rfl
  have N0 := Fr.nil n0
  have K0 : Keep h0 h0 [] := Keep.refl _ _
  obtain ⟨G, step, ret, fin⟩ := own_openX X0 (rr_ts.cells) (rr_ts.slots) (Q_ts Z w_0 w_1 w_2 w_3 w_4 w_5 w_6 w_7 w_8 q0 h0 n0) Bd.notSynchronized
  refine fin (g := entryFrame m #[(.long q0)] 4) ?_
  rw [ef_ts m q0]
  refine step (fun t k => XS.lloadN X0.here hx rfl (B d14_0) rfl k) ?_
  have hK1 := (backOf (R := rr_ts) (p := p) (e := e) (below := below) (s := s) (args := #[(.long q0)]) (len := 3) (W := 0) (rm_ss l Z a0 hw [] w_0 w_1 w_2 w_3 w_4 w_5 w_6 w_7 w_8 q0 h0 n0 (own_old_le O0) ST O0 hrg) hZ (ww89 hw) (ww33 hw) (by decide) (by decide))
  obtain ⟨_, _, ⟨T1, L1, k1, n1⟩, -, X1, ⟨Lc1, hQ1, l1, y1, z1⟩, st1⟩ := Jvm.LawKit.callS X0 hx (y := y_11) hown (mvT hZ (ww87 hw)) (mvT hZ (ww88 hw)) (mvT hZ (ww33 hw)) (mvT hZ (ww89 hw)) (by decide) hK1 (g := (mkF m 1 #[vL q0, s_, u_, u_] [(.long q0)])) rfl (by rw [hml]; rfl) (argsL := [(.long q0)]) (rest := []) (lenOf pd_4 rfl) rfl (by show 2 * 0 + _ ≤ _; exact Nat.le_of_eq rfl) (B d14_1) (fun _ _ => ⟨rfl, e0, (by decide : 0 + 0 ≤ _), (by decide : 0 + 0 ≤ _)⟩)
  dsimp only [Pt.U, Pt.locs, Pt.cells, Pt.slots] at X1 l1 y1 z1 st1 hQ1
  subst l1 y1 z1
  obtain ⟨n_1, rfl, N1q, K1q, Y1_0⟩ := hQ1
  have N1 := Fr.app N0 N1q
  obtain ⟨lc1, X1, N1⟩ := own_gen X1 N1
  have O1 := O0.keep K1q all0
  have K1 : Keep h0 T1.heap [] := K0.trans K1q all0
  refine step (fun t k => st1 t k) ?_
  refine step (fun t k => XS.istoreN X1.here hx rfl (B d14_4) rfl (l' := #[vL q0, s_, vI n_1, u_]) rfl k) ?_
  obtain ⟨T2, X2, e2, st2⟩ := getS2 X1 hx hZ hown (host := "") (Or.inl (ww91 hw)) Via.refl rfl (Sta.ext O1.2 ST.k18) (g := (mkF m 5 #[vL q0, s_, vI n_1, u_] [])) rfl (B d14_5)
  refine step st2 ?_
  refine step (fun t k => XS.ifNo X2.here hx rfl (B d14_8) rfl ((if0 _ _).trans (feq ST.k21).1) k) ?_
  refine step (fun t k => XS.iloadN X2.here hx rfl (B d14_11) rfl k) ?_
  obtain ⟨T4, h4, k4, X4, e4, E4, A4, B4, st4⟩ := newPE (aty := .byte) X2 hx hZ (ww93 hw) e2 (g := (mkF m 12 #[vL q0, s_, vI n_1, u_] [(.int n_1)])) rfl (B d14_12) rfl (own_szb Y1_0).1 (cap := 11) (own_szb Y1_0).2 (by decide) (by decide) (by decide) (ad := "[B") (by decide)
  obtain ⟨b4, g4⟩ : ∃ z, z = T1.heap.size := ⟨_, rfl⟩
  rw [← g4] at A4 B4 st4
  have V4 : Arv Z h4 b4 k4 .byte n_1 [] (.int 0) := Arv.new A4 (own_szb Y1_0).1
  have ge_b4 : n0 ≤ b4 := Nat.le_trans (own_old_le O1) (Nat.le_of_eq g4.symm)
  have sz_b4 : h0.size ≤ b4 := Nat.le_trans K1.1 (Nat.le_of_eq g4.symm)
  have O4 := O1.ext E4
  have K4 : Keep h0 h4 [] := K1.ext E4
  refine step st4 ?_
  refine step (fun t k => XS.astoreN X4.here hx rfl (B d14_14) rfl rfl (l' := #[vL q0, s_, vI n_1, vR b4]) rfl k) ?_
  refine step (fun t k => XS.lloadN X4.here hx rfl (B d14_15) rfl k) ?_
  refine step (fun t k => XS.iloadN X4.here hx rfl (B d14_16) rfl k) ?_
  refine step (fun t k => XS.aloadN X4.here hx rfl (B d14_17) rfl rfl k) ?_
  have hK5 := (backOf (R := rr_ts) (p := p) (e := e) (below := below) (s := s) (args := #[(.long q0)]) (len := 3) (W := 0) (rm_gc l Z a0 hw [] w_0 w_1 w_2 w_3 w_4 w_5 w_6 w_7 w_8 q0 n_1 b4 k4 h4 n0 (own_old_le O4) ST O4 hrg Y1_0 V4 ge_b4) hZ (ww96 hw) (ww33 hw) (by decide) (by decide))
  obtain ⟨_, _, ⟨T5, L5, k5, n5⟩, -, X5, ⟨Lc5, hQ5, l5, y5, z5⟩, st5⟩ := Jvm.LawKit.callS X4 hx (y := y_12) hown (mvT hZ (ww94 hw)) (mvT hZ (ww95 hw)) (mvT hZ (ww33 hw)) (mvT hZ (ww96 hw)) (by decide) hK5 (g := (mkF m 18 #[vL q0, s_, vI n_1, vR b4] [(.ref b4), (.int n_1), (.long q0)])) rfl (by rw [hml]; rfl) (argsL := [(.long q0), (.int n_1), (.ref b4)]) (rest := []) (lenOf pd_5 rfl) rfl (by show 2 * 0 + _ ≤ _; exact Nat.le_of_eq rfl) (B d14_18) (fun _ _ => ⟨rfl, e4, (by decide : 1 + 0 ≤ _), (by decide : 11 + 0 ≤ _)⟩)
  dsimp only [Pt.U, Pt.locs, Pt.cells, Pt.slots] at X5 l5 y5 z5 st5 hQ5
  subst l5 y5 z5
  obtain ⟨vs_5, z_5, rfl, N5q, K5q, Y5_0, Y5_1⟩ := hQ5
  have N5 := Fr.app N1 N5q
  obtain ⟨lc5, X5, N5⟩ := own_gen X5 N5
  have O5 := O4.keep K5q (allS ge_b4 all0)
  have K5 : Keep h0 T5.heap [] := K4.trans K5q (allS (Or.inr sz_b4) all0)
  refine step (fun t k => st5 t k) ?_
  refine step (fun t k => XS.pop X5.here hx rfl (B d14_21) rfl rfl k) ?_
  obtain ⟨T6, h6, X6, e6, E6, A6, D6, -, st6⟩ := newO X5 hx hZ hown (ww100 hw) (ww101 hw) (ww92 hw) rfl (g := (mkF m 22 #[vL q0, s_, vI n_1, vR b4] [])) rfl (B d14_22) (by decide) (by decide)
  obtain ⟨b6, g6⟩ : ∃ z, z = T5.heap.size := ⟨_, rfl⟩
  rw [← g6] at A6 D6 st6
  have ge_b6 : n0 ≤ b6 := Nat.le_trans (own_old_le O5) (Nat.le_of_eq g6.symm)
  have sz_b6 : h0.size ≤ b6 := Nat.le_trans K5.1 (Nat.le_of_eq g6.symm)
  have lt_b4_b6 : b4 < b6 := Nat.lt_of_lt_of_le Y5_0.lt (Nat.le_of_eq g6.symm)
  have O6 := O5.ext E6
  have K6 : Keep h0 h6 [] := K5.ext E6
  have F6_value : Fld Z h6 b6 cn_2 "value" "[B" .null := D6 (Or.inr (ww108 hw)) (ty := (.array .byte)) (by decide)
  have F6_coder : Fld Z h6 b6 cn_2 "coder" "B" (.int 0) := D6 (Or.inr (ww110 hw)) (ty := .byte) (by decide)
  refine step st6 ?_
  refine step (fun t k => XS.dup X6.here hx rfl (B d14_25) rfl rfl k) ?_
  refine step (fun t k => XS.aloadN X6.here hx rfl (B d14_26) rfl rfl k) ?_
  refine step (fun t k => XS.iconst X6.here hx rfl (B d14_27) k) ?_
  have hK7 := (backOf (R := rr_ts) (p := p) (e := e) (below := below) (s := s) (args := #[(.long q0)]) (len := 3) (W := 1) (rm_si l Z a0 hw [] w_0 w_1 w_2 w_3 w_4 w_5 w_6 w_7 w_8 b6 b4 h6 n0 (own_old_le O6) ST O6 A6 ge_b6 F6_value F6_coder) hZ (ww105 hw) (ww92 hw) (by decide) (by decide))
  obtain ⟨_, _, ⟨T7, L7, k7, n7⟩, -, X7, ⟨Lc7, hQ7, l7, y7, z7⟩, st7⟩ := X6.specialBack hx (y := y_13) rfl hown (mvT hZ (ww102 hw)) (mvT hZ (ww103 hw)) (mvT hZ (ww105 hw)) (by decide) hK7 (g := (mkF m 28 #[vL q0, s_, vI n_1, vR b4] [(.int 0), (.ref b4), (.ref b6), (.ref b6)])) rfl (by rw [hml]; rfl) (Steps.refl _) (a := b6) (argsL := [(.ref b4), (.int 0)]) (rest := [(.ref b6)]) (lenOf pd_6 rfl) rfl (by show 2 * 0 + _ ≤ _; exact Nat.le_of_eq rfl) (B d14_28) (fun _ _ => ⟨rfl, e6, (by decide : 2 + 0 ≤ _), (by decide : 15 + 0 ≤ _)⟩)
  dsimp only [Pt.U, Pt.locs, Pt.cells, Pt.slots] at X7 l7 y7 z7 st7 hQ7
  subst l7 y7 z7
  obtain ⟨rfl, N7q, K7q, Y7_0, Y7_1, Y7_2⟩ := hQ7
  have N7 := Fr.app N5 N7q
  obtain ⟨lc7, X7, N7⟩ := own_gen X7 N7
  have K7 : Keep h0 T7.heap [] := K6.trans K7q (allS (Or.inr sz_b6) all0)
  refine step (fun t k => st7.trans k) ?_
  have f8 := (Arv.keep (Y5_0.ext E6) K7q (ninS (Nat.ne_of_lt lt_b4_b6) nin0))
  exact ret (v := some (.ref b6)) X7 (fun h => by rw [Bd.returns] at h; cases h) (fun fs hr => retA X7 hx Bd.returns rfl rfl (B d14_31) hr) rfl ⟨b6, b4, k4, n_1, vs_5, z_5, rfl, N7, K7, Y7_0, Y7_1, Y7_2, f8, Y5_1⟩ (by decide) (by decide)
theorem d15_0 : decode qc15 0 = .ok (.getstatic 38, 3) := by decide +kernel
theorem ww121 (hw : HW Z a0) : Cond.before (Cond.fieldLink cn_2 38 cn_2 "COMPACT_STRINGS" "Z") a0 Z = true := own_w hw 121 rfl
theorem d15_3 : decode qc15 3 = .ok (.ifCond .eq 10, 3) := by decide +kernel
theorem d15_6 : decode qc15 6 = .ok (.aload_n 0, 1) := by decide +kernel
theorem d15_7 : decode qc15 7 = .ok (.getfield 15, 3) := by decide +kernel
theorem d15_10 : decode qc15 10 = .ok (.goto 4, 3) := by decide +kernel
theorem d15_14 : decode qc15 14 = .ok (.ireturn, 1) := by decide +kernel
abbrev rr_co : Room := { frames := 0, cells := 0, slots := 0, locals := 0 }
abbrev y_15 : MethodName := ⟨cn_2, "coder", "()B"⟩
theorem ef_co (m : MethodId) (o0 : Addr) : entryFrame m #[(.ref o0)] 1 = mkF m 0 #[vR o0] [] := by first | (simp [entryFrame, mkF, argsToLocals, Value.category]; done) | rfl
def f_co (w_0 : Addr) (w_1 : Addr) (w_2 : Addr) (w_3 : Addr) (w_4 : Addr) (w_5 : Addr) (w_6 : Addr) (w_7 : Int32) (w_8 : Value) (o0 : Addr) : Int32 := (0 : Int32)
def Q_co (Z : State) (w_0 : Addr) (w_1 : Addr) (w_2 : Addr) (w_3 : Addr) (w_4 : Addr) (w_5 : Addr) (w_6 : Addr) (w_7 : Int32) (w_8 : Value) (o0 : Addr) (h0 : Heap) (n0 : Nat) (v : Option Value) (h : Heap) (L : List Loc) : Prop := v = some (.int (f_co w_0 w_1 w_2 w_3 w_4 w_5 w_6 w_7 w_8 o0)) ∧ Fr n0 L ∧ h = h0
theorem rm_co (l : Launch) (Z : State) (a0 : Array Value) (hw : HW Z a0) (ws : List Jvm.Cond) (w_0 : Addr) (w_1 : Addr) (w_2 : Addr) (w_3 : Addr) (w_4 : Addr) (w_5 : Addr) (w_6 : Addr) (w_7 : Int32) (w_8 : Value) (o0 : Addr) (h0 : Heap) (n0 : Nat) (Z0 : n0 ≤ h0.size) (ST : own_St Z w_0 w_1 w_2 w_3 w_4 w_5 w_6 w_7 w_8) (O0 : Old Z n0 h0) (Fc : Fld Z h0 o0 cn_2 "coder" "B" (.int 0)) :
    MetFree l y_15 (head1 (Jvm.Cond.code y_15 jdk_42_method_152_code 1 (some .byte) :: ws) rr_co) (fun a U => a = #[(.ref o0)] ∧ Z.Warmed39 U.vm ∧ U.heap = h0) (fun _ _ _ _ _ => True) (fun _ U o U' => ∃ v L, o = .returned v ∧ Q_co Z w_0 w_1 w_2 w_3 w_4 w_5 w_6 w_7 w_8 o0 h0 n0 v U'.heap L ∧ FrameEnd U o U' L rr_co.cells rr_co.slots) := by
  refine MetFree.of_bodySF (plainFor_of_name pn_7) hisR ?_
  intro p e s m args below meth c s₁ Bd hml0 hP hK
  obtain ⟨rfl, hZ, hh⟩ := hP
  have hx := Bd.exec
  have hby := Bd.bytes
  have B := @hb _ _ hby
  have hml : c.maxLocals = 1 := hml0
  have hown : s.vm.findClass cn_2 = some m.cls := findClass_of_methodNamed Bd.named
  have X0 : Stand p l e rr_co s m #[(.ref o0)] below meth c s₁ [] 0 0 := Stand.of_body Bd
  have e0 : s₁.heap = h0 := by rw [← hh, Bd.state]; rfl
  have N0 := Fr.nil n0
  obtain ⟨G, step, ret, fin⟩ := own_openX X0 (rr_co.cells) (rr_co.slots) (Q_co Z w_0 w_1 w_2 w_3 w_4 w_5 w_6 w_7 w_8 o0 h0 n0) Bd.notSynchronized
  refine fin (g := entryFrame m #[(.ref o0)] 1) ?_
  rw [ef_co m o0]
  obtain ⟨T1, X1, e1, st1⟩ := getS2 X0 hx hZ hown (host := "") (Or.inl (ww121 hw)) Via.refl e0 (Sta.ext O0.2 ST.k18) (g := (mkF m 0 #[vR o0] [])) rfl (B d15_0)
  refine step st1 ?_
  refine step (fun t k => XS.ifNo X1.here hx rfl (B d15_3) rfl ((if0 _ _).trans (feq ST.k21).1) k) ?_
  refine step (fun t k => XS.aloadN X1.here hx rfl (B d15_6) rfl rfl k) ?_
  obtain ⟨T2, X2, e2, st2⟩ := getF X1 hx hZ hown (host := "") (Or.inl (ww109 hw)) Via.refl e1 Fc (g := (mkF m 7 #[vR o0] [(.ref o0)])) rfl rfl (B d15_7)
  refine step st2 ?_
  refine step (fun t k => XS.goto X2.here hx rfl (pc0 := 10) (pc' := 14) rfl (B d15_10) (by decide) (by decide) k) ?_
  exact ret (v := some (.int 0)) X2 (fun h => by rw [Bd.returns] at h; cases h) (fun fs hr => retN X2 hx (t := .byte) Bd.returns (by simp) (B d15_14) hr) e2 ⟨rfl, N0, rfl⟩ (by decide) (by decide)
theorem d16_0 : decode qc16 0 = .ok (.getstatic 38, 3) := by decide +kernel
theorem d16_3 : decode qc16 3 = .ok (.ifCond .eq 14, 3) := by decide +kernel
theorem d16_6 : decode qc16 6 = .ok (.aload_n 0, 1) := by decide +kernel
theorem d16_7 : decode qc16 7 = .ok (.getfield 15, 3) := by decide +kernel
theorem d16_10 : decode qc16 10 = .ok (.ifCond .ne 7, 3) := by decide +kernel
theorem d16_13 : decode qc16 13 = .ok (.iconst 1, 1) := by decide +kernel
theorem d16_14 : decode qc16 14 = .ok (.goto 4, 3) := by decide +kernel
theorem d16_18 : decode qc16 18 = .ok (.ireturn, 1) := by decide +kernel
abbrev rr_la : Room := { frames := 0, cells := 0, slots := 0, locals := 0 }
abbrev y_16 : MethodName := ⟨cn_2, "isLatin1", "()Z"⟩
theorem ef_la (m : MethodId) (o0 : Addr) : entryFrame m #[(.ref o0)] 1 = mkF m 0 #[vR o0] [] := by first | (simp [entryFrame, mkF, argsToLocals, Value.category]; done) | rfl
def f_la (w_0 : Addr) (w_1 : Addr) (w_2 : Addr) (w_3 : Addr) (w_4 : Addr) (w_5 : Addr) (w_6 : Addr) (w_7 : Int32) (w_8 : Value) (o0 : Addr) : Int32 := (1 : Int32)
def Q_la (Z : State) (w_0 : Addr) (w_1 : Addr) (w_2 : Addr) (w_3 : Addr) (w_4 : Addr) (w_5 : Addr) (w_6 : Addr) (w_7 : Int32) (w_8 : Value) (o0 : Addr) (h0 : Heap) (n0 : Nat) (v : Option Value) (h : Heap) (L : List Loc) : Prop := v = some (.int (f_la w_0 w_1 w_2 w_3 w_4 w_5 w_6 w_7 w_8 o0)) ∧ Fr n0 L ∧ h = h0
theorem rm_la (l : Launch) (Z : State) (a0 : Array Value) (hw : HW Z a0) (ws : List Jvm.Cond) (w_0 : Addr) (w_1 : Addr) (w_2 : Addr) (w_3 : Addr) (w_4 : Addr) (w_5 : Addr) (w_6 : Addr) (w_7 : Int32) (w_8 : Value) (o0 : Addr) (h0 : Heap) (n0 : Nat) (Z0 : n0 ≤ h0.size) (ST : own_St Z w_0 w_1 w_2 w_3 w_4 w_5 w_6 w_7 w_8) (O0 : Old Z n0 h0) (Fc : Fld Z h0 o0 cn_2 "coder" "B" (.int 0)) :
    MetFree l y_16 (head1 (Jvm.Cond.code y_16 jdk_42_method_154_code 1 (some .boolean) :: ws) rr_la) (fun a U => a = #[(.ref o0)] ∧ Z.Warmed39 U.vm ∧ U.heap = h0) (fun _ _ _ _ _ => True) (fun _ U o U' => ∃ v L, o = .returned v ∧ Q_la Z w_0 w_1 w_2 w_3 w_4 w_5 w_6 w_7 w_8 o0 h0 n0 v U'.heap L ∧ FrameEnd U o U' L rr_la.cells rr_la.slots) := by
  refine MetFree.of_bodySF (plainFor_of_name pn_7) hisR ?_
  intro p e s m args below meth c s₁ Bd hml0 hP hK
  obtain ⟨rfl, hZ, hh⟩ := hP
  have hx := Bd.exec
  have hby := Bd.bytes
  have B := @hb _ _ hby
  have hml : c.maxLocals = 1 := hml0
  have hown : s.vm.findClass cn_2 = some m.cls := findClass_of_methodNamed Bd.named
  have X0 : Stand p l e rr_la s m #[(.ref o0)] below meth c s₁ [] 0 0 := Stand.of_body Bd
  have e0 : s₁.heap = h0 := by rw [← hh, Bd.state]; rfl
  have N0 := Fr.nil n0
  obtain ⟨G, step, ret, fin⟩ := own_openX X0 (rr_la.cells) (rr_la.slots) (Q_la Z w_0 w_1 w_2 w_3 w_4 w_5 w_6 w_7 w_8 o0 h0 n0) Bd.notSynchronized
  refine fin (g := entryFrame m #[(.ref o0)] 1) ?_
  rw [ef_la m o0]
  obtain ⟨T1, X1, e1, st1⟩ := getS2 X0 hx hZ hown (host := "") (Or.inl (ww121 hw)) Via.refl e0 (Sta.ext O0.2 ST.k18) (g := (mkF m 0 #[vR o0] [])) rfl (B d16_0)
  refine step st1 ?_
  refine step (fun t k => XS.ifNo X1.here hx rfl (B d16_3) rfl ((if0 _ _).trans (feq ST.k21).1) k) ?_
  refine step (fun t k => XS.aloadN X1.here hx rfl (B d16_6) rfl rfl k) ?_
  obtain ⟨T2, X2, e2, st2⟩ := getF X1 hx hZ hown (host := "") (Or.inl (ww109 hw)) Via.refl e1 Fc (g := (mkF m 7 #[vR o0] [(.ref o0)])) rfl rfl (B d16_7)
  refine step st2 ?_
  refine step (fun t k => XS.ifNo X2.here hx rfl (B d16_10) rfl ((if0 _ _).trans (teq (by decide : (0 : Int32) = (0 : Int32))).2) k) ?_
  refine step (fun t k => XS.iconst X2.here hx rfl (B d16_13) k) ?_
  refine step (fun t k => XS.goto X2.here hx rfl (pc0 := 14) (pc' := 18) rfl (B d16_14) (by decide) (by decide) k) ?_
  exact ret (v := some (.int 1)) X2 (fun h => by rw [Bd.returns] at h; cases h) (fun fs hr => retN X2 hx (t := .boolean) Bd.returns (by simp) (B d16_18) hr) e2 ⟨rfl, N0, rfl⟩ (by decide) (by decide)
theorem d17_0 : decode qc17 0 = .ok (.aload_n 0, 1) := by decide +kernel
theorem d17_1 : decode qc17 1 = .ok (.getfield 9, 3) := by decide +kernel
theorem d17_4 : decode qc17 4 = .ok (.arraylength, 1) := by decide +kernel
theorem d17_5 : decode qc17 5 = .ok (.aload_n 0, 1) := by decide +kernel
theorem d17_6 : decode qc17 6 = .ok (.invokevirtual 335, 3) := by decide +kernel
theorem ww116 (hw : HW Z a0) : Cond.before (Cond.methodLink cn_2 335 ({ cls := cn_2, name := "coder", desc := "()B" } : MethodName)) a0 Z = true := own_w hw 116 rfl
theorem ww119 (hw : HW Z a0) : Cond.before (Cond.selects cn_2 ({ cls := cn_2, name := "coder", desc := "()B" } : MethodName) ({ cls := cn_2, name := "coder", desc := "()B" } : MethodName)) a0 Z = true := own_w hw 119 rfl
theorem ww120 (hw : HW Z a0) : Cond.before (Cond.code ({ cls := cn_2, name := "coder", desc := "()B" } : MethodName) jdk_42_method_152_code 1 (Option.some FieldType.byte)) a0 Z = true := own_w hw 120 rfl
theorem pd_7 : parseMethodDescriptor "()B" = some ⟨[], some .byte⟩ := by decide +kernel
theorem ww117 (hw : HW Z a0) : Cond.before (Cond.declares ({ cls := cn_2, name := "coder", desc := "()B" } : MethodName)) a0 Z = true := own_w hw 117 rfl
theorem ww118 (hw : HW Z a0) : Cond.before (Cond.instanceMethod ({ cls := cn_2, name := "coder", desc := "()B" } : MethodName)) a0 Z = true := own_w hw 118 rfl
theorem d17_9 : decode qc17 9 = .ok (.ishr, 1) := by decide +kernel
theorem d17_10 : decode qc17 10 = .ok (.ireturn, 1) := by decide +kernel
abbrev rr_le : Room := { frames := 1, cells := 0, slots := 0, locals := 13 }
abbrev y_17 : MethodName := ⟨cn_2, "length", "()I"⟩
theorem ef_le (m : MethodId) (o0 : Addr) : entryFrame m #[(.ref o0)] 1 = mkF m 0 #[vR o0] [] := by first | (simp [entryFrame, mkF, argsToLocals, Value.category]; done) | rfl
def f_le (w_0 : Addr) (w_1 : Addr) (w_2 : Addr) (w_3 : Addr) (w_4 : Addr) (w_5 : Addr) (w_6 : Addr) (w_7 : Int32) (w_8 : Value) (o0 : Addr) (t : Addr) (kk : ClassId) (n : Int32) (vs : List Value) : Int32 := n
def Q_le (Z : State) (w_0 : Addr) (w_1 : Addr) (w_2 : Addr) (w_3 : Addr) (w_4 : Addr) (w_5 : Addr) (w_6 : Addr) (w_7 : Int32) (w_8 : Value) (o0 : Addr) (t : Addr) (kk : ClassId) (n : Int32) (vs : List Value) (h0 : Heap) (n0 : Nat) (v : Option Value) (h : Heap) (L : List Loc) : Prop := v = some (.int (f_le w_0 w_1 w_2 w_3 w_4 w_5 w_6 w_7 w_8 o0 t kk n vs)) ∧ Fr n0 L ∧ h = h0
theorem rm_le (l : Launch) (Z : State) (a0 : Array Value) (hw : HW Z a0) (ws : List Jvm.Cond) (w_0 : Addr) (w_1 : Addr) (w_2 : Addr) (w_3 : Addr) (w_4 : Addr) (w_5 : Addr) (w_6 : Addr) (w_7 : Int32) (w_8 : Value) (o0 : Addr) (t : Addr) (kk : ClassId) (n : Int32) (vs : List Value) (h0 : Heap) (n0 : Nat) (Z0 : n0 ≤ h0.size) (ST : own_St Z w_0 w_1 w_2 w_3 w_4 w_5 w_6 w_7 w_8) (O0 : Old Z n0 h0) (Es : Exa Z h0 o0 cn_2) (Fv : Fld Z h0 o0 cn_2 "value" "[B" (.ref t)) (Fc : Fld Z h0 o0 cn_2 "coder" "B" (.int 0)) (Va : Arv Z h0 t kk .byte n vs (.int 0)) :
    MetFree l y_17 (head1 (Jvm.Cond.code y_17 jdk_42_method_54_code 1 (some .int) :: ws) rr_le) (fun a U => a = #[(.ref o0)] ∧ Z.Warmed39 U.vm ∧ U.heap = h0) (fun _ _ _ _ _ => True) (fun _ U o U' => ∃ v L, o = .returned v ∧ Q_le Z w_0 w_1 w_2 w_3 w_4 w_5 w_6 w_7 w_8 o0 t kk n vs h0 n0 v U'.heap L ∧ FrameEnd U o U' L rr_le.cells rr_le.slots) := by
  refine MetFree.of_bodySF (plainFor_of_name pn_7) hisR ?_
  intro p e s m args below meth c s₁ Bd hml0 hP hK
  obtain ⟨rfl, hZ, hh⟩ := hP
  have hx := Bd.exec
  have hby := Bd.bytes
  have B := @hb _ _ hby
  have hml : c.maxLocals = 1 := hml0
  have hown : s.vm.findClass cn_2 = some m.cls := findClass_of_methodNamed Bd.named
  have X0 : Stand p l e rr_le s m #[(.ref o0)] below meth c s₁ [] 0 0 := Stand.of_body Bd
  have e0 : s₁.heap = h0 := by rw [← hh, Bd.state]; rfl
  have N0 := Fr.nil n0
  obtain ⟨G, step, ret, fin⟩ := own_openX X0 (rr_le.cells) (rr_le.slots) (Q_le Z w_0 w_1 w_2 w_3 w_4 w_5 w_6 w_7 w_8 o0 t kk n vs h0 n0) Bd.notSynchronized
  refine fin (g := entryFrame m #[(.ref o0)] 1) ?_
  rw [ef_le m o0]
  refine step (fun t k => XS.aloadN X0.here hx rfl (B d17_0) rfl rfl k) ?_
  obtain ⟨T1, X1, e1, st1⟩ := getF X0 hx hZ hown (host := "") (Or.inl (ww107 hw)) Via.refl e0 Fv (g := (mkF m 1 #[vR o0] [(.ref o0)])) rfl rfl (B d17_1)
  refine step st1 ?_
  have q2 := own_len X1 hx hZ e1 Va (g := (mkF m 4 #[vR o0] [(.ref t)])) rfl rfl (B d17_4)
  refine step q2 ?_
  refine step (fun t k => XS.aloadN X1.here hx rfl (B d17_5) rfl rfl k) ?_
  have hK3 := (backOf (R := rr_le) (p := p) (e := e) (below := below) (s := s) (args := #[(.ref o0)]) (len := 3) (W := 1) (rm_co l Z a0 hw [] w_0 w_1 w_2 w_3 w_4 w_5 w_6 w_7 w_8 o0 h0 n0 (own_old_le O0) ST O0 Fc) hZ (ww120 hw) (ww92 hw) (by decide) (by decide))
  obtain ⟨cq3, kq3, q3a, q3b, q3c⟩ := isOf hZ e1 Es
  obtain ⟨_, _, ⟨T3, L3, k3, n3⟩, -, X3, ⟨Lc3, hQ3, l3, y3, z3⟩, st3⟩ := X1.virtualBack hx (y := y_15) (z := y_15) hown (mvT hZ (ww116 hw)) (mvT hZ (ww117 hw)) (notFace_of_selects (args := #[]) (mvT hZ (ww119 hw))) (mvT hZ (ww119 hw)) (mvT hZ (ww118 hw)) (by decide) hK3 q3a q3c (g := (mkF m 6 #[vR o0] [(.ref o0), (.int n)])) rfl (by rw [hml]; rfl) (Steps.refl _) (argsL := []) (rest := [(.int n)]) (lenOf pd_7 rfl) rfl (by show 2 * 0 + _ ≤ _; exact Nat.le_of_eq rfl) (B d17_6) (fun _ _ => ⟨rfl, e1, (by decide : 0 + 0 ≤ _), (by decide : 0 + 0 ≤ _)⟩)
  dsimp only [Pt.U, Pt.locs, Pt.cells, Pt.slots] at X3 l3 y3 z3 st3 hQ3
  subst l3 y3 z3
  obtain ⟨rfl, N3q, e3⟩ := hQ3
  have N3 := Fr.app N0 N3q
  obtain ⟨lc3, X3, N3⟩ := own_gen X3 N3
  refine step (fun t k => st3.trans k) ?_
  have r4 : (f_co w_0 w_1 w_2 w_3 w_4 w_5 w_6 w_7 w_8 o0) = (0 : Int32) := rfl
  rw [r4]
  refine step (fun t k => XS.ishr X3.here hx rfl (B d17_9) rfl k) ?_
  show G T3 (mkF m 10 #[vR o0] [(.int (n >>> ((0 : Int32) &&& 31)))])
  rw [own_shr0]
  exact ret (v := some (.int n)) X3 (fun h => by rw [Bd.returns] at h; cases h) (fun fs hr => retI X3 hx Bd.returns (B d17_10) hr) e3 ⟨rfl, N3, rfl⟩ (by decide) (by decide)
theorem d18_0 : decode qc18 0 = .ok (.iload_n 0, 1) := by decide +kernel
theorem d18_1 : decode qc18 1 = .ok (.ifCond .lt 13, 3) := by decide +kernel
theorem d18_4 : decode qc18 4 = .ok (.iload_n 0, 1) := by decide +kernel
theorem d18_5 : decode qc18 5 = .ok (.iload_n 1, 1) := by decide +kernel
theorem d18_6 : decode qc18 6 = .ok (.if_icmp .gt 8, 3) := by decide +kernel
theorem d18_9 : decode qc18 9 = .ok (.iload_n 1, 1) := by decide +kernel
theorem d18_10 : decode qc18 10 = .ok (.iload_n 2, 1) := by decide +kernel
theorem d18_11 : decode qc18 11 = .ok (.if_icmp .le 11, 3) := by decide +kernel
theorem d18_22 : decode qc18 22 = .ok (.iload_n 0, 1) := by decide +kernel
theorem d18_23 : decode qc18 23 = .ok (.ireturn, 1) := by decide +kernel
abbrev rr_cf : Room := { frames := 0, cells := 0, slots := 0, locals := 0 }
abbrev y_18 : MethodName := ⟨cn_6, "checkFromToIndex", cn_13⟩
theorem pn_8 : plainName cn_6 = true := by first | (simp [plainName, overriddenIn]; done) | decide +kernel
theorem ef_cf (m : MethodId) (p1 : Int32) (p1 : Int32) : entryFrame m #[(.int 0), (.int p1), (.int p1), .null] 4 = mkF m 0 #[vI 0, vI p1, vI p1, .val .null] [] := by first | (simp [entryFrame, mkF, argsToLocals, Value.category]; done) | rfl
def f_cf (w_0 : Addr) (w_1 : Addr) (w_2 : Addr) (w_3 : Addr) (w_4 : Addr) (w_5 : Addr) (w_6 : Addr) (w_7 : Int32) (w_8 : Value) (p1 : Int32) : Int32 := (0 : Int32)
def Q_cf (Z : State) (w_0 : Addr) (w_1 : Addr) (w_2 : Addr) (w_3 : Addr) (w_4 : Addr) (w_5 : Addr) (w_6 : Addr) (w_7 : Int32) (w_8 : Value) (p1 : Int32) (h0 : Heap) (n0 : Nat) (v : Option Value) (h : Heap) (L : List Loc) : Prop := v = some (.int (f_cf w_0 w_1 w_2 w_3 w_4 w_5 w_6 w_7 w_8 p1)) ∧ Fr n0 L ∧ h = h0
theorem rm_cf (l : Launch) (Z : State) (a0 : Array Value) (hw : HW Z a0) (ws : List Jvm.Cond) (w_0 : Addr) (w_1 : Addr) (w_2 : Addr) (w_3 : Addr) (w_4 : Addr) (w_5 : Addr) (w_6 : Addr) (w_7 : Int32) (w_8 : Value) (p1 : Int32) (h0 : Heap) (n0 : Nat) (Z0 : n0 ≤ h0.size) (ST : own_St Z w_0 w_1 w_2 w_3 w_4 w_5 w_6 w_7 w_8) (O0 : Old Z n0 h0) (hn : ¬ (p1 < (0 : Int32))) :
    MetFree l y_18 (head1 (Jvm.Cond.code y_18 jdk_41_method_12_code 4 (some .int) :: ws) rr_cf) (fun a U => a = #[(.int 0), (.int p1), (.int p1), .null] ∧ Z.Warmed39 U.vm ∧ U.heap = h0) (fun _ _ _ _ _ => True) (fun _ U o U' => ∃ v L, o = .returned v ∧ Q_cf Z w_0 w_1 w_2 w_3 w_4 w_5 w_6 w_7 w_8 p1 h0 n0 v U'.heap L ∧ FrameEnd U o U' L rr_cf.cells rr_cf.slots) := by
  refine MetFree.of_bodySF (plainFor_of_name pn_8) hisR ?_
  intro p e s m args below meth c s₁ Bd hml0 hP hK
  obtain ⟨rfl, hZ, hh⟩ := hP
  have hx := Bd.exec
  have hby := Bd.bytes
  have B := @hb _ _ hby
  have hml : c.maxLocals = 4 := hml0
  have hown : s.vm.findClass cn_6 = some m.cls := findClass_of_methodNamed Bd.named
  have X0 : Stand p l e rr_cf s m #[(.int 0), (.int p1), (.int p1), .null] below meth c s₁ [] 0 0 := Stand.of_body Bd
  have e0 : s₁.heap = h0 := by rw [← hh, Bd.state]; rfl
  have N0 := Fr.nil n0
  obtain ⟨G, step, ret, fin⟩ := own_openX X0 (rr_cf.cells) (rr_cf.slots) (Q_cf Z w_0 w_1 w_2 w_3 w_4 w_5 w_6 w_7 w_8 p1 h0 n0) Bd.notSynchronized
  refine fin (g := entryFrame m #[(.int 0), (.int p1), (.int p1), .null] 4) ?_
  rw [ef_cf m p1 p1]
  refine step (fun t k => XS.iloadN X0.here hx rfl (B d18_0) rfl k) ?_
  refine step (fun t k => XS.ifNo X0.here hx rfl (B d18_1) rfl ((if0 _ _).trans (flt (by decide : ¬ ((0 : Int32) < (0 : Int32)))).1) k) ?_
  refine step (fun t k => XS.iloadN X0.here hx rfl (B d18_4) rfl k) ?_
  refine step (fun t k => XS.iloadN X0.here hx rfl (B d18_5) rfl k) ?_
  refine step (fun t k => XS.icmpNo X0.here hx rfl (B d18_6) rfl (flt hn).2.2.1 k) ?_
  refine step (fun t k => XS.iloadN X0.here hx rfl (B d18_9) rfl k) ?_
  show G s₁ (mkF m 10 #[vI 0, vI p1, vI p1, .val .null] [(.int p1)])
  refine step (fun t k => XS.iloadN X0.here hx rfl (B d18_10) rfl k) ?_
  refine step (fun t k => XS.icmpYes X0.here hx rfl (pc0 := 11) (pc' := 22) rfl (B d18_11) rfl (flt (fun q => absurd (own_xlt.mp q) (Int.lt_irrefl _))).2.2.2 (by decide) (by decide) k) ?_
  refine step (fun t k => XS.iloadN X0.here hx rfl (B d18_22) rfl k) ?_
  exact ret (v := some (.int 0)) X0 (fun h => by rw [Bd.returns] at h; cases h) (fun fs hr => retI X0 hx Bd.returns (B d18_23) hr) e0 ⟨rfl, N0, rfl⟩ (by decide) (by decide)
abbrev rr_cx : Room := { frames := 0, cells := 0, slots := 0, locals := 0 }
theorem ef_cx (m : MethodId) (p1 : Int32) (p1 : Int32) (w_8 : Value) (hw_SIOOBE_FORMATTER : w_8.isRef = true) : entryFrame m #[(.int 0), (.int p1), (.int p1), w_8] 4 = mkF m 0 #[vI 0, vI p1, vI p1, .val w_8] [] := by
  rcases ref_cases hw_SIOOBE_FORMATTER with rfl | ⟨_, rfl⟩ <;> first | (simp [entryFrame, mkF, argsToLocals, Value.category]; done) | rfl
def f_cx (w_0 : Addr) (w_1 : Addr) (w_2 : Addr) (w_3 : Addr) (w_4 : Addr) (w_5 : Addr) (w_6 : Addr) (w_7 : Int32) (w_8 : Value) (p1 : Int32) : Int32 := (0 : Int32)
def Q_cx (Z : State) (w_0 : Addr) (w_1 : Addr) (w_2 : Addr) (w_3 : Addr) (w_4 : Addr) (w_5 : Addr) (w_6 : Addr) (w_7 : Int32) (w_8 : Value) (p1 : Int32) (h0 : Heap) (n0 : Nat) (v : Option Value) (h : Heap) (L : List Loc) : Prop := v = some (.int (f_cx w_0 w_1 w_2 w_3 w_4 w_5 w_6 w_7 w_8 p1)) ∧ Fr n0 L ∧ h = h0
theorem rm_cx (l : Launch) (Z : State) (a0 : Array Value) (hw : HW Z a0) (ws : List Jvm.Cond) (w_0 : Addr) (w_1 : Addr) (w_2 : Addr) (w_3 : Addr) (w_4 : Addr) (w_5 : Addr) (w_6 : Addr) (w_7 : Int32) (w_8 : Value) (p1 : Int32) (h0 : Heap) (n0 : Nat) (Z0 : n0 ≤ h0.size) (ST : own_St Z w_0 w_1 w_2 w_3 w_4 w_5 w_6 w_7 w_8) (O0 : Old Z n0 h0) (hn : ¬ (p1 < (0 : Int32))) :
    MetFree l y_18 (head1 (Jvm.Cond.code y_18 jdk_41_method_12_code 4 (some .int) :: ws) rr_cx) (fun a U => a = #[(.int 0), (.int p1), (.int p1), w_8] ∧ Z.Warmed39 U.vm ∧ U.heap = h0) (fun _ _ _ _ _ => True) (fun _ U o U' => ∃ v L, o = .returned v ∧ Q_cx Z w_0 w_1 w_2 w_3 w_4 w_5 w_6 w_7 w_8 p1 h0 n0 v U'.heap L ∧ FrameEnd U o U' L rr_cx.cells rr_cx.slots) := by
  refine MetFree.of_bodySF (plainFor_of_name pn_8) hisR ?_
  intro p e s m args below meth c s₁ Bd hml0 hP hK
  obtain ⟨rfl, hZ, hh⟩ := hP
  have hx := Bd.exec
  have hby := Bd.bytes
  have B := @hb _ _ hby
  have hml : c.maxLocals = 4 := hml0
  have hown : s.vm.findClass cn_6 = some m.cls := findClass_of_methodNamed Bd.named
  have X0 : Stand p l e rr_cx s m #[(.int 0), (.int p1), (.int p1), w_8] below meth c s₁ [] 0 0 := Stand.of_body Bd
  have e0 : s₁.heap = h0 := by rw [← hh, Bd.state]; rfl
  have N0 := Fr.nil n0
  obtain ⟨G, step, ret, fin⟩ := own_openX X0 (rr_cx.cells) (rr_cx.slots) (Q_cx Z w_0 w_1 w_2 w_3 w_4 w_5 w_6 w_7 w_8 p1 h0 n0) Bd.notSynchronized
  refine fin (g := entryFrame m #[(.int 0), (.int p1), (.int p1), w_8] 4) ?_
  rw [ef_cx m p1 p1 w_8 ST.k20]
  refine step (fun t k => XS.iloadN X0.here hx rfl (B d18_0) rfl k) ?_
  refine step (fun t k => XS.ifNo X0.here hx rfl (B d18_1) rfl ((if0 _ _).trans (flt (by decide : ¬ ((0 : Int32) < (0 : Int32)))).1) k) ?_
  refine step (fun t k => XS.iloadN X0.here hx rfl (B d18_4) rfl k) ?_
  refine step (fun t k => XS.iloadN X0.here hx rfl (B d18_5) rfl k) ?_
  refine step (fun t k => XS.icmpNo X0.here hx rfl (B d18_6) rfl (flt hn).2.2.1 k) ?_
  refine step (fun t k => XS.iloadN X0.here hx rfl (B d18_9) rfl k) ?_
  show G s₁ (mkF m 10 #[vI 0, vI p1, vI p1, .val w_8] [(.int p1)])
  refine step (fun t k => XS.iloadN X0.here hx rfl (B d18_10) rfl k) ?_
  refine step (fun t k => XS.icmpYes X0.here hx rfl (pc0 := 11) (pc' := 22) rfl (B d18_11) rfl (flt (fun q => absurd (own_xlt.mp q) (Int.lt_irrefl _))).2.2.2 (by decide) (by decide) k) ?_
  refine step (fun t k => XS.iloadN X0.here hx rfl (B d18_22) rfl k) ?_
  exact ret (v := some (.int 0)) X0 (fun h => by rw [Bd.returns] at h; cases h) (fun fs hr => retI X0 hx Bd.returns (B d18_23) hr) e0 ⟨rfl, N0, rfl⟩ (by decide) (by decide)
theorem d19_0 : decode qc19 0 = .ok (.iload_n 0, 1) := by decide +kernel
theorem d19_1 : decode qc19 1 = .ok (.iload_n 1, 1) := by decide +kernel
theorem d19_2 : decode qc19 2 = .ok (.iload_n 2, 1) := by decide +kernel
theorem d19_3 : decode qc19 3 = .ok (.aconst_null, 1) := by decide +kernel
theorem d19_4 : decode qc19 4 = .ok (.invokestatic 111, 3) := by decide +kernel
theorem ww132 (hw : HW Z a0) : Cond.before (Cond.methodLink cn_20 111 ({ cls := cn_6, name := "checkFromToIndex", desc := cn_13 } : MethodName)) a0 Z = true := own_w hw 132 rfl
theorem ww135 (hw : HW Z a0) : Cond.before (Cond.code ({ cls := cn_6, name := "checkFromToIndex", desc := cn_13 } : MethodName) jdk_41_method_12_code 4 (Option.some FieldType.int)) a0 Z = true := own_w hw 135 rfl
theorem ww134 (hw : HW Z a0) : Cond.before (Cond.initialized cn_6) a0 Z = true := own_w hw 134 rfl
theorem pd_8 : parseMethodDescriptor cn_13 = some ⟨[.int, .int, .int, (.object "java/util/function/BiFunction")], some .int⟩ := by decide +kernel
theorem ww133 (hw : HW Z a0) : Cond.before (Cond.static ({ cls := cn_6, name := "checkFromToIndex", desc := cn_13 } : MethodName)) a0 Z = true := own_w hw 133 rfl
theorem d19_7 : decode qc19 7 = .ok (.ireturn, 1) := by decide +kernel
abbrev rr_cg : Room := { frames := 1, cells := 0, slots := 0, locals := 15 }
abbrev y_19 : MethodName := ⟨cn_20, "checkFromToIndex", "(III)I"⟩
theorem pn_9 : plainName cn_20 = true := by first | (simp [plainName, overriddenIn]; done) | decide +kernel
theorem ef_cg (m : MethodId) (p1 : Int32) (p1 : Int32) : entryFrame m #[(.int 0), (.int p1), (.int p1)] 3 = mkF m 0 #[vI 0, vI p1, vI p1] [] := by first | (simp [entryFrame, mkF, argsToLocals, Value.category]; done) | rfl
def f_cg (w_0 : Addr) (w_1 : Addr) (w_2 : Addr) (w_3 : Addr) (w_4 : Addr) (w_5 : Addr) (w_6 : Addr) (w_7 : Int32) (w_8 : Value) (p1 : Int32) : Int32 := (0 : Int32)
def Q_cg (Z : State) (w_0 : Addr) (w_1 : Addr) (w_2 : Addr) (w_3 : Addr) (w_4 : Addr) (w_5 : Addr) (w_6 : Addr) (w_7 : Int32) (w_8 : Value) (p1 : Int32) (h0 : Heap) (n0 : Nat) (v : Option Value) (h : Heap) (L : List Loc) : Prop := v = some (.int (f_cg w_0 w_1 w_2 w_3 w_4 w_5 w_6 w_7 w_8 p1)) ∧ Fr n0 L ∧ h = h0
theorem rm_cg (l : Launch) (Z : State) (a0 : Array Value) (hw : HW Z a0) (ws : List Jvm.Cond) (w_0 : Addr) (w_1 : Addr) (w_2 : Addr) (w_3 : Addr) (w_4 : Addr) (w_5 : Addr) (w_6 : Addr) (w_7 : Int32) (w_8 : Value) (p1 : Int32) (h0 : Heap) (n0 : Nat) (Z0 : n0 ≤ h0.size) (ST : own_St Z w_0 w_1 w_2 w_3 w_4 w_5 w_6 w_7 w_8) (O0 : Old Z n0 h0) (hn : ¬ (p1 < (0 : Int32))) :
    MetFree l y_19 (head1 (Jvm.Cond.code y_19 jdk_31_method_18_code 3 (some .int) :: ws) rr_cg) (fun a U => a = #[(.int 0), (.int p1), (.int p1)] ∧ Z.Warmed39 U.vm ∧ U.heap = h0) (fun _ _ _ _ _ => True) (fun _ U o U' => ∃ v L, o = .returned v ∧ Q_cg Z w_0 w_1 w_2 w_3 w_4 w_5 w_6 w_7 w_8 p1 h0 n0 v U'.heap L ∧ FrameEnd U o U' L rr_cg.cells rr_cg.slots) := by
  refine MetFree.of_bodySF (plainFor_of_name pn_9) hisR ?_
  intro p e s m args below meth c s₁ Bd hml0 hP hK
  obtain ⟨rfl, hZ, hh⟩ := hP
  have hx := Bd.exec
  have hby := Bd.bytes
  have B := @hb _ _ hby
  have hml : c.maxLocals = 3 := hml0
  have hown : s.vm.findClass cn_20 = some m.cls := findClass_of_methodNamed Bd.named
  have X0 : Stand p l e rr_cg s m #[(.int 0), (.int p1), (.int p1)] below meth c s₁ [] 0 0 := Stand.of_body Bd
  have e0 : s₁.heap = h0 := by rw [← hh, Bd.state]; rfl
  have N0 := Fr.nil n0
  obtain ⟨G, step, ret, fin⟩ := own_openX X0 (rr_cg.cells) (rr_cg.slots) (Q_cg Z w_0 w_1 w_2 w_3 w_4 w_5 w_6 w_7 w_8 p1 h0 n0) Bd.notSynchronized
  refine fin (g := entryFrame m #[(.int 0), (.int p1), (.int p1)] 3) ?_
  rw [ef_cg m p1 p1]
  refine step (fun t k => XS.iloadN X0.here hx rfl (B d19_0) rfl k) ?_
  refine step (fun t k => XS.iloadN X0.here hx rfl (B d19_1) rfl k) ?_
  refine step (fun t k => XS.iloadN X0.here hx rfl (B d19_2) rfl k) ?_
  refine step (fun t k => XS.aconstNull X0.here hx rfl (B d19_3) k) ?_
  have hK1 := (backOf (R := rr_cg) (p := p) (e := e) (below := below) (s := s) (args := #[(.int 0), (.int p1), (.int p1)]) (len := 3) (W := 0) (rm_cf l Z a0 hw [] w_0 w_1 w_2 w_3 w_4 w_5 w_6 w_7 w_8 p1 h0 n0 (own_old_le O0) ST O0 (hn : ¬ (p1 < (0 : Int32)))) hZ (ww135 hw) (ww134 hw) (by decide) (by decide))
  obtain ⟨_, _, ⟨T1, L1, k1, n1⟩, -, X1, ⟨Lc1, hQ1, l1, y1, z1⟩, st1⟩ := Jvm.LawKit.callS X0 hx (y := y_18) hown (mvT hZ (ww132 hw)) (mvT hZ (ww133 hw)) (mvT hZ (ww134 hw)) (mvT hZ (ww135 hw)) (by decide) hK1 (g := (mkF m 4 #[vI 0, vI p1, vI p1] [.null, (.int p1), (.int p1), (.int 0)])) rfl (by rw [hml]; rfl) (argsL := [(.int 0), (.int p1), (.int p1), .null]) (rest := []) (lenOf pd_8 rfl) rfl (by show 2 * 0 + _ ≤ _; exact Nat.le_of_eq rfl) (B d19_4) (fun _ _ => ⟨rfl, e0, (by decide : 0 + 0 ≤ _), (by decide : 0 + 0 ≤ _)⟩)
  dsimp only [Pt.U, Pt.locs, Pt.cells, Pt.slots] at X1 l1 y1 z1 st1 hQ1
  subst l1 y1 z1
  obtain ⟨rfl, N1q, e1⟩ := hQ1
  have N1 := Fr.app N0 N1q
  obtain ⟨lc1, X1, N1⟩ := own_gen X1 N1
  refine step (fun t k => st1 t k) ?_
  have r2 : (f_cf w_0 w_1 w_2 w_3 w_4 w_5 w_6 w_7 w_8 p1) = (0 : Int32) := rfl
  rw [r2]
  exact ret (v := some (.int 0)) X1 (fun h => by rw [Bd.returns] at h; cases h) (fun fs hr => retI X1 hx Bd.returns (B d19_7) hr) e1 ⟨rfl, N1, rfl⟩ (by decide) (by decide)
theorem d20_0 : decode qc20 0 = .ok (.iload_n 1, 1) := by decide +kernel
theorem d20_1 : decode qc20 1 = .ok (.iload_n 2, 1) := by decide +kernel
theorem d20_2 : decode qc20 2 = .ok (.aload_n 0, 1) := by decide +kernel
theorem d20_3 : decode qc20 3 = .ok (.invokevirtual 505, 3) := by decide +kernel
theorem ww127 (hw : HW Z a0) : Cond.before (Cond.methodLink cn_2 505 ({ cls := cn_2, name := "length", desc := "()I" } : MethodName)) a0 Z = true := own_w hw 127 rfl
theorem ww114 (hw : HW Z a0) : Cond.before (Cond.selects cn_2 ({ cls := cn_2, name := "length", desc := "()I" } : MethodName) ({ cls := cn_2, name := "length", desc := "()I" } : MethodName)) a0 Z = true := own_w hw 114 rfl
theorem ww115 (hw : HW Z a0) : Cond.before (Cond.code ({ cls := cn_2, name := "length", desc := "()I" } : MethodName) jdk_42_method_54_code 1 (Option.some FieldType.int)) a0 Z = true := own_w hw 115 rfl
theorem pd_9 : parseMethodDescriptor "()I" = some ⟨[], some .int⟩ := by decide +kernel
theorem ww112 (hw : HW Z a0) : Cond.before (Cond.declares ({ cls := cn_2, name := "length", desc := "()I" } : MethodName)) a0 Z = true := own_w hw 112 rfl
theorem ww113 (hw : HW Z a0) : Cond.before (Cond.instanceMethod ({ cls := cn_2, name := "length", desc := "()I" } : MethodName)) a0 Z = true := own_w hw 113 rfl
theorem d20_6 : decode qc20 6 = .ok (.invokestatic 511, 3) := by decide +kernel
theorem ww128 (hw : HW Z a0) : Cond.before (Cond.methodLink cn_2 511 ({ cls := cn_20, name := "checkFromToIndex", desc := "(III)I" } : MethodName)) a0 Z = true := own_w hw 128 rfl
theorem ww131 (hw : HW Z a0) : Cond.before (Cond.code ({ cls := cn_20, name := "checkFromToIndex", desc := "(III)I" } : MethodName) jdk_31_method_18_code 3 (Option.some FieldType.int)) a0 Z = true := own_w hw 131 rfl
theorem ww130 (hw : HW Z a0) : Cond.before (Cond.initialized cn_20) a0 Z = true := own_w hw 130 rfl
theorem pd_10 : parseMethodDescriptor "(III)I" = some ⟨[.int, .int, .int], some .int⟩ := by decide +kernel
theorem ww129 (hw : HW Z a0) : Cond.before (Cond.static ({ cls := cn_20, name := "checkFromToIndex", desc := "(III)I" } : MethodName)) a0 Z = true := own_w hw 129 rfl
theorem d20_9 : decode qc20 9 = .ok (.pop, 1) := by decide +kernel
theorem d20_10 : decode qc20 10 = .ok (.aload_n 0, 1) := by decide +kernel
theorem d20_11 : decode qc20 11 = .ok (.invokevirtual 492, 3) := by decide +kernel
theorem ww136 (hw : HW Z a0) : Cond.before (Cond.methodLink cn_2 492 ({ cls := cn_2, name := "isLatin1", desc := "()Z" } : MethodName)) a0 Z = true := own_w hw 136 rfl
theorem ww139 (hw : HW Z a0) : Cond.before (Cond.selects cn_2 ({ cls := cn_2, name := "isLatin1", desc := "()Z" } : MethodName) ({ cls := cn_2, name := "isLatin1", desc := "()Z" } : MethodName)) a0 Z = true := own_w hw 139 rfl
theorem ww140 (hw : HW Z a0) : Cond.before (Cond.code ({ cls := cn_2, name := "isLatin1", desc := "()Z" } : MethodName) jdk_42_method_154_code 1 (Option.some FieldType.boolean)) a0 Z = true := own_w hw 140 rfl
theorem pd_11 : parseMethodDescriptor "()Z" = some ⟨[], some .boolean⟩ := by decide +kernel
theorem ww137 (hw : HW Z a0) : Cond.before (Cond.declares ({ cls := cn_2, name := "isLatin1", desc := "()Z" } : MethodName)) a0 Z = true := own_w hw 137 rfl
theorem ww138 (hw : HW Z a0) : Cond.before (Cond.instanceMethod ({ cls := cn_2, name := "isLatin1", desc := "()Z" } : MethodName)) a0 Z = true := own_w hw 138 rfl
theorem d20_14 : decode qc20 14 = .ok (.ifCond .eq 7, 3) := by decide +kernel
theorem d20_17 : decode qc20 17 = .ok (.iload_n 2, 1) := by decide +kernel
theorem d20_18 : decode qc20 18 = .ok (.iload_n 1, 1) := by decide +kernel
theorem d20_19 : decode qc20 19 = .ok (.isub, 1) := by decide +kernel
theorem d20_20 : decode qc20 20 = .ok (.ireturn, 1) := by decide +kernel
abbrev rr_cp : Room := { frames := 2, cells := 0, slots := 0, locals := 29 }
abbrev y_20 : MethodName := ⟨cn_2, "codePointCount", "(II)I"⟩
theorem ef_cp (m : MethodId) (o0 : Addr) (n : Int32) : entryFrame m #[(.ref o0), (.int 0), (.int n)] 3 = mkF m 0 #[vR o0, vI 0, vI n] [] := by first | (simp [entryFrame, mkF, argsToLocals, Value.category]; done) | rfl
def f_cp (w_0 : Addr) (w_1 : Addr) (w_2 : Addr) (w_3 : Addr) (w_4 : Addr) (w_5 : Addr) (w_6 : Addr) (w_7 : Int32) (w_8 : Value) (o0 : Addr) (n : Int32) (t : Addr) (kk : ClassId) (vs : List Value) (z : Int32) : Int32 := (n - (0 : Int32))
def Q_cp (Z : State) (w_0 : Addr) (w_1 : Addr) (w_2 : Addr) (w_3 : Addr) (w_4 : Addr) (w_5 : Addr) (w_6 : Addr) (w_7 : Int32) (w_8 : Value) (o0 : Addr) (n : Int32) (t : Addr) (kk : ClassId) (vs : List Value) (z : Int32) (h0 : Heap) (n0 : Nat) (v : Option Value) (h : Heap) (L : List Loc) : Prop := v = some (.int (f_cp w_0 w_1 w_2 w_3 w_4 w_5 w_6 w_7 w_8 o0 n t kk vs z)) ∧ Fr n0 L ∧ h = h0
theorem rm_cp (l : Launch) (Z : State) (a0 : Array Value) (hw : HW Z a0) (ws : List Jvm.Cond) (w_0 : Addr) (w_1 : Addr) (w_2 : Addr) (w_3 : Addr) (w_4 : Addr) (w_5 : Addr) (w_6 : Addr) (w_7 : Int32) (w_8 : Value) (o0 : Addr) (n : Int32) (t : Addr) (kk : ClassId) (vs : List Value) (z : Int32) (h0 : Heap) (n0 : Nat) (Z0 : n0 ≤ h0.size) (ST : own_St Z w_0 w_1 w_2 w_3 w_4 w_5 w_6 w_7 w_8) (O0 : Old Z n0 h0) (Es : Exa Z h0 o0 cn_2) (Fv : Fld Z h0 o0 cn_2 "value" "[B" (.ref t)) (Fc : Fld Z h0 o0 cn_2 "coder" "B" (.int 0)) (Va : Arv Z h0 t kk .byte n vs (.int 0)) (hL : own_last n vs z) :
    MetFree l y_20 (head1 (Jvm.Cond.code y_20 jdk_42_method_59_code 3 (some .int) :: ws) rr_cp) (fun a U => a = #[(.ref o0), (.int 0), (.int n)] ∧ Z.Warmed39 U.vm ∧ U.heap = h0) (fun _ _ _ _ _ => True) (fun _ U o U' => ∃ v L, o = .returned v ∧ Q_cp Z w_0 w_1 w_2 w_3 w_4 w_5 w_6 w_7 w_8 o0 n t kk vs z h0 n0 v U'.heap L ∧ FrameEnd U o U' L rr_cp.cells rr_cp.slots) := by
  refine MetFree.of_bodySF (plainFor_of_name pn_7) hisR ?_
  intro p e s m args below meth c s₁ Bd hml0 hP hK
  obtain ⟨rfl, hZ, hh⟩ := hP
  have hx := Bd.exec
  have hby := Bd.bytes
  have B := @hb _ _ hby
  have hml : c.maxLocals = 3 := hml0
  have hown : s.vm.findClass cn_2 = some m.cls := findClass_of_methodNamed Bd.named
  have X0 : Stand p l e rr_cp s m #[(.ref o0), (.int 0), (.int n)] below meth c s₁ [] 0 0 := Stand.of_body Bd
  have e0 : s₁.heap = h0 := by rw [← hh, Bd.state]; rfl
  have N0 := Fr.nil n0
  obtain ⟨G, step, ret, fin⟩ := own_openX X0 (rr_cp.cells) (rr_cp.slots) (Q_cp Z w_0 w_1 w_2 w_3 w_4 w_5 w_6 w_7 w_8 o0 n t kk vs z h0 n0) Bd.notSynchronized
  refine fin (g := entryFrame m #[(.ref o0), (.int 0), (.int n)] 3) ?_
  rw [ef_cp m o0 n]
  refine step (fun t k => XS.iloadN X0.here hx rfl (B d20_0) rfl k) ?_
  refine step (fun t k => XS.iloadN X0.here hx rfl (B d20_1) rfl k) ?_
  refine step (fun t k => XS.aloadN X0.here hx rfl (B d20_2) rfl rfl k) ?_
  have hK1 := (backOf (R := rr_cp) (p := p) (e := e) (below := below) (s := s) (args := #[(.ref o0), (.int 0), (.int n)]) (len := 3) (W := 2) (rm_le l Z a0 hw [] w_0 w_1 w_2 w_3 w_4 w_5 w_6 w_7 w_8 o0 t kk n vs h0 n0 (own_old_le O0) ST O0 Es Fv Fc Va) hZ (ww115 hw) (ww92 hw) (by decide) (by decide))
  obtain ⟨cq1, kq1, q1a, q1b, q1c⟩ := isOf hZ e0 Es
  obtain ⟨_, _, ⟨T1, L1, k1, n1⟩, -, X1, ⟨Lc1, hQ1, l1, y1, z1⟩, st1⟩ := X0.virtualBack hx (y := y_17) (z := y_17) hown (mvT hZ (ww127 hw)) (mvT hZ (ww112 hw)) (notFace_of_selects (args := #[]) (mvT hZ (ww114 hw))) (mvT hZ (ww114 hw)) (mvT hZ (ww113 hw)) (by decide) hK1 q1a q1c (g := (mkF m 3 #[vR o0, vI 0, vI n] [(.ref o0), (.int n), (.int 0)])) rfl (by rw [hml]; rfl) (Steps.refl _) (argsL := []) (rest := [(.int n), (.int 0)]) (lenOf pd_9 rfl) rfl (by show 2 * 0 + _ ≤ _; exact Nat.le_of_eq rfl) (B d20_3) (fun _ _ => ⟨rfl, e0, (by decide : 0 + 0 ≤ _), (by decide : 0 + 0 ≤ _)⟩)
  dsimp only [Pt.U, Pt.locs, Pt.cells, Pt.slots] at X1 l1 y1 z1 st1 hQ1
  subst l1 y1 z1
  obtain ⟨rfl, N1q, e1⟩ := hQ1
  have N1 := Fr.app N0 N1q
  obtain ⟨lc1, X1, N1⟩ := own_gen X1 N1
  refine step (fun t k => st1.trans k) ?_
  have r2 : (f_le w_0 w_1 w_2 w_3 w_4 w_5 w_6 w_7 w_8 o0 t kk n vs) = n := rfl
  rw [r2]
  have hK3 := (backOf (R := rr_cp) (p := p) (e := e) (below := below) (s := s) (args := #[(.ref o0), (.int 0), (.int n)]) (len := 3) (W := 0) (rm_cg l Z a0 hw [] w_0 w_1 w_2 w_3 w_4 w_5 w_6 w_7 w_8 n h0 n0 (own_old_le O0) ST O0 ((own_nb hL).1 : ¬ (n < (0 : Int32)))) hZ (ww131 hw) (ww130 hw) (by decide) (by decide))
  obtain ⟨_, _, ⟨T3, L3, k3, n3⟩, -, X3, ⟨Lc3, hQ3, l3, y3, z3⟩, st3⟩ := Jvm.LawKit.callS X1 hx (y := y_19) hown (mvT hZ (ww128 hw)) (mvT hZ (ww129 hw)) (mvT hZ (ww130 hw)) (mvT hZ (ww131 hw)) (by decide) hK3 (g := (mkF m 6 #[vR o0, vI 0, vI n] [(.int n), (.int n), (.int 0)])) rfl (by rw [hml]; rfl) (argsL := [(.int 0), (.int n), (.int n)]) (rest := []) (lenOf pd_10 rfl) rfl (by show 2 * 0 + _ ≤ _; exact Nat.le_of_eq rfl) (B d20_6) (fun _ _ => ⟨rfl, e1, (by decide : 0 + 0 ≤ _), (by decide : 0 + 0 ≤ _)⟩)
  dsimp only [Pt.U, Pt.locs, Pt.cells, Pt.slots] at X3 l3 y3 z3 st3 hQ3
  subst l3 y3 z3
  obtain ⟨rfl, N3q, e3⟩ := hQ3
  have N3 := Fr.app N1 N3q
  obtain ⟨lc3, X3, N3⟩ := own_gen X3 N3
  refine step (fun t k => st3 t k) ?_
  have r4 : (f_cg w_0 w_1 w_2 w_3 w_4 w_5 w_6 w_7 w_8 n) = (0 : Int32) := rfl
  rw [r4]
  refine step (fun t k => XS.pop X3.here hx rfl (B d20_9) rfl rfl k) ?_
  refine step (fun t k => XS.aloadN X3.here hx rfl (B d20_10) rfl rfl k) ?_
  have hK5 := (backOf (R := rr_cp) (p := p) (e := e) (below := below) (s := s) (args := #[(.ref o0), (.int 0), (.int n)]) (len := 3) (W := 0) (rm_la l Z a0 hw [] w_0 w_1 w_2 w_3 w_4 w_5 w_6 w_7 w_8 o0 h0 n0 (own_old_le O0) ST O0 Fc) hZ (ww140 hw) (ww92 hw) (by decide) (by decide))
  obtain ⟨cq5, kq5, q5a, q5b, q5c⟩ := isOf hZ e3 Es
  obtain ⟨_, _, ⟨T5, L5, k5, n5⟩, -, X5, ⟨Lc5, hQ5, l5, y5, z5⟩, st5⟩ := X3.virtualBack hx (y := y_16) (z := y_16) hown (mvT hZ (ww136 hw)) (mvT hZ (ww137 hw)) (notFace_of_selects (args := #[]) (mvT hZ (ww139 hw))) (mvT hZ (ww139 hw)) (mvT hZ (ww138 hw)) (by decide) hK5 q5a q5c (g := (mkF m 11 #[vR o0, vI 0, vI n] [(.ref o0)])) rfl (by rw [hml]; rfl) (Steps.refl _) (argsL := []) (rest := []) (lenOf pd_11 rfl) rfl (by show 2 * 0 + _ ≤ _; exact Nat.le_of_eq rfl) (B d20_11) (fun _ _ => ⟨rfl, e3, (by decide : 0 + 0 ≤ _), (by decide : 0 + 0 ≤ _)⟩)
  dsimp only [Pt.U, Pt.locs, Pt.cells, Pt.slots] at X5 l5 y5 z5 st5 hQ5
  subst l5 y5 z5
  obtain ⟨rfl, N5q, e5⟩ := hQ5
  have N5 := Fr.app N3 N5q
  obtain ⟨lc5, X5, N5⟩ := own_gen X5 N5
  refine step (fun t k => st5.trans k) ?_
  have r6 : (f_la w_0 w_1 w_2 w_3 w_4 w_5 w_6 w_7 w_8 o0) = (1 : Int32) := rfl
  rw [r6]
  refine step (fun t k => XS.ifNo X5.here hx rfl (B d20_14) rfl ((if0 _ _).trans (feq (by decide : ¬ ((1 : Int32) = (0 : Int32)))).1) k) ?_
  refine step (fun t k => XS.iloadN X5.here hx rfl (B d20_17) rfl k) ?_
  refine step (fun t k => XS.iloadN X5.here hx rfl (B d20_18) rfl k) ?_
  refine step (fun t k => XS.isub X5.here hx rfl (B d20_19) rfl k) ?_
  exact ret (v := some (.int (n - (0 : Int32)))) X5 (fun h => by rw [Bd.returns] at h; cases h) (fun fs hr => retI X5 hx Bd.returns (B d20_20) hr) e5 ⟨rfl, N5, rfl⟩ (by decide) (by decide)
theorem d21_0 : decode qc21 0 = .ok (.iload_n 0, 1) := by decide +kernel
theorem d21_1 : decode qc21 1 = .ok (.ifCond .lt 8, 3) := by decide +kernel
theorem d21_4 : decode qc21 4 = .ok (.iload_n 0, 1) := by decide +kernel
theorem d21_5 : decode qc21 5 = .ok (.iload_n 1, 1) := by decide +kernel
theorem d21_6 : decode qc21 6 = .ok (.if_icmp .lt 10, 3) := by decide +kernel
theorem d21_16 : decode qc21 16 = .ok (.iload_n 0, 1) := by decide +kernel
theorem d21_17 : decode qc21 17 = .ok (.ireturn, 1) := by decide +kernel
abbrev rr_ci : Room := { frames := 0, cells := 0, slots := 0, locals := 0 }
abbrev y_21 : MethodName := ⟨cn_6, "checkIndex", cn_16⟩
theorem ef_ci (m : MethodId) (p0 : Int32) (p1 : Int32) (w_8 : Value) (hw_SIOOBE_FORMATTER : w_8.isRef = true) : entryFrame m #[(.int p0), (.int p1), w_8] 3 = mkF m 0 #[vI p0, vI p1, .val w_8] [] := by
  rcases ref_cases hw_SIOOBE_FORMATTER with rfl | ⟨_, rfl⟩ <;> first | (simp [entryFrame, mkF, argsToLocals, Value.category]; done) | rfl
def f_ci (w_0 : Addr) (w_1 : Addr) (w_2 : Addr) (w_3 : Addr) (w_4 : Addr) (w_5 : Addr) (w_6 : Addr) (w_7 : Int32) (w_8 : Value) (p0 : Int32) (p1 : Int32) : Int32 := p0
def Q_ci (Z : State) (w_0 : Addr) (w_1 : Addr) (w_2 : Addr) (w_3 : Addr) (w_4 : Addr) (w_5 : Addr) (w_6 : Addr) (w_7 : Int32) (w_8 : Value) (p0 : Int32) (p1 : Int32) (h0 : Heap) (n0 : Nat) (v : Option Value) (h : Heap) (L : List Loc) : Prop := v = some (.int (f_ci w_0 w_1 w_2 w_3 w_4 w_5 w_6 w_7 w_8 p0 p1)) ∧ Fr n0 L ∧ h = h0
theorem rm_ci (l : Launch) (Z : State) (a0 : Array Value) (hw : HW Z a0) (ws : List Jvm.Cond) (w_0 : Addr) (w_1 : Addr) (w_2 : Addr) (w_3 : Addr) (w_4 : Addr) (w_5 : Addr) (w_6 : Addr) (w_7 : Int32) (w_8 : Value) (p0 : Int32) (p1 : Int32) (h0 : Heap) (n0 : Nat) (Z0 : n0 ≤ h0.size) (ST : own_St Z w_0 w_1 w_2 w_3 w_4 w_5 w_6 w_7 w_8) (O0 : Old Z n0 h0) (h1 : ¬ (p0 < (0 : Int32))) (h2 : p0 < p1) :
    MetFree l y_21 (head1 (Jvm.Cond.code y_21 jdk_41_method_11_code 3 (some .int) :: ws) rr_ci) (fun a U => a = #[(.int p0), (.int p1), w_8] ∧ Z.Warmed39 U.vm ∧ U.heap = h0) (fun _ _ _ _ _ => True) (fun _ U o U' => ∃ v L, o = .returned v ∧ Q_ci Z w_0 w_1 w_2 w_3 w_4 w_5 w_6 w_7 w_8 p0 p1 h0 n0 v U'.heap L ∧ FrameEnd U o U' L rr_ci.cells rr_ci.slots) := by
  refine MetFree.of_bodySF (plainFor_of_name pn_8) hisR ?_
  intro p e s m args below meth c s₁ Bd hml0 hP hK
  obtain ⟨rfl, hZ, hh⟩ := hP
  have hx := Bd.exec
  have hby := Bd.bytes
  have B := @hb _ _ hby
  have hml : c.maxLocals = 3 := hml0
  have hown : s.vm.findClass cn_6 = some m.cls := findClass_of_methodNamed Bd.named
  have X0 : Stand p l e rr_ci s m #[(.int p0), (.int p1), w_8] below meth c s₁ [] 0 0 := Stand.of_body Bd
  have e0 : s₁.heap = h0 := by rw [← hh, Bd.state]; rfl
  have N0 := Fr.nil n0
  obtain ⟨G, step, ret, fin⟩ := own_openX X0 (rr_ci.cells) (rr_ci.slots) (Q_ci Z w_0 w_1 w_2 w_3 w_4 w_5 w_6 w_7 w_8 p0 p1 h0 n0) Bd.notSynchronized
  refine fin (g := entryFrame m #[(.int p0), (.int p1), w_8] 3) ?_
  rw [ef_ci m p0 p1 w_8 ST.k20]
  refine step (fun t k => XS.iloadN X0.here hx rfl (B d21_0) rfl k) ?_
  refine step (fun t k => XS.ifNo X0.here hx rfl (B d21_1) rfl ((if0 _ _).trans (flt h1).1) k) ?_
  refine step (fun t k => XS.iloadN X0.here hx rfl (B d21_4) rfl k) ?_
  refine step (fun t k => XS.iloadN X0.here hx rfl (B d21_5) rfl k) ?_
  refine step (fun t k => XS.icmpYes X0.here hx rfl (pc0 := 6) (pc' := 16) rfl (B d21_6) rfl (tlt h2).1 (by decide) (by decide) k) ?_
  refine step (fun t k => XS.iloadN X0.here hx rfl (B d21_16) rfl k) ?_
  show G s₁ (mkF m 17 #[vI p0, vI p1, .val w_8] [(.int p0)])
  exact ret (v := some (.int p0)) X0 (fun h => by rw [Bd.returns] at h; cases h) (fun fs hr => retI X0 hx Bd.returns (B d21_17) hr) e0 ⟨rfl, N0, rfl⟩ (by decide) (by decide)
theorem d22_0 : decode qc22 0 = .ok (.iload_n 0, 1) := by decide +kernel
theorem d22_1 : decode qc22 1 = .ok (.iload_n 1, 1) := by decide +kernel
theorem d22_2 : decode qc22 2 = .ok (.getstatic 1053, 3) := by decide +kernel
theorem ww156 (hw : HW Z a0) : Cond.before (Cond.fieldLink cn_2 1053 cn_6 "SIOOBE_FORMATTER" "Ljava/util/function/BiFunction;") a0 Z = true := own_w hw 156 rfl
theorem d22_5 : decode qc22 5 = .ok (.invokestatic 1059, 3) := by decide +kernel
theorem ww157 (hw : HW Z a0) : Cond.before (Cond.methodLink cn_2 1059 ({ cls := cn_6, name := "checkIndex", desc := cn_16 } : MethodName)) a0 Z = true := own_w hw 157 rfl
theorem ww159 (hw : HW Z a0) : Cond.before (Cond.code ({ cls := cn_6, name := "checkIndex", desc := cn_16 } : MethodName) jdk_41_method_11_code 3 (Option.some FieldType.int)) a0 Z = true := own_w hw 159 rfl
theorem pd_12 : parseMethodDescriptor cn_16 = some ⟨[.int, .int, (.object "java/util/function/BiFunction")], some .int⟩ := by decide +kernel
theorem ww158 (hw : HW Z a0) : Cond.before (Cond.static ({ cls := cn_6, name := "checkIndex", desc := cn_16 } : MethodName)) a0 Z = true := own_w hw 158 rfl
theorem d22_8 : decode qc22 8 = .ok (.pop, 1) := by decide +kernel
theorem d22_9 : decode qc22 9 = .ok (.return_, 1) := by decide +kernel
abbrev rr_cs : Room := { frames := 1, cells := 0, slots := 0, locals := 14 }
abbrev y_22 : MethodName := ⟨cn_2, "checkIndex", "(II)V"⟩
theorem ef_cs (m : MethodId) (p0 : Int32) (p1 : Int32) : entryFrame m #[(.int p0), (.int p1)] 2 = mkF m 0 #[vI p0, vI p1] [] := by first | (simp [entryFrame, mkF, argsToLocals, Value.category]; done) | rfl
def Q_cs (Z : State) (w_0 : Addr) (w_1 : Addr) (w_2 : Addr) (w_3 : Addr) (w_4 : Addr) (w_5 : Addr) (w_6 : Addr) (w_7 : Int32) (w_8 : Value) (p0 : Int32) (p1 : Int32) (h0 : Heap) (n0 : Nat) (v : Option Value) (h : Heap) (L : List Loc) : Prop := v = none ∧ Fr n0 L ∧ h = h0
theorem rm_cs (l : Launch) (Z : State) (a0 : Array Value) (hw : HW Z a0) (ws : List Jvm.Cond) (w_0 : Addr) (w_1 : Addr) (w_2 : Addr) (w_3 : Addr) (w_4 : Addr) (w_5 : Addr) (w_6 : Addr) (w_7 : Int32) (w_8 : Value) (p0 : Int32) (p1 : Int32) (h0 : Heap) (n0 : Nat) (Z0 : n0 ≤ h0.size) (ST : own_St Z w_0 w_1 w_2 w_3 w_4 w_5 w_6 w_7 w_8) (O0 : Old Z n0 h0) (h1 : ¬ (p0 < (0 : Int32))) (h2 : p0 < p1) :
    MetFree l y_22 (head1 (Jvm.Cond.code y_22 jdk_42_method_155_code 2 none :: ws) rr_cs) (fun a U => a = #[(.int p0), (.int p1)] ∧ Z.Warmed39 U.vm ∧ U.heap = h0) (fun _ _ _ _ _ => True) (fun _ U o U' => ∃ v L, o = .returned v ∧ Q_cs Z w_0 w_1 w_2 w_3 w_4 w_5 w_6 w_7 w_8 p0 p1 h0 n0 v U'.heap L ∧ FrameEnd U o U' L rr_cs.cells rr_cs.slots) := by
  refine MetFree.of_bodySF (plainFor_of_name pn_7) hisR ?_
  intro p e s m args below meth c s₁ Bd hml0 hP hK
  obtain ⟨rfl, hZ, hh⟩ := hP
  have hx := Bd.exec
  have hby := Bd.bytes
  have B := @hb _ _ hby
  have hml : c.maxLocals = 2 := hml0
  have hown : s.vm.findClass cn_2 = some m.cls := findClass_of_methodNamed Bd.named
  have X0 : Stand p l e rr_cs s m #[(.int p0), (.int p1)] below meth c s₁ [] 0 0 := Stand.of_body Bd
  have e0 : s₁.heap = h0 := by rw [← hh, Bd.state]; rfl
  have N0 := Fr.nil n0
  obtain ⟨G, step, ret, fin⟩ := own_openX X0 (rr_cs.cells) (rr_cs.slots) (Q_cs Z w_0 w_1 w_2 w_3 w_4 w_5 w_6 w_7 w_8 p0 p1 h0 n0) Bd.notSynchronized
  refine fin (g := entryFrame m #[(.int p0), (.int p1)] 2) ?_
  rw [ef_cs m p0 p1]
  refine step (fun t k => XS.iloadN X0.here hx rfl (B d22_0) rfl k) ?_
  refine step (fun t k => XS.iloadN X0.here hx rfl (B d22_1) rfl k) ?_
  obtain ⟨T1, X1, e1, st1⟩ := getS2 X0 hx hZ hown (host := "") (Or.inl (ww156 hw)) Via.refl e0 (Sta.ext O0.2 ST.k19) (g := (mkF m 2 #[vI p0, vI p1] [(.int p1), (.int p0)])) rfl (B d22_2)
  refine step st1 ?_
  have hK2 := (backOf (R := rr_cs) (p := p) (e := e) (below := below) (s := s) (args := #[(.int p0), (.int p1)]) (len := 3) (W := 0) (rm_ci l Z a0 hw [] w_0 w_1 w_2 w_3 w_4 w_5 w_6 w_7 w_8 p0 p1 h0 n0 (own_old_le O0) ST O0 (h1 : ¬ (p0 < (0 : Int32))) (h2 : p0 < p1)) hZ (ww159 hw) (ww134 hw) (by decide) (by decide))
  obtain ⟨_, _, ⟨T2, L2, k2, n2⟩, -, X2, ⟨Lc2, hQ2, l2, y2, z2⟩, st2⟩ := Jvm.LawKit.callS X1 hx (y := y_21) hown (mvT hZ (ww157 hw)) (mvT hZ (ww158 hw)) (mvT hZ (ww134 hw)) (mvT hZ (ww159 hw)) (by decide) hK2 (g := (mkF m 5 #[vI p0, vI p1] [w_8, (.int p1), (.int p0)])) rfl (by rw [hml]; rfl) (argsL := [(.int p0), (.int p1), w_8]) (rest := []) (lenOf pd_12 rfl) rfl (by show 2 * 0 + _ ≤ _; exact Nat.le_of_eq rfl) (B d22_5) (fun _ _ => ⟨rfl, e1, (by decide : 0 + 0 ≤ _), (by decide : 0 + 0 ≤ _)⟩)
  dsimp only [Pt.U, Pt.locs, Pt.cells, Pt.slots] at X2 l2 y2 z2 st2 hQ2
  subst l2 y2 z2
  obtain ⟨rfl, N2q, e2⟩ := hQ2
  have N2 := Fr.app N0 N2q
  obtain ⟨lc2, X2, N2⟩ := own_gen X2 N2
  refine step (fun t k => st2 t k) ?_
  have r3 : (f_ci w_0 w_1 w_2 w_3 w_4 w_5 w_6 w_7 w_8 p0 p1) = p0 := rfl
  rw [r3]
  refine step (fun t k => XS.pop X2.here hx rfl (B d22_8) rfl rfl k) ?_
  exact ret (v := none) X2 (fun _ => rfl) (fun fs hr => X2.returnOut hx Bd.returns (B d22_9) hr) e2 ⟨rfl, N2, rfl⟩ (by decide) (by decide)
theorem d23_0 : decode qc23 0 = .ok (.iload_n 1, 1) := by decide +kernel
theorem d23_1 : decode qc23 1 = .ok (.aload_n 0, 1) := by decide +kernel
theorem d23_2 : decode qc23 2 = .ok (.arraylength, 1) := by decide +kernel
theorem d23_3 : decode qc23 3 = .ok (.invokestatic 9, 3) := by decide +kernel
theorem ww153 (hw : HW Z a0) : Cond.before (Cond.methodLink cn_18 9 ({ cls := cn_2, name := "checkIndex", desc := "(II)V" } : MethodName)) a0 Z = true := own_w hw 153 rfl
theorem ww155 (hw : HW Z a0) : Cond.before (Cond.code ({ cls := cn_2, name := "checkIndex", desc := "(II)V" } : MethodName) jdk_42_method_155_code 2 (Option.none : Option Jvm.ClassFile.FieldType)) a0 Z = true := own_w hw 155 rfl
theorem pd_13 : parseMethodDescriptor "(II)V" = some ⟨[.int, .int], none⟩ := by decide +kernel
theorem ww154 (hw : HW Z a0) : Cond.before (Cond.static ({ cls := cn_2, name := "checkIndex", desc := "(II)V" } : MethodName)) a0 Z = true := own_w hw 154 rfl
theorem d23_6 : decode qc23 6 = .ok (.aload_n 0, 1) := by decide +kernel
theorem d23_7 : decode qc23 7 = .ok (.iload_n 1, 1) := by decide +kernel
theorem d23_8 : decode qc23 8 = .ok (.baload, 1) := by decide +kernel
theorem d23_9 : decode qc23 9 = .ok (.sipush 255, 3) := by decide +kernel
theorem d23_12 : decode qc23 12 = .ok (.iand, 1) := by decide +kernel
theorem d23_13 : decode qc23 13 = .ok (.i2c, 1) := by decide +kernel
theorem d23_14 : decode qc23 14 = .ok (.ireturn, 1) := by decide +kernel
abbrev rr_l1 : Room := { frames := 2, cells := 0, slots := 0, locals := 27 }
abbrev y_23 : MethodName := ⟨cn_18, "charAt", "([BI)C"⟩
theorem pn_10 : plainName cn_18 = true := by first | (simp [plainName, overriddenIn]; done) | decide +kernel
theorem ef_l1 (m : MethodId) (t : Addr) : entryFrame m #[(.ref t), (.int (n - (1 : Int32)))] 2 = mkF m 0 #[vR t, vI ((n - (1 : Int32)))] [] := by first | (simp [entryFrame, mkF, argsToLocals, Value.category]; done) | rfl
def f_l1 (w_0 : Addr) (w_1 : Addr) (w_2 : Addr) (w_3 : Addr) (w_4 : Addr) (w_5 : Addr) (w_6 : Addr) (w_7 : Int32) (w_8 : Value) (t : Addr) (kk : ClassId) (n : Int32) (vs : List Value) (z : Int32) : Int32 := (z &&& (255 : Int32))
def Q_l1 (Z : State) (w_0 : Addr) (w_1 : Addr) (w_2 : Addr) (w_3 : Addr) (w_4 : Addr) (w_5 : Addr) (w_6 : Addr) (w_7 : Int32) (w_8 : Value) (t : Addr) (kk : ClassId) (n : Int32) (vs : List Value) (z : Int32) (h0 : Heap) (n0 : Nat) (v : Option Value) (h : Heap) (L : List Loc) : Prop := v = some (.int (f_l1 w_0 w_1 w_2 w_3 w_4 w_5 w_6 w_7 w_8 t kk n vs z)) ∧ Fr n0 L ∧ h = h0
theorem rm_l1 (l : Launch) (Z : State) (a0 : Array Value) (hw : HW Z a0) (ws : List Jvm.Cond) (w_0 : Addr) (w_1 : Addr) (w_2 : Addr) (w_3 : Addr) (w_4 : Addr) (w_5 : Addr) (w_6 : Addr) (w_7 : Int32) (w_8 : Value) (t : Addr) (kk : ClassId) (n : Int32) (vs : List Value) (z : Int32) (h0 : Heap) (n0 : Nat) (Z0 : n0 ≤ h0.size) (ST : own_St Z w_0 w_1 w_2 w_3 w_4 w_5 w_6 w_7 w_8) (O0 : Old Z n0 h0) (Va : Arv Z h0 t kk .byte n vs (.int 0)) (hL : own_last n vs z) :
    MetFree l y_23 (head1 (Jvm.Cond.code y_23 jdk_43_method_2_code 2 (some .char) :: ws) rr_l1) (fun a U => a = #[(.ref t), (.int (n - (1 : Int32)))] ∧ Z.Warmed39 U.vm ∧ U.heap = h0) (fun _ _ _ _ _ => True) (fun _ U o U' => ∃ v L, o = .returned v ∧ Q_l1 Z w_0 w_1 w_2 w_3 w_4 w_5 w_6 w_7 w_8 t kk n vs z h0 n0 v U'.heap L ∧ FrameEnd U o U' L rr_l1.cells rr_l1.slots) := by
  refine MetFree.of_bodySF (plainFor_of_name pn_10) hisR ?_
  intro p e s m args below meth c s₁ Bd hml0 hP hK
  obtain ⟨rfl, hZ, hh⟩ := hP
  have hx := Bd.exec
  have hby := Bd.bytes
  have B := @hb _ _ hby
  have hml : c.maxLocals = 2 := hml0
  have hown : s.vm.findClass cn_18 = some m.cls := findClass_of_methodNamed Bd.named
  have X0 : Stand p l e rr_l1 s m #[(.ref t), (.int (n - (1 : Int32)))] below meth c s₁ [] 0 0 := Stand.of_body Bd
  have e0 : s₁.heap = h0 := by rw [← hh, Bd.state]; rfl
  have N0 := Fr.nil n0
  obtain ⟨G, step, ret, fin⟩ := own_openX X0 (rr_l1.cells) (rr_l1.slots) (Q_l1 Z w_0 w_1 w_2 w_3 w_4 w_5 w_6 w_7 w_8 t kk n vs z h0 n0) Bd.notSynchronized
  refine fin (g := entryFrame m #[(.ref t), (.int (n - (1 : Int32)))] 2) ?_
  rw [ef_l1 m t]
  refine step (fun t k => XS.iloadN X0.here hx rfl (B d23_0) rfl k) ?_
  refine step (fun t k => XS.aloadN X0.here hx rfl (B d23_1) rfl rfl k) ?_
  have q1 := own_len X0 hx hZ e0 Va (g := (mkF m 2 #[vR t, vI ((n - (1 : Int32)))] [(.ref t), (.int (n - (1 : Int32)))])) rfl rfl (B d23_2)
  refine step q1 ?_
  have hK2 := (backOf (R := rr_l1) (p := p) (e := e) (below := below) (s := s) (args := #[(.ref t), (.int (n - (1 : Int32)))]) (len := 3) (W := 0) (rm_cs l Z a0 hw [] w_0 w_1 w_2 w_3 w_4 w_5 w_6 w_7 w_8 (n - (1 : Int32)) n h0 n0 (own_old_le O0) ST O0 ((own_nb hL).2.2.1 : ¬ ((n - (1 : Int32)) < (0 : Int32))) ((own_nb hL).2.2.2.1 : (n - (1 : Int32)) < n)) hZ (ww155 hw) (ww92 hw) (by decide) (by decide))
  obtain ⟨_, _, ⟨T2, L2, k2, n2⟩, -, X2, ⟨Lc2, hQ2, l2, y2, z2⟩, st2⟩ := Jvm.LawKit.callS X0 hx (y := y_22) hown (mvT hZ (ww153 hw)) (mvT hZ (ww154 hw)) (mvT hZ (ww92 hw)) (mvT hZ (ww155 hw)) (by decide) hK2 (g := (mkF m 3 #[vR t, vI ((n - (1 : Int32)))] [(.int n), (.int (n - (1 : Int32)))])) rfl (by rw [hml]; rfl) (argsL := [(.int (n - (1 : Int32))), (.int n)]) (rest := []) (lenOf pd_13 rfl) rfl (by show 2 * 0 + _ ≤ _; exact Nat.le_of_eq rfl) (B d23_3) (fun _ _ => ⟨rfl, e0, (by decide : 0 + 0 ≤ _), (by decide : 0 + 0 ≤ _)⟩)
  dsimp only [Pt.U, Pt.locs, Pt.cells, Pt.slots] at X2 l2 y2 z2 st2 hQ2
  subst l2 y2 z2
  obtain ⟨rfl, N2q, e2⟩ := hQ2
  have N2 := Fr.app N0 N2q
  obtain ⟨lc2, X2, N2⟩ := own_gen X2 N2
  refine step (fun t k => st2 t k) ?_
  refine step (fun t k => XS.aloadN X2.here hx rfl (B d23_6) rfl rfl k) ?_
  refine step (fun t k => XS.iloadN X2.here hx rfl (B d23_7) rfl k) ?_
  have q3 := own_ldB X2 hx hZ e2 Va (j := (n - (1 : Int32))) (v := (.int z)) ⟨(own_nb hL).2.2.1, (own_nb hL).2.2.2.1⟩ hL.2.1 (g := (mkF m 8 #[vR t, vI ((n - (1 : Int32)))] [(.int (n - (1 : Int32))), (.ref t)])) rfl rfl (B d23_8)
  refine step q3 ?_
  refine step (fun t k => XS.sipush X2.here hx rfl (B d23_9) k) ?_
  refine step (fun t k => XS.iand X2.here hx rfl (B d23_12) rfl k) ?_
  refine step (fun t k => XS.i2c X2.here hx rfl (B d23_13) rfl k) ?_
  show G T2 (mkF m 14 #[vR t, vI ((n - (1 : Int32)))] [(.int ((z &&& (255 : Int32)).toUInt32.toUInt16.toUInt32.toInt32))])
  rw [own_i2c (own_and255 z)]
  exact ret (v := some (.int (z &&& (255 : Int32)))) X2 (fun h => by rw [Bd.returns] at h; cases h) (fun fs hr => retN X2 hx (t := .char) Bd.returns (by simp) (B d23_14) (by rw [own_narc (own_and255 z)]; exact hr)) e2 ⟨rfl, N2, rfl⟩ (by decide) (by decide)
theorem d24_0 : decode qc24 0 = .ok (.aload_n 0, 1) := by decide +kernel
theorem d24_1 : decode qc24 1 = .ok (.invokevirtual 492, 3) := by decide +kernel
theorem d24_4 : decode qc24 4 = .ok (.ifCond .eq 12, 3) := by decide +kernel
theorem d24_7 : decode qc24 7 = .ok (.aload_n 0, 1) := by decide +kernel
theorem d24_8 : decode qc24 8 = .ok (.getfield 9, 3) := by decide +kernel
theorem d24_11 : decode qc24 11 = .ok (.iload_n 1, 1) := by decide +kernel
theorem d24_12 : decode qc24 12 = .ok (.invokestatic 495, 3) := by decide +kernel
theorem ww149 (hw : HW Z a0) : Cond.before (Cond.methodLink cn_2 495 ({ cls := cn_18, name := "charAt", desc := "([BI)C" } : MethodName)) a0 Z = true := own_w hw 149 rfl
theorem ww152 (hw : HW Z a0) : Cond.before (Cond.code ({ cls := cn_18, name := "charAt", desc := "([BI)C" } : MethodName) jdk_43_method_2_code 2 (Option.some FieldType.char)) a0 Z = true := own_w hw 152 rfl
theorem ww151 (hw : HW Z a0) : Cond.before (Cond.initialized cn_18) a0 Z = true := own_w hw 151 rfl
theorem pd_14 : parseMethodDescriptor "([BI)C" = some ⟨[(.array .byte), .int], some .char⟩ := by decide +kernel
theorem ww150 (hw : HW Z a0) : Cond.before (Cond.static ({ cls := cn_18, name := "charAt", desc := "([BI)C" } : MethodName)) a0 Z = true := own_w hw 150 rfl
theorem d24_15 : decode qc24 15 = .ok (.ireturn, 1) := by decide +kernel
abbrev rr_ch : Room := { frames := 3, cells := 0, slots := 0, locals := 40 }
abbrev y_24 : MethodName := ⟨cn_2, "charAt", "(I)C"⟩
theorem ef_ch (m : MethodId) (o0 : Addr) : entryFrame m #[(.ref o0), (.int (n - (1 : Int32)))] 2 = mkF m 0 #[vR o0, vI ((n - (1 : Int32)))] [] := by first | (simp [entryFrame, mkF, argsToLocals, Value.category]; done) | rfl
def f_ch (w_0 : Addr) (w_1 : Addr) (w_2 : Addr) (w_3 : Addr) (w_4 : Addr) (w_5 : Addr) (w_6 : Addr) (w_7 : Int32) (w_8 : Value) (o0 : Addr) (t : Addr) (kk : ClassId) (n : Int32) (vs : List Value) (z : Int32) : Int32 := (z &&& (255 : Int32))
def Q_ch (Z : State) (w_0 : Addr) (w_1 : Addr) (w_2 : Addr) (w_3 : Addr) (w_4 : Addr) (w_5 : Addr) (w_6 : Addr) (w_7 : Int32) (w_8 : Value) (o0 : Addr) (t : Addr) (kk : ClassId) (n : Int32) (vs : List Value) (z : Int32) (h0 : Heap) (n0 : Nat) (v : Option Value) (h : Heap) (L : List Loc) : Prop := v = some (.int (f_ch w_0 w_1 w_2 w_3 w_4 w_5 w_6 w_7 w_8 o0 t kk n vs z)) ∧ Fr n0 L ∧ h = h0
theorem rm_ch (l : Launch) (Z : State) (a0 : Array Value) (hw : HW Z a0) (ws : List Jvm.Cond) (w_0 : Addr) (w_1 : Addr) (w_2 : Addr) (w_3 : Addr) (w_4 : Addr) (w_5 : Addr) (w_6 : Addr) (w_7 : Int32) (w_8 : Value) (o0 : Addr) (t : Addr) (kk : ClassId) (n : Int32) (vs : List Value) (z : Int32) (h0 : Heap) (n0 : Nat) (Z0 : n0 ≤ h0.size) (ST : own_St Z w_0 w_1 w_2 w_3 w_4 w_5 w_6 w_7 w_8) (O0 : Old Z n0 h0) (Es : Exa Z h0 o0 cn_2) (Fv : Fld Z h0 o0 cn_2 "value" "[B" (.ref t)) (Fc : Fld Z h0 o0 cn_2 "coder" "B" (.int 0)) (Va : Arv Z h0 t kk .byte n vs (.int 0)) (hL : own_last n vs z) :
    MetFree l y_24 (head1 (Jvm.Cond.code y_24 jdk_42_method_56_code 2 (some .char) :: ws) rr_ch) (fun a U => a = #[(.ref o0), (.int (n - (1 : Int32)))] ∧ Z.Warmed39 U.vm ∧ U.heap = h0) (fun _ _ _ _ _ => True) (fun _ U o U' => ∃ v L, o = .returned v ∧ Q_ch Z w_0 w_1 w_2 w_3 w_4 w_5 w_6 w_7 w_8 o0 t kk n vs z h0 n0 v U'.heap L ∧ FrameEnd U o U' L rr_ch.cells rr_ch.slots) := by
  refine MetFree.of_bodySF (plainFor_of_name pn_7) hisR ?_
  intro p e s m args below meth c s₁ Bd hml0 hP hK
  obtain ⟨rfl, hZ, hh⟩ := hP
  have hx := Bd.exec
  have hby := Bd.bytes
  have B := @hb _ _ hby
  have hml : c.maxLocals = 2 := hml0
  have hown : s.vm.findClass cn_2 = some m.cls := findClass_of_methodNamed Bd.named
  have X0 : Stand p l e rr_ch s m #[(.ref o0), (.int (n - (1 : Int32)))] below meth c s₁ [] 0 0 := Stand.of_body Bd
  have e0 : s₁.heap = h0 := by rw [← hh, Bd.state]; rfl
  have N0 := Fr.nil n0
  obtain ⟨G, step, ret, fin⟩ := own_openX X0 (rr_ch.cells) (rr_ch.slots) (Q_ch Z w_0 w_1 w_2 w_3 w_4 w_5 w_6 w_7 w_8 o0 t kk n vs z h0 n0) Bd.notSynchronized
  refine fin (g := entryFrame m #[(.ref o0), (.int (n - (1 : Int32)))] 2) ?_
  rw [ef_ch m o0]
  refine step (fun t k => XS.aloadN X0.here hx rfl (B d24_0) rfl rfl k) ?_
  have hK1 := (backOf (R := rr_ch) (p := p) (e := e) (below := below) (s := s) (args := #[(.ref o0), (.int (n - (1 : Int32)))]) (len := 3) (W := 0) (rm_la l Z a0 hw [] w_0 w_1 w_2 w_3 w_4 w_5 w_6 w_7 w_8 o0 h0 n0 (own_old_le O0) ST O0 Fc) hZ (ww140 hw) (ww92 hw) (by decide) (by decide))
  obtain ⟨cq1, kq1, q1a, q1b, q1c⟩ := isOf hZ e0 Es
  obtain ⟨_, _, ⟨T1, L1, k1, n1⟩, -, X1, ⟨Lc1, hQ1, l1, y1, z1⟩, st1⟩ := X0.virtualBack hx (y := y_16) (z := y_16) hown (mvT hZ (ww136 hw)) (mvT hZ (ww137 hw)) (notFace_of_selects (args := #[]) (mvT hZ (ww139 hw))) (mvT hZ (ww139 hw)) (mvT hZ (ww138 hw)) (by decide) hK1 q1a q1c (g := (mkF m 1 #[vR o0, vI ((n - (1 : Int32)))] [(.ref o0)])) rfl (by rw [hml]; rfl) (Steps.refl _) (argsL := []) (rest := []) (lenOf pd_11 rfl) rfl (by show 2 * 0 + _ ≤ _; exact Nat.le_of_eq rfl) (B d24_1) (fun _ _ => ⟨rfl, e0, (by decide : 0 + 0 ≤ _), (by decide : 0 + 0 ≤ _)⟩)
  dsimp only [Pt.U, Pt.locs, Pt.cells, Pt.slots] at X1 l1 y1 z1 st1 hQ1
  subst l1 y1 z1
  obtain ⟨rfl, N1q, e1⟩ := hQ1
  have N1 := Fr.app N0 N1q
  obtain ⟨lc1, X1, N1⟩ := own_gen X1 N1
  refine step (fun t k => st1.trans k) ?_
  have r2 : (f_la w_0 w_1 w_2 w_3 w_4 w_5 w_6 w_7 w_8 o0) = (1 : Int32) := rfl
  rw [r2]
  refine step (fun t k => XS.ifNo X1.here hx rfl (B d24_4) rfl ((if0 _ _).trans (feq (by decide : ¬ ((1 : Int32) = (0 : Int32)))).1) k) ?_
  refine step (fun t k => XS.aloadN X1.here hx rfl (B d24_7) rfl rfl k) ?_
  obtain ⟨T3, X3, e3, st3⟩ := getF X1 hx hZ hown (host := "") (Or.inl (ww107 hw)) Via.refl e1 Fv (g := (mkF m 8 #[vR o0, vI ((n - (1 : Int32)))] [(.ref o0)])) rfl rfl (B d24_8)
  refine step st3 ?_
  refine step (fun t k => XS.iloadN X3.here hx rfl (B d24_11) rfl k) ?_
  have hK4 := (backOf (R := rr_ch) (p := p) (e := e) (below := below) (s := s) (args := #[(.ref o0), (.int (n - (1 : Int32)))]) (len := 3) (W := 0) (rm_l1 l Z a0 hw [] w_0 w_1 w_2 w_3 w_4 w_5 w_6 w_7 w_8 t kk n vs z h0 n0 (own_old_le O0) ST O0 Va hL) hZ (ww152 hw) (ww151 hw) (by decide) (by decide))
  obtain ⟨_, _, ⟨T4, L4, k4, n4⟩, -, X4, ⟨Lc4, hQ4, l4, y4, z4⟩, st4⟩ := Jvm.LawKit.callS X3 hx (y := y_23) hown (mvT hZ (ww149 hw)) (mvT hZ (ww150 hw)) (mvT hZ (ww151 hw)) (mvT hZ (ww152 hw)) (by decide) hK4 (g := (mkF m 12 #[vR o0, vI ((n - (1 : Int32)))] [(.int (n - (1 : Int32))), (.ref t)])) rfl (by rw [hml]; rfl) (argsL := [(.ref t), (.int (n - (1 : Int32)))]) (rest := []) (lenOf pd_14 rfl) rfl (by show 2 * 0 + _ ≤ _; exact Nat.le_of_eq rfl) (B d24_12) (fun _ _ => ⟨rfl, e3, (by decide : 0 + 0 ≤ _), (by decide : 0 + 0 ≤ _)⟩)
  dsimp only [Pt.U, Pt.locs, Pt.cells, Pt.slots] at X4 l4 y4 z4 st4 hQ4
  subst l4 y4 z4
  obtain ⟨rfl, N4q, e4⟩ := hQ4
  have N4 := Fr.app N1 N4q
  obtain ⟨lc4, X4, N4⟩ := own_gen X4 N4
  refine step (fun t k => st4 t k) ?_
  have r5 : (f_l1 w_0 w_1 w_2 w_3 w_4 w_5 w_6 w_7 w_8 t kk n vs z) = (z &&& (255 : Int32)) := rfl
  rw [r5]
  exact ret (v := some (.int (z &&& (255 : Int32)))) X4 (fun h => by rw [Bd.returns] at h; cases h) (fun fs hr => retN X4 hx (t := .char) Bd.returns (by simp) (B d24_15) (by rw [own_narc (own_and255 z)]; exact hr)) e4 ⟨rfl, N4, rfl⟩ (by decide) (by decide)
theorem d25_0 : decode qc25 0 = .ok (.iload_n 0, 1) := by decide +kernel
theorem d25_1 : decode qc25 1 = .ok (.iload_n 1, 1) := by decide +kernel
theorem d25_2 : decode qc25 2 = .ok (.iload_n 2, 1) := by decide +kernel
theorem d25_3 : decode qc25 3 = .ok (.getstatic 1053, 3) := by decide +kernel
theorem d25_6 : decode qc25 6 = .ok (.invokestatic 1062, 3) := by decide +kernel
theorem ww168 (hw : HW Z a0) : Cond.before (Cond.methodLink cn_2 1062 ({ cls := cn_6, name := "checkFromToIndex", desc := cn_13 } : MethodName)) a0 Z = true := own_w hw 168 rfl
theorem d25_9 : decode qc25 9 = .ok (.pop, 1) := by decide +kernel
theorem d25_10 : decode qc25 10 = .ok (.return_, 1) := by decide +kernel
abbrev rr_cb : Room := { frames := 1, cells := 0, slots := 0, locals := 15 }
abbrev y_25 : MethodName := ⟨cn_2, "checkBoundsBeginEnd", "(III)V"⟩
theorem ef_cb (m : MethodId) (p1 : Int32) (p1 : Int32) : entryFrame m #[(.int 0), (.int p1), (.int p1)] 3 = mkF m 0 #[vI 0, vI p1, vI p1] [] := by first | (simp [entryFrame, mkF, argsToLocals, Value.category]; done) | rfl
def Q_cb (Z : State) (w_0 : Addr) (w_1 : Addr) (w_2 : Addr) (w_3 : Addr) (w_4 : Addr) (w_5 : Addr) (w_6 : Addr) (w_7 : Int32) (w_8 : Value) (p1 : Int32) (h0 : Heap) (n0 : Nat) (v : Option Value) (h : Heap) (L : List Loc) : Prop := v = none ∧ Fr n0 L ∧ h = h0
theorem rm_cb (l : Launch) (Z : State) (a0 : Array Value) (hw : HW Z a0) (ws : List Jvm.Cond) (w_0 : Addr) (w_1 : Addr) (w_2 : Addr) (w_3 : Addr) (w_4 : Addr) (w_5 : Addr) (w_6 : Addr) (w_7 : Int32) (w_8 : Value) (p1 : Int32) (h0 : Heap) (n0 : Nat) (Z0 : n0 ≤ h0.size) (ST : own_St Z w_0 w_1 w_2 w_3 w_4 w_5 w_6 w_7 w_8) (O0 : Old Z n0 h0) (hn : ¬ (p1 < (0 : Int32))) :
    MetFree l y_25 (head1 (Jvm.Cond.code y_25 jdk_42_method_158_code 3 none :: ws) rr_cb) (fun a U => a = #[(.int 0), (.int p1), (.int p1)] ∧ Z.Warmed39 U.vm ∧ U.heap = h0) (fun _ _ _ _ _ => True) (fun _ U o U' => ∃ v L, o = .returned v ∧ Q_cb Z w_0 w_1 w_2 w_3 w_4 w_5 w_6 w_7 w_8 p1 h0 n0 v U'.heap L ∧ FrameEnd U o U' L rr_cb.cells rr_cb.slots) := by
  refine MetFree.of_bodySF (plainFor_of_name pn_7) hisR ?_
  intro p e s m args below meth c s₁ Bd hml0 hP hK
  obtain ⟨rfl, hZ, hh⟩ := hP
  have hx := Bd.exec
  have hby := Bd.bytes
  have B := @hb _ _ hby
  have hml : c.maxLocals = 3 := hml0
  have hown : s.vm.findClass cn_2 = some m.cls := findClass_of_methodNamed Bd.named
  have X0 : Stand p l e rr_cb s m #[(.int 0), (.int p1), (.int p1)] below meth c s₁ [] 0 0 := Stand.of_body Bd
  have e0 : s₁.heap = h0 := by rw [← hh, Bd.state]; rfl
  have N0 := Fr.nil n0
  obtain ⟨G, step, ret, fin⟩ := own_openX X0 (rr_cb.cells) (rr_cb.slots) (Q_cb Z w_0 w_1 w_2 w_3 w_4 w_5 w_6 w_7 w_8 p1 h0 n0) Bd.notSynchronized
  refine fin (g := entryFrame m #[(.int 0), (.int p1), (.int p1)] 3) ?_
  rw [ef_cb m p1 p1]
  refine step (fun t k => XS.iloadN X0.here hx rfl (B d25_0) rfl k) ?_
  refine step (fun t k => XS.iloadN X0.here hx rfl (B d25_1) rfl k) ?_
  refine step (fun t k => XS.iloadN X0.here hx rfl (B d25_2) rfl k) ?_
  obtain ⟨T1, X1, e1, st1⟩ := getS2 X0 hx hZ hown (host := "") (Or.inl (ww156 hw)) Via.refl e0 (Sta.ext O0.2 ST.k19) (g := (mkF m 3 #[vI 0, vI p1, vI p1] [(.int p1), (.int p1), (.int 0)])) rfl (B d25_3)
  refine step st1 ?_
  have hK2 := (backOf (R := rr_cb) (p := p) (e := e) (below := below) (s := s) (args := #[(.int 0), (.int p1), (.int p1)]) (len := 3) (W := 0) (rm_cx l Z a0 hw [] w_0 w_1 w_2 w_3 w_4 w_5 w_6 w_7 w_8 p1 h0 n0 (own_old_le O0) ST O0 (hn : ¬ (p1 < (0 : Int32)))) hZ (ww135 hw) (ww134 hw) (by decide) (by decide))
  obtain ⟨_, _, ⟨T2, L2, k2, n2⟩, -, X2, ⟨Lc2, hQ2, l2, y2, z2⟩, st2⟩ := Jvm.LawKit.callS X1 hx (y := y_18) hown (mvT hZ (ww168 hw)) (mvT hZ (ww133 hw)) (mvT hZ (ww134 hw)) (mvT hZ (ww135 hw)) (by decide) hK2 (g := (mkF m 6 #[vI 0, vI p1, vI p1] [w_8, (.int p1), (.int p1), (.int 0)])) rfl (by rw [hml]; rfl) (argsL := [(.int 0), (.int p1), (.int p1), w_8]) (rest := []) (lenOf pd_8 rfl) rfl (by show 2 * 0 + _ ≤ _; exact Nat.le_of_eq rfl) (B d25_6) (fun _ _ => ⟨rfl, e1, (by decide : 0 + 0 ≤ _), (by decide : 0 + 0 ≤ _)⟩)
  dsimp only [Pt.U, Pt.locs, Pt.cells, Pt.slots] at X2 l2 y2 z2 st2 hQ2
  subst l2 y2 z2
  obtain ⟨rfl, N2q, e2⟩ := hQ2
  have N2 := Fr.app N0 N2q
  obtain ⟨lc2, X2, N2⟩ := own_gen X2 N2
  refine step (fun t k => st2 t k) ?_
  have r3 : (f_cx w_0 w_1 w_2 w_3 w_4 w_5 w_6 w_7 w_8 p1) = (0 : Int32) := rfl
  rw [r3]
  refine step (fun t k => XS.pop X2.here hx rfl (B d25_9) rfl rfl k) ?_
  exact ret (v := none) X2 (fun _ => rfl) (fun fs hr => X2.returnOut hx Bd.returns (B d25_10) hr) e2 ⟨rfl, N2, rfl⟩ (by decide) (by decide)
theorem d26_0 : decode qc26 0 = .ok (.aload_n 0, 1) := by decide +kernel
theorem d26_1 : decode qc26 1 = .ok (.invokevirtual 505, 3) := by decide +kernel
theorem d26_4 : decode qc26 4 = .ok (.istore_n 3, 1) := by decide +kernel
theorem d26_5 : decode qc26 5 = .ok (.iload_n 1, 1) := by decide +kernel
theorem d26_6 : decode qc26 6 = .ok (.iload_n 2, 1) := by decide +kernel
theorem d26_7 : decode qc26 7 = .ok (.iload_n 3, 1) := by decide +kernel
theorem d26_8 : decode qc26 8 = .ok (.invokestatic 521, 3) := by decide +kernel
theorem ww165 (hw : HW Z a0) : Cond.before (Cond.methodLink cn_2 521 ({ cls := cn_2, name := "checkBoundsBeginEnd", desc := "(III)V" } : MethodName)) a0 Z = true := own_w hw 165 rfl
theorem ww167 (hw : HW Z a0) : Cond.before (Cond.code ({ cls := cn_2, name := "checkBoundsBeginEnd", desc := "(III)V" } : MethodName) jdk_42_method_158_code 3 (Option.none : Option Jvm.ClassFile.FieldType)) a0 Z = true := own_w hw 167 rfl
theorem pd_15 : parseMethodDescriptor "(III)V" = some ⟨[.int, .int, .int], none⟩ := by decide +kernel
theorem ww166 (hw : HW Z a0) : Cond.before (Cond.static ({ cls := cn_2, name := "checkBoundsBeginEnd", desc := "(III)V" } : MethodName)) a0 Z = true := own_w hw 166 rfl
theorem d26_11 : decode qc26 11 = .ok (.iload_n 1, 1) := by decide +kernel
theorem d26_12 : decode qc26 12 = .ok (.ifCond .ne 10, 3) := by decide +kernel
theorem d26_15 : decode qc26 15 = .ok (.iload_n 2, 1) := by decide +kernel
theorem d26_16 : decode qc26 16 = .ok (.iload_n 3, 1) := by decide +kernel
theorem d26_17 : decode qc26 17 = .ok (.if_icmp .ne 5, 3) := by decide +kernel
theorem d26_20 : decode qc26 20 = .ok (.aload_n 0, 1) := by decide +kernel
theorem d26_21 : decode qc26 21 = .ok (.areturn, 1) := by decide +kernel
abbrev rr_su : Room := { frames := 2, cells := 0, slots := 0, locals := 29 }
abbrev y_26 : MethodName := ⟨cn_2, "substring", cn_19⟩
theorem ef_su (m : MethodId) (o0 : Addr) (n : Int32) : entryFrame m #[(.ref o0), (.int 0), (.int n)] 5 = mkF m 0 #[vR o0, vI 0, vI n, u_, u_] [] := by first | (simp [entryFrame, mkF, argsToLocals, Value.category]; done) | rfl
def f_su (w_0 : Addr) (w_1 : Addr) (w_2 : Addr) (w_3 : Addr) (w_4 : Addr) (w_5 : Addr) (w_6 : Addr) (w_7 : Int32) (w_8 : Value) (o0 : Addr) (n : Int32) (t : Addr) (kk : ClassId) (vs : List Value) (z : Int32) : Addr := o0
def Q_su (Z : State) (w_0 : Addr) (w_1 : Addr) (w_2 : Addr) (w_3 : Addr) (w_4 : Addr) (w_5 : Addr) (w_6 : Addr) (w_7 : Int32) (w_8 : Value) (o0 : Addr) (n : Int32) (t : Addr) (kk : ClassId) (vs : List Value) (z : Int32) (h0 : Heap) (n0 : Nat) (v : Option Value) (h : Heap) (L : List Loc) : Prop := v = some (.ref (f_su w_0 w_1 w_2 w_3 w_4 w_5 w_6 w_7 w_8 o0 n t kk vs z)) ∧ Fr n0 L ∧ h = h0
theorem rm_su (l : Launch) (Z : State) (a0 : Array Value) (hw : HW Z a0) (ws : List Jvm.Cond) (w_0 : Addr) (w_1 : Addr) (w_2 : Addr) (w_3 : Addr) (w_4 : Addr) (w_5 : Addr) (w_6 : Addr) (w_7 : Int32) (w_8 : Value) (o0 : Addr) (n : Int32) (t : Addr) (kk : ClassId) (vs : List Value) (z : Int32) (h0 : Heap) (n0 : Nat) (Z0 : n0 ≤ h0.size) (ST : own_St Z w_0 w_1 w_2 w_3 w_4 w_5 w_6 w_7 w_8) (O0 : Old Z n0 h0) (Es : Exa Z h0 o0 cn_2) (Fv : Fld Z h0 o0 cn_2 "value" "[B" (.ref t)) (Fc : Fld Z h0 o0 cn_2 "coder" "B" (.int 0)) (Va : Arv Z h0 t kk .byte n vs (.int 0)) (hL : own_last n vs z) :
    MetFree l y_26 (head1 (Jvm.Cond.code y_26 jdk_42_method_92_code 5 (some (.object cn_2)) :: ws) rr_su) (fun a U => a = #[(.ref o0), (.int 0), (.int n)] ∧ Z.Warmed39 U.vm ∧ U.heap = h0) (fun _ _ _ _ _ => True) (fun _ U o U' => ∃ v L, o = .returned v ∧ Q_su Z w_0 w_1 w_2 w_3 w_4 w_5 w_6 w_7 w_8 o0 n t kk vs z h0 n0 v U'.heap L ∧ FrameEnd U o U' L rr_su.cells rr_su.slots) := by
  refine MetFree.of_bodySF (plainFor_of_name pn_7) hisR ?_
  intro p e s m args below meth c s₁ Bd hml0 hP hK
  obtain ⟨rfl, hZ, hh⟩ := hP
  have hx := Bd.exec
  have hby := Bd.bytes
  have B := @hb _ _ hby
  have hml : c.maxLocals = 5 := hml0
  have hown : s.vm.findClass cn_2 = some m.cls := findClass_of_methodNamed Bd.named
  have X0 : Stand p l e rr_su s m #[(.ref o0), (.int 0), (.int n)] below meth c s₁ [] 0 0 := Stand.of_body Bd
  have e0 : s₁.heap = h0 := by rw [← hh, Bd.state]; rfl
  have N0 := Fr.nil n0
  obtain ⟨G, step, ret, fin⟩ := own_openX X0 (rr_su.cells) (rr_su.slots) (Q_su Z w_0 w_1 w_2 w_3 w_4 w_5 w_6 w_7 w_8 o0 n t kk vs z h0 n0) Bd.notSynchronized
  refine fin (g := entryFrame m #[(.ref o0), (.int 0), (.int n)] 5) ?_
  rw [ef_su m o0 n]
  refine step (fun t k => XS.aloadN X0.here hx rfl (B d26_0) rfl rfl k) ?_
  have hK1 := (backOf (R := rr_su) (p := p) (e := e) (below := below) (s := s) (args := #[(.ref o0), (.int 0), (.int n)]) (len := 3) (W := 0) (rm_le l Z a0 hw [] w_0 w_1 w_2 w_3 w_4 w_5 w_6 w_7 w_8 o0 t kk n vs h0 n0 (own_old_le O0) ST O0 Es Fv Fc Va) hZ (ww115 hw) (ww92 hw) (by decide) (by decide))
  obtain ⟨cq1, kq1, q1a, q1b, q1c⟩ := isOf hZ e0 Es
  obtain ⟨_, _, ⟨T1, L1, k1, n1⟩, -, X1, ⟨Lc1, hQ1, l1, y1, z1⟩, st1⟩ := X0.virtualBack hx (y := y_17) (z := y_17) hown (mvT hZ (ww127 hw)) (mvT hZ (ww112 hw)) (notFace_of_selects (args := #[]) (mvT hZ (ww114 hw))) (mvT hZ (ww114 hw)) (mvT hZ (ww113 hw)) (by decide) hK1 q1a q1c (g := (mkF m 1 #[vR o0, vI 0, vI n, u_, u_] [(.ref o0)])) rfl (by rw [hml]; rfl) (Steps.refl _) (argsL := []) (rest := []) (lenOf pd_9 rfl) rfl (by show 2 * 0 + _ ≤ _; exact Nat.le_of_eq rfl) (B d26_1) (fun _ _ => ⟨rfl, e0, (by decide : 0 + 0 ≤ _), (by decide : 0 + 0 ≤ _)⟩)
  dsimp only [Pt.U, Pt.locs, Pt.cells, Pt.slots] at X1 l1 y1 z1 st1 hQ1
  subst l1 y1 z1
  obtain ⟨rfl, N1q, e1⟩ := hQ1
  have N1 := Fr.app N0 N1q
  obtain ⟨lc1, X1, N1⟩ := own_gen X1 N1
  refine step (fun t k => st1.trans k) ?_
  have r2 : (f_le w_0 w_1 w_2 w_3 w_4 w_5 w_6 w_7 w_8 o0 t kk n vs) = n := rfl
  rw [r2]
  refine step (fun t k => XS.istoreN X1.here hx rfl (B d26_4) rfl (l' := #[vR o0, vI 0, vI n, vI n, u_]) rfl k) ?_
  refine step (fun t k => XS.iloadN X1.here hx rfl (B d26_5) rfl k) ?_
  refine step (fun t k => XS.iloadN X1.here hx rfl (B d26_6) rfl k) ?_
  refine step (fun t k => XS.iloadN X1.here hx rfl (B d26_7) rfl k) ?_
  have hK3 := (backOf (R := rr_su) (p := p) (e := e) (below := below) (s := s) (args := #[(.ref o0), (.int 0), (.int n)]) (len := 3) (W := 0) (rm_cb l Z a0 hw [] w_0 w_1 w_2 w_3 w_4 w_5 w_6 w_7 w_8 n h0 n0 (own_old_le O0) ST O0 ((own_nb hL).1 : ¬ (n < (0 : Int32)))) hZ (ww167 hw) (ww92 hw) (by decide) (by decide))
  obtain ⟨_, _, ⟨T3, L3, k3, n3⟩, -, X3, ⟨Lc3, hQ3, l3, y3, z3⟩, st3⟩ := Jvm.LawKit.callS X1 hx (y := y_25) hown (mvT hZ (ww165 hw)) (mvT hZ (ww166 hw)) (mvT hZ (ww92 hw)) (mvT hZ (ww167 hw)) (by decide) hK3 (g := (mkF m 8 #[vR o0, vI 0, vI n, vI n, u_] [(.int n), (.int n), (.int 0)])) rfl (by rw [hml]; rfl) (argsL := [(.int 0), (.int n), (.int n)]) (rest := []) (lenOf pd_15 rfl) rfl (by show 2 * 0 + _ ≤ _; exact Nat.le_of_eq rfl) (B d26_8) (fun _ _ => ⟨rfl, e1, (by decide : 0 + 0 ≤ _), (by decide : 0 + 0 ≤ _)⟩)
  dsimp only [Pt.U, Pt.locs, Pt.cells, Pt.slots] at X3 l3 y3 z3 st3 hQ3
  subst l3 y3 z3
  obtain ⟨rfl, N3q, e3⟩ := hQ3
  have N3 := Fr.app N1 N3q
  obtain ⟨lc3, X3, N3⟩ := own_gen X3 N3
  refine step (fun t k => st3 t k) ?_
  refine step (fun t k => XS.iloadN X3.here hx rfl (B d26_11) rfl k) ?_
  refine step (fun t k => XS.ifNo X3.here hx rfl (B d26_12) rfl ((if0 _ _).trans (teq (by decide : (0 : Int32) = (0 : Int32))).2) k) ?_
  refine step (fun t k => XS.iloadN X3.here hx rfl (B d26_15) rfl k) ?_
  refine step (fun t k => XS.iloadN X3.here hx rfl (B d26_16) rfl k) ?_
  refine step (fun t k => XS.icmpNo X3.here hx rfl (B d26_17) rfl (teq (rfl : n = n)).2 k) ?_
  show G T3 (mkF m 20 #[vR o0, vI 0, vI n, vI n, u_] [])
  refine step (fun t k => XS.aloadN X3.here hx rfl (B d26_20) rfl rfl k) ?_
  exact ret (v := some (.ref o0)) X3 (fun h => by rw [Bd.returns] at h; cases h) (fun fs hr => retA X3 hx Bd.returns rfl rfl (B d26_21) hr) e3 ⟨rfl, N3, rfl⟩ (by decide) (by decide)
theorem d27_0 : decode qc27 0 = .ok (.aload_n 0, 1) := by decide +kernel
theorem d27_1 : decode qc27 1 = .ok (.invokevirtual 85, 3) := by decide +kernel
theorem ww111 (hw : HW Z a0) : Cond.before (Cond.methodLink cn_0 85 ({ cls := cn_2, name := "length", desc := "()I" } : MethodName)) a0 Z = true := own_w hw 111 rfl
theorem d27_4 : decode qc27 4 = .ok (.istore_n 1, 1) := by decide +kernel
theorem d27_5 : decode qc27 5 = .ok (.iload_n 1, 1) := by decide +kernel
theorem d27_6 : decode qc27 6 = .ok (.ifCond .le 21, 3) := by decide +kernel
theorem d27_9 : decode qc27 9 = .ok (.aload_n 0, 1) := by decide +kernel
theorem d27_10 : decode qc27 10 = .ok (.iload_n 1, 1) := by decide +kernel
theorem d27_11 : decode qc27 11 = .ok (.iconst 1, 1) := by decide +kernel
theorem d27_12 : decode qc27 12 = .ok (.isub, 1) := by decide +kernel
theorem d27_13 : decode qc27 13 = .ok (.invokevirtual 113, 3) := by decide +kernel
theorem ww144 (hw : HW Z a0) : Cond.before (Cond.methodLink cn_0 113 ({ cls := cn_2, name := "charAt", desc := "(I)C" } : MethodName)) a0 Z = true := own_w hw 144 rfl
theorem ww147 (hw : HW Z a0) : Cond.before (Cond.selects cn_2 ({ cls := cn_2, name := "charAt", desc := "(I)C" } : MethodName) ({ cls := cn_2, name := "charAt", desc := "(I)C" } : MethodName)) a0 Z = true := own_w hw 147 rfl
theorem ww148 (hw : HW Z a0) : Cond.before (Cond.code ({ cls := cn_2, name := "charAt", desc := "(I)C" } : MethodName) jdk_42_method_56_code 2 (Option.some FieldType.char)) a0 Z = true := own_w hw 148 rfl
theorem pd_16 : parseMethodDescriptor "(I)C" = some ⟨[.int], some .char⟩ := by decide +kernel
theorem ww145 (hw : HW Z a0) : Cond.before (Cond.declares ({ cls := cn_2, name := "charAt", desc := "(I)C" } : MethodName)) a0 Z = true := own_w hw 145 rfl
theorem ww146 (hw : HW Z a0) : Cond.before (Cond.instanceMethod ({ cls := cn_2, name := "charAt", desc := "(I)C" } : MethodName)) a0 Z = true := own_w hw 146 rfl
theorem d27_16 : decode qc27 16 = .ok (.bipush 32, 2) := by decide +kernel
theorem d27_18 : decode qc27 18 = .ok (.if_icmp .ne 9, 3) := by decide +kernel
theorem d27_27 : decode qc27 27 = .ok (.aload_n 0, 1) := by decide +kernel
theorem d27_28 : decode qc27 28 = .ok (.iconst 0, 1) := by decide +kernel
theorem d27_29 : decode qc27 29 = .ok (.iload_n 1, 1) := by decide +kernel
theorem d27_30 : decode qc27 30 = .ok (.invokevirtual 110, 3) := by decide +kernel
theorem ww160 (hw : HW Z a0) : Cond.before (Cond.methodLink cn_0 110 ({ cls := cn_2, name := "substring", desc := cn_19 } : MethodName)) a0 Z = true := own_w hw 160 rfl
theorem ww163 (hw : HW Z a0) : Cond.before (Cond.selects cn_2 ({ cls := cn_2, name := "substring", desc := cn_19 } : MethodName) ({ cls := cn_2, name := "substring", desc := cn_19 } : MethodName)) a0 Z = true := own_w hw 163 rfl
theorem ww164 (hw : HW Z a0) : Cond.before (Cond.code ({ cls := cn_2, name := "substring", desc := cn_19 } : MethodName) jdk_42_method_92_code 5 (Option.some (FieldType.object cn_2))) a0 Z = true := own_w hw 164 rfl
theorem pd_17 : parseMethodDescriptor cn_19 = some ⟨[.int, .int], some (.object cn_2)⟩ := by decide +kernel
theorem ww161 (hw : HW Z a0) : Cond.before (Cond.declares ({ cls := cn_2, name := "substring", desc := cn_19 } : MethodName)) a0 Z = true := own_w hw 161 rfl
theorem ww162 (hw : HW Z a0) : Cond.before (Cond.instanceMethod ({ cls := cn_2, name := "substring", desc := cn_19 } : MethodName)) a0 Z = true := own_w hw 162 rfl
theorem d27_33 : decode qc27 33 = .ok (.areturn, 1) := by decide +kernel
abbrev rr_st : Room := { frames := 4, cells := 0, slots := 0, locals := 53 }
abbrev y_27 : MethodName := ⟨cn_0, "stripTrailingSpaces", cn_15⟩
theorem ef_st (m : MethodId) (o0 : Addr) : entryFrame m #[(.ref o0)] 2 = mkF m 0 #[vR o0, u_] [] := by first | (simp [entryFrame, mkF, argsToLocals, Value.category]; done) | rfl
def f_st (w_0 : Addr) (w_1 : Addr) (w_2 : Addr) (w_3 : Addr) (w_4 : Addr) (w_5 : Addr) (w_6 : Addr) (w_7 : Int32) (w_8 : Value) (o0 : Addr) (t : Addr) (kk : ClassId) (n : Int32) (vs : List Value) (z : Int32) : Addr := o0
def Q_st (Z : State) (w_0 : Addr) (w_1 : Addr) (w_2 : Addr) (w_3 : Addr) (w_4 : Addr) (w_5 : Addr) (w_6 : Addr) (w_7 : Int32) (w_8 : Value) (o0 : Addr) (t : Addr) (kk : ClassId) (n : Int32) (vs : List Value) (z : Int32) (h0 : Heap) (n0 : Nat) (v : Option Value) (h : Heap) (L : List Loc) : Prop := v = some (.ref (f_st w_0 w_1 w_2 w_3 w_4 w_5 w_6 w_7 w_8 o0 t kk n vs z)) ∧ Fr n0 L ∧ h = h0
theorem rm_st (l : Launch) (Z : State) (a0 : Array Value) (hw : HW Z a0) (ws : List Jvm.Cond) (w_0 : Addr) (w_1 : Addr) (w_2 : Addr) (w_3 : Addr) (w_4 : Addr) (w_5 : Addr) (w_6 : Addr) (w_7 : Int32) (w_8 : Value) (o0 : Addr) (t : Addr) (kk : ClassId) (n : Int32) (vs : List Value) (z : Int32) (h0 : Heap) (n0 : Nat) (Z0 : n0 ≤ h0.size) (ST : own_St Z w_0 w_1 w_2 w_3 w_4 w_5 w_6 w_7 w_8) (O0 : Old Z n0 h0) (Es : Exa Z h0 o0 cn_2) (Fv : Fld Z h0 o0 cn_2 "value" "[B" (.ref t)) (Fc : Fld Z h0 o0 cn_2 "coder" "B" (.int 0)) (Va : Arv Z h0 t kk .byte n vs (.int 0)) (hL : own_last n vs z) :
    MetFree l y_27 (head1 (Jvm.Cond.code y_27 prog_2_method_6_code 2 (some (.object cn_2)) :: ws) rr_st) (fun a U => a = #[(.ref o0)] ∧ Z.Warmed39 U.vm ∧ U.heap = h0) (fun _ _ _ _ _ => True) (fun _ U o U' => ∃ v L, o = .returned v ∧ Q_st Z w_0 w_1 w_2 w_3 w_4 w_5 w_6 w_7 w_8 o0 t kk n vs z h0 n0 v U'.heap L ∧ FrameEnd U o U' L rr_st.cells rr_st.slots) := by
  refine MetFree.of_bodySF (plainFor_of_name pn_4) hisR ?_
  intro p e s m args below meth c s₁ Bd hml0 hP hK
  obtain ⟨rfl, hZ, hh⟩ := hP
  have hx := Bd.exec
  have hby := Bd.bytes
  have B := @hb _ _ hby
  have hml : c.maxLocals = 2 := hml0
  have hown : s.vm.findClass cn_0 = some m.cls := findClass_of_methodNamed Bd.named
  have X0 : Stand p l e rr_st s m #[(.ref o0)] below meth c s₁ [] 0 0 := Stand.of_body Bd
  have e0 : s₁.heap = h0 := by rw [← hh, Bd.state]; rfl
  have N0 := Fr.nil n0
  obtain ⟨G, step, ret, fin⟩ := own_openX X0 (rr_st.cells) (rr_st.slots) (Q_st Z w_0 w_1 w_2 w_3 w_4 w_5 w_6 w_7 w_8 o0 t kk n vs z h0 n0) Bd.notSynchronized
  refine fin (g := entryFrame m #[(.ref o0)] 2) ?_
  rw [ef_st m o0]
  refine step (fun t k => XS.aloadN X0.here hx rfl (B d27_0) rfl rfl k) ?_
  have hK1 := (backOf (R := rr_st) (p := p) (e := e) (below := below) (s := s) (args := #[(.ref o0)]) (len := 3) (W := 0) (rm_le l Z a0 hw [] w_0 w_1 w_2 w_3 w_4 w_5 w_6 w_7 w_8 o0 t kk n vs h0 n0 (own_old_le O0) ST O0 Es Fv Fc Va) hZ (ww115 hw) (ww92 hw) (by decide) (by decide))
  obtain ⟨cq1, kq1, q1a, q1b, q1c⟩ := isOf hZ e0 Es
  obtain ⟨_, _, ⟨T1, L1, k1, n1⟩, -, X1, ⟨Lc1, hQ1, l1, y1, z1⟩, st1⟩ := X0.virtualBack hx (y := y_17) (z := y_17) hown (mvT hZ (ww111 hw)) (mvT hZ (ww112 hw)) (notFace_of_selects (args := #[]) (mvT hZ (ww114 hw))) (mvT hZ (ww114 hw)) (mvT hZ (ww113 hw)) (by decide) hK1 q1a q1c (g := (mkF m 1 #[vR o0, u_] [(.ref o0)])) rfl (by rw [hml]; rfl) (Steps.refl _) (argsL := []) (rest := []) (lenOf pd_9 rfl) rfl (by show 2 * 0 + _ ≤ _; exact Nat.le_of_eq rfl) (B d27_1) (fun _ _ => ⟨rfl, e0, (by decide : 0 + 0 ≤ _), (by decide : 0 + 0 ≤ _)⟩)
  dsimp only [Pt.U, Pt.locs, Pt.cells, Pt.slots] at X1 l1 y1 z1 st1 hQ1
  subst l1 y1 z1
  obtain ⟨rfl, N1q, e1⟩ := hQ1
  have N1 := Fr.app N0 N1q
  obtain ⟨lc1, X1, N1⟩ := own_gen X1 N1
  refine step (fun t k => st1.trans k) ?_
  have r2 : (f_le w_0 w_1 w_2 w_3 w_4 w_5 w_6 w_7 w_8 o0 t kk n vs) = n := rfl
  rw [r2]
  refine step (fun t k => XS.istoreN X1.here hx rfl (B d27_4) rfl (l' := #[vR o0, vI n]) rfl k) ?_
  refine step (fun t k => XS.iloadN X1.here hx rfl (B d27_5) rfl k) ?_
  refine step (fun t k => XS.ifNo X1.here hx rfl (B d27_6) rfl ((if0 _ _).trans (tlt (own_nb hL).2.1).2.2.2) k) ?_
  refine step (fun t k => XS.aloadN X1.here hx rfl (B d27_9) rfl rfl k) ?_
  refine step (fun t k => XS.iloadN X1.here hx rfl (B d27_10) rfl k) ?_
  show G T1 (mkF m 11 #[vR o0, vI n] [(.int n), (.ref o0)])
  refine step (fun t k => XS.iconst X1.here hx rfl (B d27_11) k) ?_
  refine step (fun t k => XS.isub X1.here hx rfl (B d27_12) rfl k) ?_
  have hK3 := (backOf (R := rr_st) (p := p) (e := e) (below := below) (s := s) (args := #[(.ref o0)]) (len := 3) (W := 0) (rm_ch l Z a0 hw [] w_0 w_1 w_2 w_3 w_4 w_5 w_6 w_7 w_8 o0 t kk n vs z h0 n0 (own_old_le O0) ST O0 Es Fv Fc Va hL) hZ (ww148 hw) (ww92 hw) (by decide) (by decide))
  obtain ⟨cq3, kq3, q3a, q3b, q3c⟩ := isOf hZ e1 Es
  obtain ⟨_, _, ⟨T3, L3, k3, n3⟩, -, X3, ⟨Lc3, hQ3, l3, y3, z3⟩, st3⟩ := X1.virtualBack hx (y := y_24) (z := y_24) hown (mvT hZ (ww144 hw)) (mvT hZ (ww145 hw)) (notFace_of_selects (args := #[]) (mvT hZ (ww147 hw))) (mvT hZ (ww147 hw)) (mvT hZ (ww146 hw)) (by decide) hK3 q3a q3c (g := (mkF m 13 #[vR o0, vI n] [(.int (n - (1 : Int32))), (.ref o0)])) rfl (by rw [hml]; rfl) (Steps.refl _) (argsL := [(.int (n - (1 : Int32)))]) (rest := []) (lenOf pd_16 rfl) rfl (by show 2 * 0 + _ ≤ _; exact Nat.le_of_eq rfl) (B d27_13) (fun _ _ => ⟨rfl, e1, (by decide : 0 + 0 ≤ _), (by decide : 0 + 0 ≤ _)⟩)
  dsimp only [Pt.U, Pt.locs, Pt.cells, Pt.slots] at X3 l3 y3 z3 st3 hQ3
  subst l3 y3 z3
  obtain ⟨rfl, N3q, e3⟩ := hQ3
  have N3 := Fr.app N1 N3q
  obtain ⟨lc3, X3, N3⟩ := own_gen X3 N3
  refine step (fun t k => st3.trans k) ?_
  have r4 : (f_ch w_0 w_1 w_2 w_3 w_4 w_5 w_6 w_7 w_8 o0 t kk n vs z) = (z &&& (255 : Int32)) := rfl
  rw [r4]
  refine step (fun t k => XS.bipush X3.here hx rfl (B d27_16) k) ?_
  refine step (fun t k => XS.icmpYes X3.here hx rfl (pc0 := 18) (pc' := 27) rfl (B d27_18) rfl (feq hL.2.2).2 (by decide) (by decide) k) ?_
  refine step (fun t k => XS.aloadN X3.here hx rfl (B d27_27) rfl rfl k) ?_
  refine step (fun t k => XS.iconst X3.here hx rfl (B d27_28) k) ?_
  refine step (fun t k => XS.iloadN X3.here hx rfl (B d27_29) rfl k) ?_
  show G T3 (mkF m 30 #[vR o0, vI n] [(.int n), (.int 0), (.ref o0)])
  have hK5 := (backOf (R := rr_st) (p := p) (e := e) (below := below) (s := s) (args := #[(.ref o0)]) (len := 3) (W := 0) (rm_su l Z a0 hw [] w_0 w_1 w_2 w_3 w_4 w_5 w_6 w_7 w_8 o0 n t kk vs z h0 n0 (own_old_le O0) ST O0 Es Fv Fc Va hL) hZ (ww164 hw) (ww92 hw) (by decide) (by decide))
  obtain ⟨cq5, kq5, q5a, q5b, q5c⟩ := isOf hZ e3 Es
  obtain ⟨_, _, ⟨T5, L5, k5, n5⟩, -, X5, ⟨Lc5, hQ5, l5, y5, z5⟩, st5⟩ := X3.virtualBack hx (y := y_26) (z := y_26) hown (mvT hZ (ww160 hw)) (mvT hZ (ww161 hw)) (notFace_of_selects (args := #[]) (mvT hZ (ww163 hw))) (mvT hZ (ww163 hw)) (mvT hZ (ww162 hw)) (by decide) hK5 q5a q5c (g := (mkF m 30 #[vR o0, vI n] [(.int n), (.int 0), (.ref o0)])) rfl (by rw [hml]; rfl) (Steps.refl _) (argsL := [(.int 0), (.int n)]) (rest := []) (lenOf pd_17 rfl) rfl (by show 2 * 0 + _ ≤ _; exact Nat.le_of_eq rfl) (B d27_30) (fun _ _ => ⟨rfl, e3, (by decide : 0 + 0 ≤ _), (by decide : 0 + 0 ≤ _)⟩)
  dsimp only [Pt.U, Pt.locs, Pt.cells, Pt.slots] at X5 l5 y5 z5 st5 hQ5
  subst l5 y5 z5
  obtain ⟨rfl, N5q, e5⟩ := hQ5
  have N5 := Fr.app N3 N5q
  obtain ⟨lc5, X5, N5⟩ := own_gen X5 N5
  refine step (fun t k => st5.trans k) ?_
  have r6 : (f_su w_0 w_1 w_2 w_3 w_4 w_5 w_6 w_7 w_8 o0 n t kk vs z) = o0 := rfl
  rw [r6]
  exact ret (v := some (.ref o0)) X5 (fun h => by rw [Bd.returns] at h; cases h) (fun fs hr => retA X5 hx Bd.returns rfl rfl (B d27_33) hr) e5 ⟨rfl, N5, rfl⟩ (by decide) (by decide)
theorem d28_0 : decode qc28 0 = .ok (.aload_n 0, 1) := by decide +kernel
theorem d28_1 : decode qc28 1 = .ok (.getfield 273, 3) := by decide +kernel
theorem d28_4 : decode qc28 4 = .ok (.invokestatic 9, 3) := by decide +kernel
theorem ww84 (hw : HW Z a0) : Cond.before (Cond.methodLink cn_3 9 ({ cls := cn_3, name := "toString", desc := cn_25 } : MethodName)) a0 Z = true := own_w hw 84 rfl
theorem ww86 (hw : HW Z a0) : Cond.before (Cond.code ({ cls := cn_3, name := "toString", desc := cn_25 } : MethodName) jdk_35_method_12_code 4 (Option.some (FieldType.object cn_2))) a0 Z = true := own_w hw 86 rfl
theorem pd_18 : parseMethodDescriptor cn_25 = some ⟨[.long], some (.object cn_2)⟩ := by decide +kernel
theorem ww85 (hw : HW Z a0) : Cond.before (Cond.static ({ cls := cn_3, name := "toString", desc := cn_25 } : MethodName)) a0 Z = true := own_w hw 85 rfl
theorem d28_7 : decode qc28 7 = .ok (.areturn, 1) := by decide +kernel
abbrev rr_lt : Room := { frames := 3, cells := 2, slots := 15, locals := 42 }
abbrev y_28 : MethodName := ⟨cn_3, "toString", cn_17⟩
theorem ef_lt (m : MethodId) (o0 : Addr) : entryFrame m #[(.ref o0)] 1 = mkF m 0 #[vR o0] [] := by first | (simp [entryFrame, mkF, argsToLocals, Value.category]; done) | rfl
def Q_lt (Z : State) (w_0 : Addr) (w_1 : Addr) (w_2 : Addr) (w_3 : Addr) (w_4 : Addr) (w_5 : Addr) (w_6 : Addr) (w_7 : Int32) (w_8 : Value) (o0 : Addr) (q0 : Int64) (h0 : Heap) (n0 : Nat) (v : Option Value) (h : Heap) (L : List Loc) : Prop := ∃ b : Addr, ∃ t : Addr, ∃ kk : ClassId, ∃ n : Int32, ∃ vs : List Value, ∃ z : Int32, v = some (.ref b) ∧ Fr n0 L ∧ Keep h0 h [] ∧ Exa Z h b cn_2 ∧ Fld Z h b cn_2 "value" "[B" (.ref t) ∧ Fld Z h b cn_2 "coder" "B" (.int 0) ∧ Arv Z h t kk .byte n vs (.int 0) ∧ own_last n vs z
theorem rm_lt (l : Launch) (Z : State) (a0 : Array Value) (hw : HW Z a0) (ws : List Jvm.Cond) (w_0 : Addr) (w_1 : Addr) (w_2 : Addr) (w_3 : Addr) (w_4 : Addr) (w_5 : Addr) (w_6 : Addr) (w_7 : Int32) (w_8 : Value) (o0 : Addr) (q0 : Int64) (h0 : Heap) (n0 : Nat) (Z0 : n0 ≤ h0.size) (ST : own_St Z w_0 w_1 w_2 w_3 w_4 w_5 w_6 w_7 w_8) (O0 : Old Z n0 h0) (Fv : Fld Z h0 o0 cn_3 "value" "J" (.long q0)) (hrg : -2147483648 ≤ q0.toInt ∧ q0.toInt ≤ 2147483647) :
    MetFree l y_28 (head1 (Jvm.Cond.code y_28 jdk_35_method_34_code 1 (some (.object cn_2)) :: ws) rr_lt) (fun a U => a = #[(.ref o0)] ∧ Z.Warmed39 U.vm ∧ U.heap = h0) (fun _ _ _ _ _ => True) (fun _ U o U' => ∃ v L, o = .returned v ∧ Q_lt Z w_0 w_1 w_2 w_3 w_4 w_5 w_6 w_7 w_8 o0 q0 h0 n0 v U'.heap L ∧ FrameEnd U o U' L rr_lt.cells rr_lt.slots) := by
  refine MetFree.of_bodySF (plainFor_of_name pn_5) hisR ?_
  intro p e s m args below meth c s₁ Bd hml0 hP hK
  obtain ⟨rfl, hZ, hh⟩ := hP
  have hx := Bd.exec
  have hby := Bd.bytes
  have B := @hb _ _ hby
  have hml : c.maxLocals = 1 := hml0
  have hown : s.vm.findClass cn_3 = some m.cls := findClass_of_methodNamed Bd.named
  have X0 : Stand p l e rr_lt s m #[(.ref o0)] below meth c s₁ [] 0 0 := Stand.of_body Bd
  have e0 : s₁.heap = h0 := by rw [← hh, Bd.state]; rfl
  have N0 := Fr.nil n0
  have K0 : Keep h0 h0 [] := Keep.refl _ _
  obtain ⟨G, step, ret, fin⟩ := own_openX X0 (rr_lt.cells) (rr_lt.slots) (Q_lt Z w_0 w_1 w_2 w_3 w_4 w_5 w_6 w_7 w_8 o0 q0 h0 n0) Bd.notSynchronized
  refine fin (g := entryFrame m #[(.ref o0)] 1) ?_
  rw [ef_lt m o0]
  refine step (fun t k => XS.aloadN X0.here hx rfl (B d28_0) rfl rfl k) ?_
  obtain ⟨T1, X1, e1, st1⟩ := getF X0 hx hZ hown (host := "") (Or.inl (ww63 hw)) Via.refl e0 Fv (g := (mkF m 1 #[vR o0] [(.ref o0)])) rfl rfl (B d28_1)
  refine step st1 ?_
  have hK2 := (backOf (R := rr_lt) (p := p) (e := e) (below := below) (s := s) (args := #[(.ref o0)]) (len := 3) (W := 0) (rm_ts l Z a0 hw [] w_0 w_1 w_2 w_3 w_4 w_5 w_6 w_7 w_8 q0 h0 n0 (own_old_le O0) ST O0 hrg) hZ (ww86 hw) (ww33 hw) (by decide) (by decide))
  obtain ⟨_, _, ⟨T2, L2, k2, n2⟩, -, X2, ⟨Lc2, hQ2, l2, y2, z2⟩, st2⟩ := Jvm.LawKit.callS X1 hx (y := y_14) hown (mvT hZ (ww84 hw)) (mvT hZ (ww85 hw)) (mvT hZ (ww33 hw)) (mvT hZ (ww86 hw)) (by decide) hK2 (g := (mkF m 4 #[vR o0] [(.long q0)])) rfl (by rw [hml]; rfl) (argsL := [(.long q0)]) (rest := []) (lenOf pd_18 rfl) rfl (by show 2 * 0 + _ ≤ _; exact Nat.le_of_eq rfl) (B d28_4) (fun _ _ => ⟨rfl, e1, (by decide : 0 + 2 ≤ _), (by decide : 0 + 15 ≤ _)⟩)
  dsimp only [Pt.U, Pt.locs, Pt.cells, Pt.slots] at X2 l2 y2 z2 st2 hQ2
  subst l2 y2 z2
  obtain ⟨b2, t_2, kk_2, n_2, vs_2, z_2, rfl, N2q, K2q, Y2_0, Y2_1, Y2_2, Y2_3, Y2_4⟩ := hQ2
  have N2 := Fr.app N0 N2q
  obtain ⟨lc2, X2, N2⟩ := own_gen X2 N2
  have K2 : Keep h0 T2.heap [] := K0.trans K2q all0
  refine step (fun t k => st2 t k) ?_
  exact ret (v := some (.ref b2)) X2 (fun h => by rw [Bd.returns] at h; cases h) (fun fs hr => retA X2 hx Bd.returns rfl rfl (B d28_7) hr) rfl ⟨b2, t_2, kk_2, n_2, vs_2, z_2, rfl, N2, K2, Y2_0, Y2_1, Y2_2, Y2_3, Y2_4⟩ (by decide) (by decide)
abbrev y_29 : MethodName := ⟨cn_8, "toString", cn_17⟩
theorem d29_0 : decode qc29 0 = .ok (.aload_n 1, 1) := by decide +kernel
theorem d29_1 : decode qc29 1 = .ok (.instanceof 37, 3) := by decide +kernel
theorem d29_4 : decode qc29 4 = .ok (.ifCond .eq 10, 3) := by decide +kernel
theorem d29_7 : decode qc29 7 = .ok (.aload_n 1, 1) := by decide +kernel
theorem d29_8 : decode qc29 8 = .ok (.invokevirtual 80, 3) := by decide +kernel
theorem ww78 (hw : HW Z a0) : Cond.before (Cond.methodLink cn_0 80 ({ cls := cn_8, name := "toString", desc := cn_17 } : MethodName)) a0 Z = true := own_w hw 78 rfl
theorem ww81 (hw : HW Z a0) : Cond.before (Cond.selects cn_3 ({ cls := cn_8, name := "toString", desc := cn_17 } : MethodName) ({ cls := cn_3, name := "toString", desc := cn_17 } : MethodName)) a0 Z = true := own_w hw 81 rfl
theorem ww83 (hw : HW Z a0) : Cond.before (Cond.code ({ cls := cn_3, name := "toString", desc := cn_17 } : MethodName) jdk_35_method_34_code 1 (Option.some (FieldType.object cn_2))) a0 Z = true := own_w hw 83 rfl
theorem pd_19 : parseMethodDescriptor cn_17 = some ⟨[], some (.object cn_2)⟩ := by decide +kernel
theorem ww79 (hw : HW Z a0) : Cond.before (Cond.declares ({ cls := cn_8, name := "toString", desc := cn_17 } : MethodName)) a0 Z = true := own_w hw 79 rfl
theorem ww170 (hw : HW Z a0) : Cond.before (Cond.noSuperclass cn_8) a0 Z = true := own_w hw 170 rfl
theorem ww82 (hw : HW Z a0) : Cond.before (Cond.instanceMethod ({ cls := cn_3, name := "toString", desc := cn_17 } : MethodName)) a0 Z = true := own_w hw 82 rfl
theorem d29_11 : decode qc29 11 = .ok (.goto 7, 3) := by decide +kernel
theorem d29_18 : decode qc29 18 = .ok (.astore_n 2, 1) := by decide +kernel
theorem d29_19 : decode qc29 19 = .ok (.aload_n 2, 1) := by decide +kernel
theorem d29_20 : decode qc29 20 = .ok (.iconst 0, 1) := by decide +kernel
theorem d29_21 : decode qc29 21 = .ok (.aload_n 2, 1) := by decide +kernel
theorem d29_22 : decode qc29 22 = .ok (.invokevirtual 85, 3) := by decide +kernel
theorem d29_25 : decode qc29 25 = .ok (.invokevirtual 87, 3) := by decide +kernel
theorem ww122 (hw : HW Z a0) : Cond.before (Cond.methodLink cn_0 87 ({ cls := cn_2, name := "codePointCount", desc := "(II)I" } : MethodName)) a0 Z = true := own_w hw 122 rfl
theorem ww125 (hw : HW Z a0) : Cond.before (Cond.selects cn_2 ({ cls := cn_2, name := "codePointCount", desc := "(II)I" } : MethodName) ({ cls := cn_2, name := "codePointCount", desc := "(II)I" } : MethodName)) a0 Z = true := own_w hw 125 rfl
theorem ww126 (hw : HW Z a0) : Cond.before (Cond.code ({ cls := cn_2, name := "codePointCount", desc := "(II)I" } : MethodName) jdk_42_method_59_code 3 (Option.some FieldType.int)) a0 Z = true := own_w hw 126 rfl
theorem pd_20 : parseMethodDescriptor "(II)I" = some ⟨[.int, .int], some .int⟩ := by decide +kernel
theorem ww123 (hw : HW Z a0) : Cond.before (Cond.declares ({ cls := cn_2, name := "codePointCount", desc := "(II)I" } : MethodName)) a0 Z = true := own_w hw 123 rfl
theorem ww124 (hw : HW Z a0) : Cond.before (Cond.instanceMethod ({ cls := cn_2, name := "codePointCount", desc := "(II)I" } : MethodName)) a0 Z = true := own_w hw 124 rfl
theorem d29_28 : decode qc29 28 = .ok (.istore_n 3, 1) := by decide +kernel
theorem d29_29 : decode qc29 29 = .ok (.iload_n 3, 1) := by decide +kernel
theorem d29_30 : decode qc29 30 = .ok (.aload_n 0, 1) := by decide +kernel
theorem d29_31 : decode qc29 31 = .ok (.getfield 13, 3) := by decide +kernel
theorem d29_34 : decode qc29 34 = .ok (.if_icmp .gt 5, 3) := by decide +kernel
theorem d29_37 : decode qc29 37 = .ok (.aload_n 2, 1) := by decide +kernel
theorem d29_38 : decode qc29 38 = .ok (.areturn, 1) := by decide +kernel
abbrev rr_tx : Room := { frames := 4, cells := 2, slots := 15, locals := 54 }
abbrev y_30 : MethodName := ⟨cn_0, "text", cn_12⟩
theorem ef_tx (m : MethodId) (o0 : Addr) (o1 : Addr) : entryFrame m #[(.ref o0), (.ref o1)] 5 = mkF m 0 #[vR o0, vR o1, u_, u_, u_] [] := by first | (simp [entryFrame, mkF, argsToLocals, Value.category]; done) | rfl
def Q_tx (Z : State) (w_0 : Addr) (w_1 : Addr) (w_2 : Addr) (w_3 : Addr) (w_4 : Addr) (w_5 : Addr) (w_6 : Addr) (w_7 : Int32) (w_8 : Value) (o0 : Addr) (o1 : Addr) (q0 : Int64) (h0 : Heap) (n0 : Nat) (v : Option Value) (h : Heap) (L : List Loc) : Prop := ∃ b : Addr, ∃ t : Addr, ∃ kk : ClassId, ∃ n : Int32, ∃ vs : List Value, ∃ z : Int32, v = some (.ref b) ∧ Fr n0 L ∧ Keep h0 h [] ∧ Exa Z h b cn_2 ∧ Fld Z h b cn_2 "value" "[B" (.ref t) ∧ Fld Z h b cn_2 "coder" "B" (.int 0) ∧ Arv Z h t kk .byte n vs (.int 0) ∧ own_last n vs z
theorem rm_tx (l : Launch) (Z : State) (a0 : Array Value) (hw : HW Z a0) (ws : List Jvm.Cond) (w_0 : Addr) (w_1 : Addr) (w_2 : Addr) (w_3 : Addr) (w_4 : Addr) (w_5 : Addr) (w_6 : Addr) (w_7 : Int32) (w_8 : Value) (o0 : Addr) (o1 : Addr) (q0 : Int64) (h0 : Heap) (n0 : Nat) (Z0 : n0 ≤ h0.size) (ST : own_St Z w_0 w_1 w_2 w_3 w_4 w_5 w_6 w_7 w_8) (O0 : Old Z n0 h0) (Fl : Fld Z h0 o0 cn_0 "length" "I" (.int 11)) (E1 : Exa Z h0 o1 cn_3) (Fa : Fld Z h0 o1 cn_3 "value" "J" (.long q0)) (hrg : -2147483648 ≤ q0.toInt ∧ q0.toInt ≤ 2147483647) :
    MetFree l y_30 (head1 (Jvm.Cond.code y_30 prog_2_method_5_code 5 (some (.object cn_2)) :: ws) rr_tx) (fun a U => a = #[(.ref o0), (.ref o1)] ∧ Z.Warmed39 U.vm ∧ U.heap = h0) (fun _ _ _ _ _ => True) (fun _ U o U' => ∃ v L, o = .returned v ∧ Q_tx Z w_0 w_1 w_2 w_3 w_4 w_5 w_6 w_7 w_8 o0 o1 q0 h0 n0 v U'.heap L ∧ FrameEnd U o U' L rr_tx.cells rr_tx.slots) := by
  refine MetFree.of_bodySF (plainFor_of_name pn_4) hisR ?_
  intro p e s m args below meth c s₁ Bd hml0 hP hK
  obtain ⟨rfl, hZ, hh⟩ := hP
  have hx := Bd.exec
  have hby := Bd.bytes
  have B := @hb _ _ hby
  have hml : c.maxLocals = 5 := hml0
  have hown : s.vm.findClass cn_0 = some m.cls := findClass_of_methodNamed Bd.named
  have X0 : Stand p l e rr_tx s m #[(.ref o0), (.ref o1)] below meth c s₁ [] 0 0 := Stand.of_body Bd
  have e0 : s₁.heap = h0 := by rw [← hh, Bd.state]; rfl
  have N0 := Fr.nil n0
  have K0 : Keep h0 h0 [] := Keep.refl _ _
  obtain ⟨G, step, ret, fin⟩ := own_openX X0 (rr_tx.cells) (rr_tx.slots) (Q_tx Z w_0 w_1 w_2 w_3 w_4 w_5 w_6 w_7 w_8 o0 o1 q0 h0 n0) Bd.notSynchronized
  refine fin (g := entryFrame m #[(.ref o0), (.ref o1)] 5) ?_
  rw [ef_tx m o0 o1]
  refine step (fun t k => XS.aloadN X0.here hx rfl (B d29_0) rfl rfl k) ?_
  obtain ⟨T1, X1, e1, st1⟩ := instY X0 hx hZ hown (ww56 hw) e0 (Ins.self E1) (g := (mkF m 1 #[vR o0, vR o1, u_, u_, u_] [(.ref o1)])) rfl rfl (B d29_1)
  refine step st1 ?_
  refine step (fun t k => XS.ifNo X1.here hx rfl (B d29_4) rfl ((if0 _ _).trans (feq (by decide : ¬ ((1 : Int32) = (0 : Int32)))).1) k) ?_
  refine step (fun t k => XS.aloadN X1.here hx rfl (B d29_7) rfl rfl k) ?_
  have hK2 := (backOf (R := rr_tx) (p := p) (e := e) (below := below) (s := s) (args := #[(.ref o0), (.ref o1)]) (len := 3) (W := 0) (rm_lt l Z a0 hw [] w_0 w_1 w_2 w_3 w_4 w_5 w_6 w_7 w_8 o1 q0 h0 n0 (own_old_le O0) ST O0 Fa hrg) hZ (ww83 hw) (ww33 hw) (by decide) (by decide))
  obtain ⟨cq2, kq2, q2a, q2b, q2c⟩ := isOf hZ e1 E1
  obtain ⟨_, _, ⟨T2, L2, k2, n2⟩, -, X2, ⟨Lc2, hQ2, l2, y2, z2⟩, st2⟩ := X1.virtualBack hx (y := y_29) (z := y_28) hown (mvT hZ (ww78 hw)) (mvT hZ (ww79 hw)) (nf_top (args := #[]) (mvT hZ (ww170 hw))) (mvT hZ (ww81 hw)) (mvT hZ (ww82 hw)) (by decide) hK2 q2a q2c (g := (mkF m 8 #[vR o0, vR o1, u_, u_, u_] [(.ref o1)])) rfl (by rw [hml]; rfl) (Steps.refl _) (argsL := []) (rest := []) (lenOf pd_19 rfl) rfl (by show 2 * 0 + _ ≤ _; exact Nat.le_of_eq rfl) (B d29_8) (fun _ _ => ⟨rfl, e1, (by decide : 0 + 2 ≤ _), (by decide : 0 + 15 ≤ _)⟩)
  dsimp only [Pt.U, Pt.locs, Pt.cells, Pt.slots] at X2 l2 y2 z2 st2 hQ2
  subst l2 y2 z2
  obtain ⟨b2, t_2, kk_2, n_2, vs_2, z_2, rfl, N2q, K2q, Y2_0, Y2_1, Y2_2, Y2_3, Y2_4⟩ := hQ2
  have N2 := Fr.app N0 N2q
  obtain ⟨lc2, X2, N2⟩ := own_gen X2 N2
  have O2 := O0.keep K2q all0
  have K2 : Keep h0 T2.heap [] := K0.trans K2q all0
  refine step (fun t k => st2.trans k) ?_
  refine step (fun t k => XS.goto X2.here hx rfl (pc0 := 11) (pc' := 18) rfl (B d29_11) (by decide) (by decide) k) ?_
  refine step (fun t k => XS.astoreN X2.here hx rfl (B d29_18) rfl rfl (l' := #[vR o0, vR o1, vR b2, u_, u_]) rfl k) ?_
  refine step (fun t k => XS.aloadN X2.here hx rfl (B d29_19) rfl rfl k) ?_
  refine step (fun t k => XS.iconst X2.here hx rfl (B d29_20) k) ?_
  refine step (fun t k => XS.aloadN X2.here hx rfl (B d29_21) rfl rfl k) ?_
  show G T2 (mkF m 22 #[vR o0, vR o1, vR b2, u_, u_] [(.ref b2), (.int 0), (.ref b2)])
  have hK3 := (backOf (R := rr_tx) (p := p) (e := e) (below := below) (s := s) (args := #[(.ref o0), (.ref o1)]) (len := 3) (W := 2) (rm_le l Z a0 hw [] w_0 w_1 w_2 w_3 w_4 w_5 w_6 w_7 w_8 b2 t_2 kk_2 n_2 vs_2 T2.heap n0 (own_old_le O2) ST O2 Y2_0 Y2_1 Y2_2 Y2_3) hZ (ww115 hw) (ww92 hw) (by decide) (by decide))
  obtain ⟨cq3, kq3, q3a, q3b, q3c⟩ := isOf hZ rfl Y2_0
  obtain ⟨_, _, ⟨T3, L3, k3, n3⟩, -, X3, ⟨Lc3, hQ3, l3, y3, z3⟩, st3⟩ := X2.virtualBack hx (y := y_17) (z := y_17) hown (mvT hZ (ww111 hw)) (mvT hZ (ww112 hw)) (notFace_of_selects (args := #[]) (mvT hZ (ww114 hw))) (mvT hZ (ww114 hw)) (mvT hZ (ww113 hw)) (by decide) hK3 q3a q3c (g := (mkF m 22 #[vR o0, vR o1, vR b2, u_, u_] [(.ref b2), (.int 0), (.ref b2)])) rfl (by rw [hml]; rfl) (Steps.refl _) (argsL := []) (rest := [(.int 0), (.ref b2)]) (lenOf pd_9 rfl) rfl (by show 2 * 0 + _ ≤ _; exact Nat.le_of_eq rfl) (B d29_22) (fun _ _ => ⟨rfl, rfl, (by decide : 2 + 0 ≤ _), (by decide : 15 + 0 ≤ _)⟩)
  dsimp only [Pt.U, Pt.locs, Pt.cells, Pt.slots] at X3 l3 y3 z3 st3 hQ3
  subst l3 y3 z3
  obtain ⟨rfl, N3q, e3⟩ := hQ3
  have N3 := Fr.app N2 N3q
  obtain ⟨lc3, X3, N3⟩ := own_gen X3 N3
  refine step (fun t k => st3.trans k) ?_
  have r4 : (f_le w_0 w_1 w_2 w_3 w_4 w_5 w_6 w_7 w_8 b2 t_2 kk_2 n_2 vs_2) = n_2 := rfl
  rw [r4]
  have hK5 := (backOf (R := rr_tx) (p := p) (e := e) (below := below) (s := s) (args := #[(.ref o0), (.ref o1)]) (len := 3) (W := 0) (rm_cp l Z a0 hw [] w_0 w_1 w_2 w_3 w_4 w_5 w_6 w_7 w_8 b2 n_2 t_2 kk_2 vs_2 z_2 T2.heap n0 (own_old_le O2) ST O2 Y2_0 Y2_1 Y2_2 Y2_3 Y2_4) hZ (ww126 hw) (ww92 hw) (by decide) (by decide))
  obtain ⟨cq5, kq5, q5a, q5b, q5c⟩ := isOf hZ e3 Y2_0
  obtain ⟨_, _, ⟨T5, L5, k5, n5⟩, -, X5, ⟨Lc5, hQ5, l5, y5, z5⟩, st5⟩ := X3.virtualBack hx (y := y_20) (z := y_20) hown (mvT hZ (ww122 hw)) (mvT hZ (ww123 hw)) (notFace_of_selects (args := #[]) (mvT hZ (ww125 hw))) (mvT hZ (ww125 hw)) (mvT hZ (ww124 hw)) (by decide) hK5 q5a q5c (g := (mkF m 25 #[vR o0, vR o1, vR b2, u_, u_] [(.int n_2), (.int 0), (.ref b2)])) rfl (by rw [hml]; rfl) (Steps.refl _) (argsL := [(.int 0), (.int n_2)]) (rest := []) (lenOf pd_20 rfl) rfl (by show 2 * 0 + _ ≤ _; exact Nat.le_of_eq rfl) (B d29_25) (fun _ _ => ⟨rfl, e3, (by decide : 2 + 0 ≤ _), (by decide : 15 + 0 ≤ _)⟩)
  dsimp only [Pt.U, Pt.locs, Pt.cells, Pt.slots] at X5 l5 y5 z5 st5 hQ5
  subst l5 y5 z5
  obtain ⟨rfl, N5q, e5⟩ := hQ5
  have N5 := Fr.app N3 N5q
  obtain ⟨lc5, X5, N5⟩ := own_gen X5 N5
  refine step (fun t k => st5.trans k) ?_
  have r6 : (f_cp w_0 w_1 w_2 w_3 w_4 w_5 w_6 w_7 w_8 b2 n_2 t_2 kk_2 vs_2 z_2) = (n_2 - (0 : Int32)) := rfl
  rw [r6]
  refine step (fun t k => XS.istoreN X5.here hx rfl (B d29_28) rfl (l' := #[vR o0, vR o1, vR b2, vI ((n_2 - (0 : Int32))), u_]) rfl k) ?_
  refine step (fun t k => XS.iloadN X5.here hx rfl (B d29_29) rfl k) ?_
  refine step (fun t k => XS.aloadN X5.here hx rfl (B d29_30) rfl rfl k) ?_
  have f8 := (Fld.keep Fl K2q nin0)
  obtain ⟨T7, X7, e7, st7⟩ := getF X5 hx hZ hown (host := "") (Or.inl (ww29 hw)) Via.refl e5 f8 (g := (mkF m 31 #[vR o0, vR o1, vR b2, vI ((n_2 - (0 : Int32))), u_] [(.ref o0), (.int (n_2 - (0 : Int32)))])) rfl rfl (B d29_31)
  refine step st7 ?_
  refine step (fun t k => XS.icmpNo X7.here hx rfl (B d29_34) rfl (flt (own_nb Y2_4).2.2.2.2).2.2.1 k) ?_
  refine step (fun t k => XS.aloadN X7.here hx rfl (B d29_37) rfl rfl k) ?_
  exact ret (v := some (.ref b2)) X7 (fun h => by rw [Bd.returns] at h; cases h) (fun fs hr => retA X7 hx Bd.returns rfl rfl (B d29_38) hr) e7 ⟨b2, t_2, kk_2, n_2, vs_2, z_2, rfl, N5, K2, Y2_0, Y2_1, Y2_2, Y2_3, Y2_4⟩ (by decide) (by decide)
abbrev y_31 : MethodName := ⟨cn_1, "ordinal", "()I"⟩
theorem d30_0 : decode qc30 0 = .ok (.aload_n 1, 1) := by decide +kernel
theorem d30_1 : decode qc30 1 = .ok (.ifnonnull 5, 3) := by decide +kernel
theorem d30_6 : decode qc30 6 = .ok (.aload_n 0, 1) := by decide +kernel
theorem d30_7 : decode qc30 7 = .ok (.getfield 7, 3) := by decide +kernel
theorem d30_10 : decode qc30 10 = .ok (.invokevirtual 17, 3) := by decide +kernel
theorem ww44 (hw : HW Z a0) : Cond.before (Cond.methodLink cn_0 17 ({ cls := cn_1, name := "ordinal", desc := "()I" } : MethodName)) a0 Z = true := own_w hw 44 rfl
theorem ww48 (hw : HW Z a0) : Cond.before (Cond.selects cn_1 ({ cls := cn_1, name := "ordinal", desc := "()I" } : MethodName) ({ cls := cn_7, name := "ordinal", desc := "()I" } : MethodName)) a0 Z = true := own_w hw 48 rfl
theorem ww50 (hw : HW Z a0) : Cond.before (Cond.code ({ cls := cn_7, name := "ordinal", desc := "()I" } : MethodName) jdk_37_method_2_code 1 (Option.some FieldType.int)) a0 Z = true := own_w hw 50 rfl
theorem ww49 (hw : HW Z a0) : Cond.before (Cond.initialized cn_7) a0 Z = true := own_w hw 49 rfl
theorem ww45 (hw : HW Z a0) : Cond.before (Cond.sameMethod cn_1 cn_7 "ordinal" "()I") a0 Z = true := own_w hw 45 rfl
theorem ww46 (hw : HW Z a0) : Cond.before (Cond.declares ({ cls := cn_7, name := "ordinal", desc := "()I" } : MethodName)) a0 Z = true := own_w hw 46 rfl
theorem ww47 (hw : HW Z a0) : Cond.before (Cond.instanceMethod ({ cls := cn_7, name := "ordinal", desc := "()I" } : MethodName)) a0 Z = true := own_w hw 47 rfl
theorem d30_13 : decode qc30 13 = .ok (.tableswitch 31 0 3 #[41, 51, 61, 72], 31) := by decide +kernel
theorem d30_54 : decode qc30 54 = .ok (.aload_n 1, 1) := by decide +kernel
theorem d30_55 : decode qc30 55 = .ok (.invokestatic 28, 3) := by decide +kernel
theorem ww53 (hw : HW Z a0) : Cond.before (Cond.methodLink cn_0 28 ({ cls := cn_0, name := "integer", desc := cn_24 } : MethodName)) a0 Z = true := own_w hw 53 rfl
theorem ww55 (hw : HW Z a0) : Cond.before (Cond.code ({ cls := cn_0, name := "integer", desc := cn_24 } : MethodName) prog_2_method_3_code 1 (Option.some FieldType.long)) a0 Z = true := own_w hw 55 rfl
theorem ww15 (hw : HW Z a0) : Cond.before (Cond.initialized cn_0) a0 Z = true := own_w hw 15 rfl
theorem pd_21 : parseMethodDescriptor cn_24 = some ⟨[(.object cn_8)], some .long⟩ := by decide +kernel
theorem ww54 (hw : HW Z a0) : Cond.before (Cond.static ({ cls := cn_0, name := "integer", desc := cn_24 } : MethodName)) a0 Z = true := own_w hw 54 rfl
theorem d30_58 : decode qc30 58 = .ok (.invokestatic 32, 3) := by decide +kernel
theorem ww65 (hw : HW Z a0) : Cond.before (Cond.methodLink cn_0 32 ({ cls := cn_0, name := "asInt", desc := cn_14 } : MethodName)) a0 Z = true := own_w hw 65 rfl
theorem ww67 (hw : HW Z a0) : Cond.before (Cond.code ({ cls := cn_0, name := "asInt", desc := cn_14 } : MethodName) prog_2_method_4_code 2 (Option.some (FieldType.object cn_3))) a0 Z = true := own_w hw 67 rfl
theorem ww66 (hw : HW Z a0) : Cond.before (Cond.static ({ cls := cn_0, name := "asInt", desc := cn_14 } : MethodName)) a0 Z = true := own_w hw 66 rfl
theorem d30_61 : decode qc30 61 = .ok (.goto 29, 3) := by decide +kernel
theorem d30_90 : decode qc30 90 = .ok (.areturn, 1) := by decide +kernel
abbrev rr_sto0 : Room := { frames := 5, cells := 1, slots := 1, locals := 66 }
abbrev y_32 : MethodName := ⟨cn_0, "store", cn_9⟩
theorem ef_sto0 (m : MethodId) (o0 : Addr) (o1 : Addr) : entryFrame m #[(.ref o0), (.ref o1)] 2 = mkF m 0 #[vR o0, vR o1] [] := by first | (simp [entryFrame, mkF, argsToLocals, Value.category]; done) | rfl
def Q_sto0 (Z : State) (w_0 : Addr) (w_1 : Addr) (w_2 : Addr) (w_3 : Addr) (w_4 : Addr) (w_5 : Addr) (w_6 : Addr) (w_7 : Int32) (w_8 : Value) (o0 : Addr) (o1 : Addr) (q0 : Int64) (h0 : Heap) (n0 : Nat) (v : Option Value) (h : Heap) (L : List Loc) : Prop := ∃ b : Addr, v = some (.ref b) ∧ Fr n0 L ∧ Keep h0 h [] ∧ Exa Z h b cn_3
theorem rm_sto0 (l : Launch) (Z : State) (a0 : Array Value) (hw : HW Z a0) (ws : List Jvm.Cond) (w_0 : Addr) (w_1 : Addr) (w_2 : Addr) (w_3 : Addr) (w_4 : Addr) (w_5 : Addr) (w_6 : Addr) (w_7 : Int32) (w_8 : Value) (o0 : Addr) (o1 : Addr) (q0 : Int64) (h0 : Heap) (n0 : Nat) (Z0 : n0 ≤ h0.size) (ST : own_St Z w_0 w_1 w_2 w_3 w_4 w_5 w_6 w_7 w_8) (O0 : Old Z n0 h0) (E0 : Exa Z h0 o0 cn_0) (Fk : Fld Z h0 o0 cn_0 "kind" cn_4 (.ref w_0)) (Fl : Fld Z h0 o0 cn_0 "length" "I" (.int 11)) (E1 : Exa Z h0 o1 cn_3) (Fa : Fld Z h0 o1 cn_3 "value" "J" (.long q0)) (hrg : -2147483648 ≤ q0.toInt ∧ q0.toInt ≤ 2147483647) (hrt : q0 = ((q0.toInt32).toInt64)) :
    MetFree l y_32 (head1 (Jvm.Cond.code y_32 prog_2_method_2_code 2 (some (.object cn_8)) :: ws) rr_sto0) (fun a U => a = #[(.ref o0), (.ref o1)] ∧ Z.Warmed39 U.vm ∧ U.heap = h0) (fun _ _ _ _ _ => True) (fun _ U o U' => ∃ v L, o = .returned v ∧ Q_sto0 Z w_0 w_1 w_2 w_3 w_4 w_5 w_6 w_7 w_8 o0 o1 q0 h0 n0 v U'.heap L ∧ FrameEnd U o U' L rr_sto0.cells rr_sto0.slots) := by
  refine MetFree.of_bodySF (plainFor_of_name pn_4) hisR ?_
  intro p e s m args below meth c s₁ Bd hml0 hP hK
  obtain ⟨rfl, hZ, hh⟩ := hP
  have hx := Bd.exec
  have hby := Bd.bytes
  have B := @hb _ _ hby
  have hml : c.maxLocals = 2 := hml0
  have hown : s.vm.findClass cn_0 = some m.cls := findClass_of_methodNamed Bd.named
  have X0 : Stand p l e rr_sto0 s m #[(.ref o0), (.ref o1)] below meth c s₁ [] 0 0 := Stand.of_body Bd
  have e0 : s₁.heap = h0 := by rw [← hh, Bd.state]; rfl
  have N0 := Fr.nil n0
  have K0 : Keep h0 h0 [] := Keep.refl _ _
  obtain ⟨G, step, ret, fin⟩ := own_openX X0 (rr_sto0.cells) (rr_sto0.slots) (Q_sto0 Z w_0 w_1 w_2 w_3 w_4 w_5 w_6 w_7 w_8 o0 o1 q0 h0 n0) Bd.notSynchronized
  refine fin (g := entryFrame m #[(.ref o0), (.ref o1)] 2) ?_
  rw [ef_sto0 m o0 o1]
  refine step (fun t k => XS.aloadN X0.here hx rfl (B d30_0) rfl rfl k) ?_
  refine step (fun t k => XS.ifnonnullYes X0.here hx rfl (pc0 := 1) (pc' := 6) rfl (B d30_1) rfl (by decide) (by decide) k) ?_
  refine step (fun t k => XS.aloadN X0.here hx rfl (B d30_6) rfl rfl k) ?_
  obtain ⟨T1, X1, e1, st1⟩ := getF X0 hx hZ hown (host := "") (Or.inl (ww27 hw)) Via.refl e0 Fk (g := (mkF m 7 #[vR o0, vR o1] [(.ref o0)])) rfl rfl (B d30_7)
  refine step st1 ?_
  have hK2 := (backOf (R := rr_sto0) (p := p) (e := e) (below := below) (s := s) (args := #[(.ref o0), (.ref o1)]) (len := 3) (W := 0) (rm_ord l Z a0 hw [] w_0 w_1 w_2 w_3 w_4 w_5 w_6 w_7 w_8 w_0 (0 : Int32) h0 n0 (own_old_le O0) ST O0 (Fld.ext O0.2 ST.k14)) hZ (ww50 hw) (ww49 hw) (by decide) (by decide))
  obtain ⟨cq2, kq2, q2a, q2b, q2c⟩ := isOf hZ e1 (Exa.ext O0.2 ST.k1)
  obtain ⟨_, _, ⟨T2, L2, k2, n2⟩, -, X2, ⟨Lc2, hQ2, l2, y2, z2⟩, st2⟩ := X1.virtualBackUp hx (x := y_31) (y := y_10) (owner := cn_7) hown (mvT hZ (ww44 hw)) (mvT hZ (ww45 hw)) (mvT hZ (ww46 hw)) (by decide) (mvT hZ (ww48 hw)) (mvT hZ (ww47 hw)) hK2 q2a q2c (g := (mkF m 10 #[vR o0, vR o1] [(.ref w_0)])) rfl (by rw [hml]; rfl) (Steps.refl _) (argsL := []) (rest := []) (lenOf pd_9 rfl) rfl (by show 2 * 0 + _ ≤ _; exact Nat.le_of_eq rfl) (B d30_10) (fun _ _ => ⟨rfl, e1, (by decide : 0 + 0 ≤ _), (by decide : 0 + 0 ≤ _)⟩)
  dsimp only [Pt.U, Pt.locs, Pt.cells, Pt.slots] at X2 l2 y2 z2 st2 hQ2
  subst l2 y2 z2
  obtain ⟨rfl, N2q, e2⟩ := hQ2
  have N2 := Fr.app N0 N2q
  obtain ⟨lc2, X2, N2⟩ := own_gen X2 N2
  refine step (fun t k => st2.trans k) ?_
  have r3 : (f_ord w_0 w_1 w_2 w_3 w_4 w_5 w_6 w_7 w_8 w_0 (0 : Int32)) = (0 : Int32) := rfl
  rw [r3]
  refine step (fun t k => XS.tswIn X2.here hx rfl (pc0 := 13) (pc' := 54) rfl (B d30_13) rfl (by decide) rfl (by decide) (by decide) k) ?_
  refine step (fun t k => XS.aloadN X2.here hx rfl (B d30_54) rfl rfl k) ?_
  have hK4 := (backOf (R := rr_sto0) (p := p) (e := e) (below := below) (s := s) (args := #[(.ref o0), (.ref o1)]) (len := 3) (W := 0) (rm_ig l Z a0 hw [] w_0 w_1 w_2 w_3 w_4 w_5 w_6 w_7 w_8 o1 q0 h0 n0 (own_old_le O0) ST O0 E1 Fa) hZ (ww55 hw) (ww15 hw) (by decide) (by decide))
  obtain ⟨_, _, ⟨T4, L4, k4, n4⟩, -, X4, ⟨Lc4, hQ4, l4, y4, z4⟩, st4⟩ := Jvm.LawKit.callS X2 hx (y := y_8) hown (mvT hZ (ww53 hw)) (mvT hZ (ww54 hw)) (mvT hZ (ww15 hw)) (mvT hZ (ww55 hw)) (by decide) hK4 (g := (mkF m 55 #[vR o0, vR o1] [(.ref o1)])) rfl (by rw [hml]; rfl) (argsL := [(.ref o1)]) (rest := []) (lenOf pd_21 rfl) rfl (by show 2 * 0 + _ ≤ _; exact Nat.le_of_eq rfl) (B d30_55) (fun _ _ => ⟨rfl, e2, (by decide : 0 + 0 ≤ _), (by decide : 0 + 0 ≤ _)⟩)
  dsimp only [Pt.U, Pt.locs, Pt.cells, Pt.slots] at X4 l4 y4 z4 st4 hQ4
  subst l4 y4 z4
  obtain ⟨rfl, N4q, e4⟩ := hQ4
  have N4 := Fr.app N2 N4q
  obtain ⟨lc4, X4, N4⟩ := own_gen X4 N4
  refine step (fun t k => st4 t k) ?_
  have r5 : (f_ig w_0 w_1 w_2 w_3 w_4 w_5 w_6 w_7 w_8 o1 q0) = q0 := rfl
  rw [r5]
  have hK6 := (backOf (R := rr_sto0) (p := p) (e := e) (below := below) (s := s) (args := #[(.ref o0), (.ref o1)]) (len := 3) (W := 0) (rm_ai l Z a0 hw [] w_0 w_1 w_2 w_3 w_4 w_5 w_6 w_7 w_8 q0 h0 n0 (own_old_le O0) ST O0 (hrt : q0 = ((q0.toInt32).toInt64))) hZ (ww67 hw) (ww15 hw) (by decide) (by decide))
  obtain ⟨_, _, ⟨T6, L6, k6, n6⟩, -, X6, ⟨Lc6, hQ6, l6, y6, z6⟩, st6⟩ := Jvm.LawKit.callS X4 hx (y := y_9) hown (mvT hZ (ww65 hw)) (mvT hZ (ww66 hw)) (mvT hZ (ww15 hw)) (mvT hZ (ww67 hw)) (by decide) hK6 (g := (mkF m 58 #[vR o0, vR o1] [(.long q0)])) rfl (by rw [hml]; rfl) (argsL := [(.long q0)]) (rest := []) (lenOf pd_3 rfl) rfl (by show 2 * 0 + _ ≤ _; exact Nat.le_of_eq rfl) (B d30_58) (fun _ _ => ⟨rfl, e4, (by decide : 0 + 1 ≤ _), (by decide : 0 + 1 ≤ _)⟩)
  dsimp only [Pt.U, Pt.locs, Pt.cells, Pt.slots] at X6 l6 y6 z6 st6 hQ6
  subst l6 y6 z6
  obtain ⟨b6, rfl, N6q, K6q, Y6_0, Y6_1⟩ := hQ6
  have N6 := Fr.app N4 N6q
  obtain ⟨lc6, X6, N6⟩ := own_gen X6 N6
  have K6 : Keep h0 T6.heap [] := K0.trans K6q all0
  refine step (fun t k => st6 t k) ?_
  refine step (fun t k => XS.goto X6.here hx rfl (pc0 := 61) (pc' := 90) rfl (B d30_61) (by decide) (by decide) k) ?_
  exact ret (v := some (.ref b6)) X6 (fun h => by rw [Bd.returns] at h; cases h) (fun fs hr => retA X6 hx Bd.returns rfl rfl (B d30_90) hr) rfl ⟨b6, rfl, N6, K6, Y6_0⟩ (by decide) (by decide)
theorem d30_64 : decode qc30 64 = .ok (.aload_n 1, 1) := by decide +kernel
theorem d30_65 : decode qc30 65 = .ok (.invokestatic 28, 3) := by decide +kernel
theorem d30_68 : decode qc30 68 = .ok (.invokestatic 36, 3) := by decide +kernel
theorem d30_71 : decode qc30 71 = .ok (.goto 19, 3) := by decide +kernel
abbrev rr_sto1 : Room := { frames := 4, cells := 1, slots := 1, locals := 53 }
theorem ef_sto1 (m : MethodId) (o0 : Addr) (o1 : Addr) : entryFrame m #[(.ref o0), (.ref o1)] 2 = mkF m 0 #[vR o0, vR o1] [] := by first | (simp [entryFrame, mkF, argsToLocals, Value.category]; done) | rfl
def Q_sto1 (Z : State) (w_0 : Addr) (w_1 : Addr) (w_2 : Addr) (w_3 : Addr) (w_4 : Addr) (w_5 : Addr) (w_6 : Addr) (w_7 : Int32) (w_8 : Value) (o0 : Addr) (o1 : Addr) (q0 : Int64) (h0 : Heap) (n0 : Nat) (v : Option Value) (h : Heap) (L : List Loc) : Prop := ∃ b : Addr, v = some (.ref b) ∧ Fr n0 L ∧ Keep h0 h [] ∧ Exa Z h b cn_3
theorem rm_sto1 (l : Launch) (Z : State) (a0 : Array Value) (hw : HW Z a0) (ws : List Jvm.Cond) (w_0 : Addr) (w_1 : Addr) (w_2 : Addr) (w_3 : Addr) (w_4 : Addr) (w_5 : Addr) (w_6 : Addr) (w_7 : Int32) (w_8 : Value) (o0 : Addr) (o1 : Addr) (q0 : Int64) (h0 : Heap) (n0 : Nat) (Z0 : n0 ≤ h0.size) (ST : own_St Z w_0 w_1 w_2 w_3 w_4 w_5 w_6 w_7 w_8) (O0 : Old Z n0 h0) (E0 : Exa Z h0 o0 cn_0) (Fk : Fld Z h0 o0 cn_0 "kind" cn_4 (.ref w_2)) (Fl : Fld Z h0 o0 cn_0 "length" "I" (.int 11)) (E1 : Exa Z h0 o1 cn_3) (Fa : Fld Z h0 o1 cn_3 "value" "J" (.long q0)) (hrg : -2147483648 ≤ q0.toInt ∧ q0.toInt ≤ 2147483647) (hrt : q0 = ((q0.toInt32).toInt64)) :
    MetFree l y_32 (head1 (Jvm.Cond.code y_32 prog_2_method_2_code 2 (some (.object cn_8)) :: ws) rr_sto1) (fun a U => a = #[(.ref o0), (.ref o1)] ∧ Z.Warmed39 U.vm ∧ U.heap = h0) (fun _ _ _ _ _ => True) (fun _ U o U' => ∃ v L, o = .returned v ∧ Q_sto1 Z w_0 w_1 w_2 w_3 w_4 w_5 w_6 w_7 w_8 o0 o1 q0 h0 n0 v U'.heap L ∧ FrameEnd U o U' L rr_sto1.cells rr_sto1.slots) := by
  refine MetFree.of_bodySF (plainFor_of_name pn_4) hisR ?_
  intro p e s m args below meth c s₁ Bd hml0 hP hK
  obtain ⟨rfl, hZ, hh⟩ := hP
  have hx := Bd.exec
  have hby := Bd.bytes
  have B := @hb _ _ hby
  have hml : c.maxLocals = 2 := hml0
  have hown : s.vm.findClass cn_0 = some m.cls := findClass_of_methodNamed Bd.named
  have X0 : Stand p l e rr_sto1 s m #[(.ref o0), (.ref o1)] below meth c s₁ [] 0 0 := Stand.of_body Bd
  have e0 : s₁.heap = h0 := by rw [← hh, Bd.state]; rfl
  have N0 := Fr.nil n0
  have K0 : Keep h0 h0 [] := Keep.refl _ _
  obtain ⟨G, step, ret, fin⟩ := own_openX X0 (rr_sto1.cells) (rr_sto1.slots) (Q_sto1 Z w_0 w_1 w_2 w_3 w_4 w_5 w_6 w_7 w_8 o0 o1 q0 h0 n0) Bd.notSynchronized
  refine fin (g := entryFrame m #[(.ref o0), (.ref o1)] 2) ?_
  rw [ef_sto1 m o0 o1]
  refine step (fun t k => XS.aloadN X0.here hx rfl (B d30_0) rfl rfl k) ?_
  refine step (fun t k => XS.ifnonnullYes X0.here hx rfl (pc0 := 1) (pc' := 6) rfl (B d30_1) rfl (by decide) (by decide) k) ?_
  refine step (fun t k => XS.aloadN X0.here hx rfl (B d30_6) rfl rfl k) ?_
  obtain ⟨T1, X1, e1, st1⟩ := getF X0 hx hZ hown (host := "") (Or.inl (ww27 hw)) Via.refl e0 Fk (g := (mkF m 7 #[vR o0, vR o1] [(.ref o0)])) rfl rfl (B d30_7)
  refine step st1 ?_
  have hK2 := (backOf (R := rr_sto1) (p := p) (e := e) (below := below) (s := s) (args := #[(.ref o0), (.ref o1)]) (len := 3) (W := 0) (rm_ord l Z a0 hw [] w_0 w_1 w_2 w_3 w_4 w_5 w_6 w_7 w_8 w_2 (1 : Int32) h0 n0 (own_old_le O0) ST O0 (Fld.ext O0.2 ST.k16)) hZ (ww50 hw) (ww49 hw) (by decide) (by decide))
  obtain ⟨cq2, kq2, q2a, q2b, q2c⟩ := isOf hZ e1 (Exa.ext O0.2 ST.k5)
  obtain ⟨_, _, ⟨T2, L2, k2, n2⟩, -, X2, ⟨Lc2, hQ2, l2, y2, z2⟩, st2⟩ := X1.virtualBackUp hx (x := y_31) (y := y_10) (owner := cn_7) hown (mvT hZ (ww44 hw)) (mvT hZ (ww45 hw)) (mvT hZ (ww46 hw)) (by decide) (mvT hZ (ww48 hw)) (mvT hZ (ww47 hw)) hK2 q2a q2c (g := (mkF m 10 #[vR o0, vR o1] [(.ref w_2)])) rfl (by rw [hml]; rfl) (Steps.refl _) (argsL := []) (rest := []) (lenOf pd_9 rfl) rfl (by show 2 * 0 + _ ≤ _; exact Nat.le_of_eq rfl) (B d30_10) (fun _ _ => ⟨rfl, e1, (by decide : 0 + 0 ≤ _), (by decide : 0 + 0 ≤ _)⟩)
  dsimp only [Pt.U, Pt.locs, Pt.cells, Pt.slots] at X2 l2 y2 z2 st2 hQ2
  subst l2 y2 z2
  obtain ⟨rfl, N2q, e2⟩ := hQ2
  have N2 := Fr.app N0 N2q
  obtain ⟨lc2, X2, N2⟩ := own_gen X2 N2
  refine step (fun t k => st2.trans k) ?_
  have r3 : (f_ord w_0 w_1 w_2 w_3 w_4 w_5 w_6 w_7 w_8 w_2 (1 : Int32)) = (1 : Int32) := rfl
  rw [r3]
  refine step (fun t k => XS.tswIn X2.here hx rfl (pc0 := 13) (pc' := 64) rfl (B d30_13) rfl (by decide) rfl (by decide) (by decide) k) ?_
  refine step (fun t k => XS.aloadN X2.here hx rfl (B d30_64) rfl rfl k) ?_
  have hK4 := (backOf (R := rr_sto1) (p := p) (e := e) (below := below) (s := s) (args := #[(.ref o0), (.ref o1)]) (len := 3) (W := 0) (rm_ig l Z a0 hw [] w_0 w_1 w_2 w_3 w_4 w_5 w_6 w_7 w_8 o1 q0 h0 n0 (own_old_le O0) ST O0 E1 Fa) hZ (ww55 hw) (ww15 hw) (by decide) (by decide))
  obtain ⟨_, _, ⟨T4, L4, k4, n4⟩, -, X4, ⟨Lc4, hQ4, l4, y4, z4⟩, st4⟩ := Jvm.LawKit.callS X2 hx (y := y_8) hown (mvT hZ (ww53 hw)) (mvT hZ (ww54 hw)) (mvT hZ (ww15 hw)) (mvT hZ (ww55 hw)) (by decide) hK4 (g := (mkF m 65 #[vR o0, vR o1] [(.ref o1)])) rfl (by rw [hml]; rfl) (argsL := [(.ref o1)]) (rest := []) (lenOf pd_21 rfl) rfl (by show 2 * 0 + _ ≤ _; exact Nat.le_of_eq rfl) (B d30_65) (fun _ _ => ⟨rfl, e2, (by decide : 0 + 0 ≤ _), (by decide : 0 + 0 ≤ _)⟩)
  dsimp only [Pt.U, Pt.locs, Pt.cells, Pt.slots] at X4 l4 y4 z4 st4 hQ4
  subst l4 y4 z4
  obtain ⟨rfl, N4q, e4⟩ := hQ4
  have N4 := Fr.app N2 N4q
  obtain ⟨lc4, X4, N4⟩ := own_gen X4 N4
  refine step (fun t k => st4 t k) ?_
  have r5 : (f_ig w_0 w_1 w_2 w_3 w_4 w_5 w_6 w_7 w_8 o1 q0) = q0 := rfl
  rw [r5]
  have hK6 := (backOf (R := rr_sto1) (p := p) (e := e) (below := below) (s := s) (args := #[(.ref o0), (.ref o1)]) (len := 3) (W := 0) (rm_vo l Z a0 hw [] w_0 w_1 w_2 w_3 w_4 w_5 w_6 w_7 w_8 q0 h0 n0 (own_old_le O0) ST O0) hZ (ww34 hw) (ww33 hw) (by decide) (by decide))
  obtain ⟨_, _, ⟨T6, L6, k6, n6⟩, -, X6, ⟨Lc6, hQ6, l6, y6, z6⟩, st6⟩ := Jvm.LawKit.callS X4 hx (y := y_6) hown (mvT hZ (ww68 hw)) (mvT hZ (ww32 hw)) (mvT hZ (ww33 hw)) (mvT hZ (ww34 hw)) (by decide) hK6 (g := (mkF m 68 #[vR o0, vR o1] [(.long q0)])) rfl (by rw [hml]; rfl) (argsL := [(.long q0)]) (rest := []) (lenOf pd_3 rfl) rfl (by show 2 * 0 + _ ≤ _; exact Nat.le_of_eq rfl) (B d30_68) (fun _ _ => ⟨rfl, e4, (by decide : 0 + 1 ≤ _), (by decide : 0 + 1 ≤ _)⟩)
  dsimp only [Pt.U, Pt.locs, Pt.cells, Pt.slots] at X6 l6 y6 z6 st6 hQ6
  subst l6 y6 z6
  obtain ⟨b6, rfl, N6q, K6q, Y6_0, Y6_1⟩ := hQ6
  have N6 := Fr.app N4 N6q
  obtain ⟨lc6, X6, N6⟩ := own_gen X6 N6
  have K6 : Keep h0 T6.heap [] := K0.trans K6q all0
  refine step (fun t k => st6 t k) ?_
  refine step (fun t k => XS.goto X6.here hx rfl (pc0 := 71) (pc' := 90) rfl (B d30_71) (by decide) (by decide) k) ?_
  exact ret (v := some (.ref b6)) X6 (fun h => by rw [Bd.returns] at h; cases h) (fun fs hr => retA X6 hx Bd.returns rfl rfl (B d30_90) hr) rfl ⟨b6, rfl, N6, K6, Y6_0⟩ (by decide) (by decide)
theorem d30_74 : decode qc30 74 = .ok (.aload_n 0, 1) := by decide +kernel
theorem d30_75 : decode qc30 75 = .ok (.aload_n 1, 1) := by decide +kernel
theorem d30_76 : decode qc30 76 = .ok (.invokevirtual 41, 3) := by decide +kernel
theorem ww74 (hw : HW Z a0) : Cond.before (Cond.methodLink cn_0 41 ({ cls := cn_0, name := "text", desc := cn_12 } : MethodName)) a0 Z = true := own_w hw 74 rfl
theorem ww77 (hw : HW Z a0) : Cond.before (Cond.code ({ cls := cn_0, name := "text", desc := cn_12 } : MethodName) prog_2_method_5_code 5 (Option.some (FieldType.object cn_2))) a0 Z = true := own_w hw 77 rfl
theorem pd_22 : parseMethodDescriptor cn_12 = some ⟨[(.object cn_8)], some (.object cn_2)⟩ := by decide +kernel
theorem ww75 (hw : HW Z a0) : Cond.before (Cond.instanceMethod ({ cls := cn_0, name := "text", desc := cn_12 } : MethodName)) a0 Z = true := own_w hw 75 rfl
theorem ww76 (hw : HW Z a0) : Cond.before (Cond.privateMethod ({ cls := cn_0, name := "text", desc := cn_12 } : MethodName)) a0 Z = true := own_w hw 76 rfl
theorem d30_79 : decode qc30 79 = .ok (.invokestatic 45, 3) := by decide +kernel
theorem ww141 (hw : HW Z a0) : Cond.before (Cond.methodLink cn_0 45 ({ cls := cn_0, name := "stripTrailingSpaces", desc := cn_15 } : MethodName)) a0 Z = true := own_w hw 141 rfl
theorem ww143 (hw : HW Z a0) : Cond.before (Cond.code ({ cls := cn_0, name := "stripTrailingSpaces", desc := cn_15 } : MethodName) prog_2_method_6_code 2 (Option.some (FieldType.object cn_2))) a0 Z = true := own_w hw 143 rfl
theorem pd_23 : parseMethodDescriptor cn_15 = some ⟨[(.object cn_2)], some (.object cn_2)⟩ := by decide +kernel
theorem ww142 (hw : HW Z a0) : Cond.before (Cond.static ({ cls := cn_0, name := "stripTrailingSpaces", desc := cn_15 } : MethodName)) a0 Z = true := own_w hw 142 rfl
theorem d30_82 : decode qc30 82 = .ok (.goto 8, 3) := by decide +kernel
abbrev rr_sto2 : Room := { frames := 5, cells := 2, slots := 15, locals := 70 }
theorem ef_sto2 (m : MethodId) (o0 : Addr) (o1 : Addr) : entryFrame m #[(.ref o0), (.ref o1)] 2 = mkF m 0 #[vR o0, vR o1] [] := by first | (simp [entryFrame, mkF, argsToLocals, Value.category]; done) | rfl
def Q_sto2 (Z : State) (w_0 : Addr) (w_1 : Addr) (w_2 : Addr) (w_3 : Addr) (w_4 : Addr) (w_5 : Addr) (w_6 : Addr) (w_7 : Int32) (w_8 : Value) (o0 : Addr) (o1 : Addr) (q0 : Int64) (h0 : Heap) (n0 : Nat) (v : Option Value) (h : Heap) (L : List Loc) : Prop := ∃ b : Addr, v = some (.ref b) ∧ Fr n0 L ∧ Keep h0 h [] ∧ Exa Z h b cn_2
theorem rm_sto2 (l : Launch) (Z : State) (a0 : Array Value) (hw : HW Z a0) (ws : List Jvm.Cond) (w_0 : Addr) (w_1 : Addr) (w_2 : Addr) (w_3 : Addr) (w_4 : Addr) (w_5 : Addr) (w_6 : Addr) (w_7 : Int32) (w_8 : Value) (o0 : Addr) (o1 : Addr) (q0 : Int64) (h0 : Heap) (n0 : Nat) (Z0 : n0 ≤ h0.size) (ST : own_St Z w_0 w_1 w_2 w_3 w_4 w_5 w_6 w_7 w_8) (O0 : Old Z n0 h0) (E0 : Exa Z h0 o0 cn_0) (Fk : Fld Z h0 o0 cn_0 "kind" cn_4 (.ref w_1)) (Fl : Fld Z h0 o0 cn_0 "length" "I" (.int 11)) (E1 : Exa Z h0 o1 cn_3) (Fa : Fld Z h0 o1 cn_3 "value" "J" (.long q0)) (hrg : -2147483648 ≤ q0.toInt ∧ q0.toInt ≤ 2147483647) (hrt : q0 = ((q0.toInt32).toInt64)) :
    MetFree l y_32 (head1 (Jvm.Cond.code y_32 prog_2_method_2_code 2 (some (.object cn_8)) :: ws) rr_sto2) (fun a U => a = #[(.ref o0), (.ref o1)] ∧ Z.Warmed39 U.vm ∧ U.heap = h0) (fun _ _ _ _ _ => True) (fun _ U o U' => ∃ v L, o = .returned v ∧ Q_sto2 Z w_0 w_1 w_2 w_3 w_4 w_5 w_6 w_7 w_8 o0 o1 q0 h0 n0 v U'.heap L ∧ FrameEnd U o U' L rr_sto2.cells rr_sto2.slots) := by
  refine MetFree.of_bodySF (plainFor_of_name pn_4) hisR ?_
  intro p e s m args below meth c s₁ Bd hml0 hP hK
  obtain ⟨rfl, hZ, hh⟩ := hP
  have hx := Bd.exec
  have hby := Bd.bytes
  have B := @hb _ _ hby
  have hml : c.maxLocals = 2 := hml0
  have hown : s.vm.findClass cn_0 = some m.cls := findClass_of_methodNamed Bd.named
  have X0 : Stand p l e rr_sto2 s m #[(.ref o0), (.ref o1)] below meth c s₁ [] 0 0 := Stand.of_body Bd
  have e0 : s₁.heap = h0 := by rw [← hh, Bd.state]; rfl
  have N0 := Fr.nil n0
  have K0 : Keep h0 h0 [] := Keep.refl _ _
  obtain ⟨G, step, ret, fin⟩ := own_openX X0 (rr_sto2.cells) (rr_sto2.slots) (Q_sto2 Z w_0 w_1 w_2 w_3 w_4 w_5 w_6 w_7 w_8 o0 o1 q0 h0 n0) Bd.notSynchronized
  refine fin (g := entryFrame m #[(.ref o0), (.ref o1)] 2) ?_
  rw [ef_sto2 m o0 o1]
  refine step (fun t k => XS.aloadN X0.here hx rfl (B d30_0) rfl rfl k) ?_
  refine step (fun t k => XS.ifnonnullYes X0.here hx rfl (pc0 := 1) (pc' := 6) rfl (B d30_1) rfl (by decide) (by decide) k) ?_
  refine step (fun t k => XS.aloadN X0.here hx rfl (B d30_6) rfl rfl k) ?_
  obtain ⟨T1, X1, e1, st1⟩ := getF X0 hx hZ hown (host := "") (Or.inl (ww27 hw)) Via.refl e0 Fk (g := (mkF m 7 #[vR o0, vR o1] [(.ref o0)])) rfl rfl (B d30_7)
  refine step st1 ?_
  have hK2 := (backOf (R := rr_sto2) (p := p) (e := e) (below := below) (s := s) (args := #[(.ref o0), (.ref o1)]) (len := 3) (W := 0) (rm_ord l Z a0 hw [] w_0 w_1 w_2 w_3 w_4 w_5 w_6 w_7 w_8 w_1 (2 : Int32) h0 n0 (own_old_le O0) ST O0 (Fld.ext O0.2 ST.k15)) hZ (ww50 hw) (ww49 hw) (by decide) (by decide))
  obtain ⟨cq2, kq2, q2a, q2b, q2c⟩ := isOf hZ e1 (Exa.ext O0.2 ST.k3)
  obtain ⟨_, _, ⟨T2, L2, k2, n2⟩, -, X2, ⟨Lc2, hQ2, l2, y2, z2⟩, st2⟩ := X1.virtualBackUp hx (x := y_31) (y := y_10) (owner := cn_7) hown (mvT hZ (ww44 hw)) (mvT hZ (ww45 hw)) (mvT hZ (ww46 hw)) (by decide) (mvT hZ (ww48 hw)) (mvT hZ (ww47 hw)) hK2 q2a q2c (g := (mkF m 10 #[vR o0, vR o1] [(.ref w_1)])) rfl (by rw [hml]; rfl) (Steps.refl _) (argsL := []) (rest := []) (lenOf pd_9 rfl) rfl (by show 2 * 0 + _ ≤ _; exact Nat.le_of_eq rfl) (B d30_10) (fun _ _ => ⟨rfl, e1, (by decide : 0 + 0 ≤ _), (by decide : 0 + 0 ≤ _)⟩)
  dsimp only [Pt.U, Pt.locs, Pt.cells, Pt.slots] at X2 l2 y2 z2 st2 hQ2
  subst l2 y2 z2
  obtain ⟨rfl, N2q, e2⟩ := hQ2
  have N2 := Fr.app N0 N2q
  obtain ⟨lc2, X2, N2⟩ := own_gen X2 N2
  refine step (fun t k => st2.trans k) ?_
  have r3 : (f_ord w_0 w_1 w_2 w_3 w_4 w_5 w_6 w_7 w_8 w_1 (2 : Int32)) = (2 : Int32) := rfl
  rw [r3]
  refine step (fun t k => XS.tswIn X2.here hx rfl (pc0 := 13) (pc' := 74) rfl (B d30_13) rfl (by decide) rfl (by decide) (by decide) k) ?_
  refine step (fun t k => XS.aloadN X2.here hx rfl (B d30_74) rfl rfl k) ?_
  refine step (fun t k => XS.aloadN X2.here hx rfl (B d30_75) rfl rfl k) ?_
  have hK4 := (backOf (R := rr_sto2) (p := p) (e := e) (below := below) (s := s) (args := #[(.ref o0), (.ref o1)]) (len := 3) (W := 0) (rm_tx l Z a0 hw [] w_0 w_1 w_2 w_3 w_4 w_5 w_6 w_7 w_8 o0 o1 q0 h0 n0 (own_old_le O0) ST O0 Fl E1 Fa hrg) hZ (ww77 hw) (ww15 hw) (by decide) (by decide))
  obtain ⟨cq4, q4, q4'⟩ := (E0).cell
  obtain ⟨_, _, ⟨T4, L4, k4, n4⟩, -, X4, ⟨Lc4, hQ4, l4, y4, z4⟩, st4⟩ := X2.privateBack hx (y := y_30) hown (mvT hZ (ww74 hw)) (mvT hZ (ww75 hw)) (own_selpriv hZ (ww76 hw) (ww75 hw) (ww14 hw) (by decide)) (Cond.privateMethod_at (mvP hZ (ww76 hw) (args := #[]))) (mvT hZ (ww77 hw)) (by decide) hK4 (g := (mkF m 76 #[vR o0, vR o1] [(.ref o1), (.ref o0)])) rfl (by rw [hml]; rfl) (Steps.refl _) (a := o0) (by rw [e2]; exact q4) q4' (argsL := [(.ref o1)]) (rest := []) (lenOf pd_22 rfl) rfl (by show 2 * 0 + _ ≤ _; exact Nat.le_of_eq rfl) (B d30_76) (fun _ _ => ⟨rfl, e2, (by decide : 0 + 2 ≤ _), (by decide : 0 + 15 ≤ _)⟩)
  dsimp only [Pt.U, Pt.locs, Pt.cells, Pt.slots] at X4 l4 y4 z4 st4 hQ4
  subst l4 y4 z4
  obtain ⟨b4, t_4, kk_4, n_4, vs_4, z_4, rfl, N4q, K4q, Y4_0, Y4_1, Y4_2, Y4_3, Y4_4⟩ := hQ4
  have N4 := Fr.app N2 N4q
  obtain ⟨lc4, X4, N4⟩ := own_gen X4 N4
  have O4 := O0.keep K4q all0
  have K4 : Keep h0 T4.heap [] := K0.trans K4q all0
  refine step (fun t k => st4.trans k) ?_
  have hK5 := (backOf (R := rr_sto2) (p := p) (e := e) (below := below) (s := s) (args := #[(.ref o0), (.ref o1)]) (len := 3) (W := 0) (rm_st l Z a0 hw [] w_0 w_1 w_2 w_3 w_4 w_5 w_6 w_7 w_8 b4 t_4 kk_4 n_4 vs_4 z_4 T4.heap n0 (own_old_le O4) ST O4 Y4_0 Y4_1 Y4_2 Y4_3 Y4_4) hZ (ww143 hw) (ww15 hw) (by decide) (by decide))
  obtain ⟨_, _, ⟨T5, L5, k5, n5⟩, -, X5, ⟨Lc5, hQ5, l5, y5, z5⟩, st5⟩ := Jvm.LawKit.callS X4 hx (y := y_27) hown (mvT hZ (ww141 hw)) (mvT hZ (ww142 hw)) (mvT hZ (ww15 hw)) (mvT hZ (ww143 hw)) (by decide) hK5 (g := (mkF m 79 #[vR o0, vR o1] [(.ref b4)])) rfl (by rw [hml]; rfl) (argsL := [(.ref b4)]) (rest := []) (lenOf pd_23 rfl) rfl (by show 2 * 0 + _ ≤ _; exact Nat.le_of_eq rfl) (B d30_79) (fun _ _ => ⟨rfl, rfl, (by decide : 2 + 0 ≤ _), (by decide : 15 + 0 ≤ _)⟩)
  dsimp only [Pt.U, Pt.locs, Pt.cells, Pt.slots] at X5 l5 y5 z5 st5 hQ5
  subst l5 y5 z5
  obtain ⟨rfl, N5q, e5⟩ := hQ5
  have N5 := Fr.app N4 N5q
  obtain ⟨lc5, X5, N5⟩ := own_gen X5 N5
  refine step (fun t k => st5 t k) ?_
  have r6 : (f_st w_0 w_1 w_2 w_3 w_4 w_5 w_6 w_7 w_8 b4 t_4 kk_4 n_4 vs_4 z_4) = b4 := rfl
  rw [r6]
  refine step (fun t k => XS.goto X5.here hx rfl (pc0 := 82) (pc' := 90) rfl (B d30_82) (by decide) (by decide) k) ?_
  exact ret (v := some (.ref b4)) X5 (fun h => by rw [Bd.returns] at h; cases h) (fun fs hr => retA X5 hx Bd.returns rfl rfl (B d30_90) hr) e5 ⟨b4, rfl, N5, K4, Y4_0⟩ (by decide) (by decide)
theorem d30_85 : decode qc30 85 = .ok (.aload_n 0, 1) := by decide +kernel
theorem d30_86 : decode qc30 86 = .ok (.aload_n 1, 1) := by decide +kernel
theorem d30_87 : decode qc30 87 = .ok (.invokevirtual 41, 3) := by decide +kernel
abbrev rr_sto3 : Room := { frames := 5, cells := 2, slots := 15, locals := 70 }
theorem ef_sto3 (m : MethodId) (o0 : Addr) (o1 : Addr) : entryFrame m #[(.ref o0), (.ref o1)] 2 = mkF m 0 #[vR o0, vR o1] [] := by first | (simp [entryFrame, mkF, argsToLocals, Value.category]; done) | rfl
def Q_sto3 (Z : State) (w_0 : Addr) (w_1 : Addr) (w_2 : Addr) (w_3 : Addr) (w_4 : Addr) (w_5 : Addr) (w_6 : Addr) (w_7 : Int32) (w_8 : Value) (o0 : Addr) (o1 : Addr) (q0 : Int64) (h0 : Heap) (n0 : Nat) (v : Option Value) (h : Heap) (L : List Loc) : Prop := ∃ b : Addr, v = some (.ref b) ∧ Fr n0 L ∧ Keep h0 h [] ∧ Exa Z h b cn_2
theorem rm_sto3 (l : Launch) (Z : State) (a0 : Array Value) (hw : HW Z a0) (ws : List Jvm.Cond) (w_0 : Addr) (w_1 : Addr) (w_2 : Addr) (w_3 : Addr) (w_4 : Addr) (w_5 : Addr) (w_6 : Addr) (w_7 : Int32) (w_8 : Value) (o0 : Addr) (o1 : Addr) (q0 : Int64) (h0 : Heap) (n0 : Nat) (Z0 : n0 ≤ h0.size) (ST : own_St Z w_0 w_1 w_2 w_3 w_4 w_5 w_6 w_7 w_8) (O0 : Old Z n0 h0) (E0 : Exa Z h0 o0 cn_0) (Fk : Fld Z h0 o0 cn_0 "kind" cn_4 (.ref w_3)) (Fl : Fld Z h0 o0 cn_0 "length" "I" (.int 11)) (E1 : Exa Z h0 o1 cn_3) (Fa : Fld Z h0 o1 cn_3 "value" "J" (.long q0)) (hrg : -2147483648 ≤ q0.toInt ∧ q0.toInt ≤ 2147483647) (hrt : q0 = ((q0.toInt32).toInt64)) :
    MetFree l y_32 (head1 (Jvm.Cond.code y_32 prog_2_method_2_code 2 (some (.object cn_8)) :: ws) rr_sto3) (fun a U => a = #[(.ref o0), (.ref o1)] ∧ Z.Warmed39 U.vm ∧ U.heap = h0) (fun _ _ _ _ _ => True) (fun _ U o U' => ∃ v L, o = .returned v ∧ Q_sto3 Z w_0 w_1 w_2 w_3 w_4 w_5 w_6 w_7 w_8 o0 o1 q0 h0 n0 v U'.heap L ∧ FrameEnd U o U' L rr_sto3.cells rr_sto3.slots) := by
  refine MetFree.of_bodySF (plainFor_of_name pn_4) hisR ?_
  intro p e s m args below meth c s₁ Bd hml0 hP hK
  obtain ⟨rfl, hZ, hh⟩ := hP
  have hx := Bd.exec
  have hby := Bd.bytes
  have B := @hb _ _ hby
  have hml : c.maxLocals = 2 := hml0
  have hown : s.vm.findClass cn_0 = some m.cls := findClass_of_methodNamed Bd.named
  have X0 : Stand p l e rr_sto3 s m #[(.ref o0), (.ref o1)] below meth c s₁ [] 0 0 := Stand.of_body Bd
  have e0 : s₁.heap = h0 := by rw [← hh, Bd.state]; rfl
  have N0 := Fr.nil n0
  have K0 : Keep h0 h0 [] := Keep.refl _ _
  obtain ⟨G, step, ret, fin⟩ := own_openX X0 (rr_sto3.cells) (rr_sto3.slots) (Q_sto3 Z w_0 w_1 w_2 w_3 w_4 w_5 w_6 w_7 w_8 o0 o1 q0 h0 n0) Bd.notSynchronized
  refine fin (g := entryFrame m #[(.ref o0), (.ref o1)] 2) ?_
  rw [ef_sto3 m o0 o1]
  refine step (fun t k => XS.aloadN X0.here hx rfl (B d30_0) rfl rfl k) ?_
  refine step (fun t k => XS.ifnonnullYes X0.here hx rfl (pc0 := 1) (pc' := 6) rfl (B d30_1) rfl (by decide) (by decide) k) ?_
  refine step (fun t k => XS.aloadN X0.here hx rfl (B d30_6) rfl rfl k) ?_
  obtain ⟨T1, X1, e1, st1⟩ := getF X0 hx hZ hown (host := "") (Or.inl (ww27 hw)) Via.refl e0 Fk (g := (mkF m 7 #[vR o0, vR o1] [(.ref o0)])) rfl rfl (B d30_7)
  refine step st1 ?_
  have hK2 := (backOf (R := rr_sto3) (p := p) (e := e) (below := below) (s := s) (args := #[(.ref o0), (.ref o1)]) (len := 3) (W := 0) (rm_ord l Z a0 hw [] w_0 w_1 w_2 w_3 w_4 w_5 w_6 w_7 w_8 w_3 (3 : Int32) h0 n0 (own_old_le O0) ST O0 (Fld.ext O0.2 ST.k17)) hZ (ww50 hw) (ww49 hw) (by decide) (by decide))
  obtain ⟨cq2, kq2, q2a, q2b, q2c⟩ := isOf hZ e1 (Exa.ext O0.2 ST.k7)
  obtain ⟨_, _, ⟨T2, L2, k2, n2⟩, -, X2, ⟨Lc2, hQ2, l2, y2, z2⟩, st2⟩ := X1.virtualBackUp hx (x := y_31) (y := y_10) (owner := cn_7) hown (mvT hZ (ww44 hw)) (mvT hZ (ww45 hw)) (mvT hZ (ww46 hw)) (by decide) (mvT hZ (ww48 hw)) (mvT hZ (ww47 hw)) hK2 q2a q2c (g := (mkF m 10 #[vR o0, vR o1] [(.ref w_3)])) rfl (by rw [hml]; rfl) (Steps.refl _) (argsL := []) (rest := []) (lenOf pd_9 rfl) rfl (by show 2 * 0 + _ ≤ _; exact Nat.le_of_eq rfl) (B d30_10) (fun _ _ => ⟨rfl, e1, (by decide : 0 + 0 ≤ _), (by decide : 0 + 0 ≤ _)⟩)
  dsimp only [Pt.U, Pt.locs, Pt.cells, Pt.slots] at X2 l2 y2 z2 st2 hQ2
  subst l2 y2 z2
  obtain ⟨rfl, N2q, e2⟩ := hQ2
  have N2 := Fr.app N0 N2q
  obtain ⟨lc2, X2, N2⟩ := own_gen X2 N2
  refine step (fun t k => st2.trans k) ?_
  have r3 : (f_ord w_0 w_1 w_2 w_3 w_4 w_5 w_6 w_7 w_8 w_3 (3 : Int32)) = (3 : Int32) := rfl
  rw [r3]
  refine step (fun t k => XS.tswIn X2.here hx rfl (pc0 := 13) (pc' := 85) rfl (B d30_13) rfl (by decide) rfl (by decide) (by decide) k) ?_
  refine step (fun t k => XS.aloadN X2.here hx rfl (B d30_85) rfl rfl k) ?_
  refine step (fun t k => XS.aloadN X2.here hx rfl (B d30_86) rfl rfl k) ?_
  have hK4 := (backOf (R := rr_sto3) (p := p) (e := e) (below := below) (s := s) (args := #[(.ref o0), (.ref o1)]) (len := 3) (W := 0) (rm_tx l Z a0 hw [] w_0 w_1 w_2 w_3 w_4 w_5 w_6 w_7 w_8 o0 o1 q0 h0 n0 (own_old_le O0) ST O0 Fl E1 Fa hrg) hZ (ww77 hw) (ww15 hw) (by decide) (by decide))
  obtain ⟨cq4, q4, q4'⟩ := (E0).cell
  obtain ⟨_, _, ⟨T4, L4, k4, n4⟩, -, X4, ⟨Lc4, hQ4, l4, y4, z4⟩, st4⟩ := X2.privateBack hx (y := y_30) hown (mvT hZ (ww74 hw)) (mvT hZ (ww75 hw)) (own_selpriv hZ (ww76 hw) (ww75 hw) (ww14 hw) (by decide)) (Cond.privateMethod_at (mvP hZ (ww76 hw) (args := #[]))) (mvT hZ (ww77 hw)) (by decide) hK4 (g := (mkF m 87 #[vR o0, vR o1] [(.ref o1), (.ref o0)])) rfl (by rw [hml]; rfl) (Steps.refl _) (a := o0) (by rw [e2]; exact q4) q4' (argsL := [(.ref o1)]) (rest := []) (lenOf pd_22 rfl) rfl (by show 2 * 0 + _ ≤ _; exact Nat.le_of_eq rfl) (B d30_87) (fun _ _ => ⟨rfl, e2, (by decide : 0 + 2 ≤ _), (by decide : 0 + 15 ≤ _)⟩)
  dsimp only [Pt.U, Pt.locs, Pt.cells, Pt.slots] at X4 l4 y4 z4 st4 hQ4
  subst l4 y4 z4
  obtain ⟨b4, t_4, kk_4, n_4, vs_4, z_4, rfl, N4q, K4q, Y4_0, Y4_1, Y4_2, Y4_3, Y4_4⟩ := hQ4
  have N4 := Fr.app N2 N4q
  obtain ⟨lc4, X4, N4⟩ := own_gen X4 N4
  have K4 : Keep h0 T4.heap [] := K0.trans K4q all0
  refine step (fun t k => st4.trans k) ?_
  exact ret (v := some (.ref b4)) X4 (fun h => by rw [Bd.returns] at h; cases h) (fun fs hr => retA X4 hx Bd.returns rfl rfl (B d30_90) hr) rfl ⟨b4, rfl, N4, K4, Y4_0⟩ (by decide) (by decide)
theorem ww0 (hw : HW Z a0) : Cond.before (Cond.methodLink cn_5 22 ({ cls := cn_5, name := "pick", desc := cn_11 } : MethodName)) a0 Z = true := own_w hw 0 rfl
theorem ww3 (hw : HW Z a0) : Cond.before (Cond.code ({ cls := cn_5, name := "pick", desc := cn_11 } : MethodName) method_2_code 1 (Option.some (FieldType.object cn_1))) a0 Z = true := own_w hw 3 rfl
theorem ww2 (hw : HW Z a0) : Cond.before (Cond.initialized cn_5) a0 Z = true := own_w hw 2 rfl
theorem pd_24 : parseMethodDescriptor cn_11 = some ⟨[.int], some (.object cn_1)⟩ := by decide +kernel
theorem ww1 (hw : HW Z a0) : Cond.before (Cond.static ({ cls := cn_5, name := "pick", desc := cn_11 } : MethodName)) a0 Z = true := own_w hw 1 rfl
theorem ww7 (hw : HW Z a0) : Cond.before (Cond.methodLink cn_5 28 ({ cls := cn_1, name := "integer", desc := "()Z" } : MethodName)) a0 Z = true := own_w hw 7 rfl
theorem ww10 (hw : HW Z a0) : Cond.before (Cond.selects cn_1 ({ cls := cn_1, name := "integer", desc := "()Z" } : MethodName) ({ cls := cn_1, name := "integer", desc := "()Z" } : MethodName)) a0 Z = true := own_w hw 10 rfl
theorem ww11 (hw : HW Z a0) : Cond.before (Cond.code ({ cls := cn_1, name := "integer", desc := "()Z" } : MethodName) prog_3_method_4_code 1 (Option.some FieldType.boolean)) a0 Z = true := own_w hw 11 rfl
theorem ww8 (hw : HW Z a0) : Cond.before (Cond.declares ({ cls := cn_1, name := "integer", desc := "()Z" } : MethodName)) a0 Z = true := own_w hw 8 rfl
theorem ww9 (hw : HW Z a0) : Cond.before (Cond.instanceMethod ({ cls := cn_1, name := "integer", desc := "()Z" } : MethodName)) a0 Z = true := own_w hw 9 rfl
theorem ww13 (hw : HW Z a0) : Cond.before (Cond.classLink cn_5 32 cn_0) a0 Z = true := own_w hw 13 rfl
theorem ww16 (hw : HW Z a0) : Cond.before (Cond.methodLink cn_5 34 ({ cls := cn_0, name := "<init>", desc := cn_10 } : MethodName)) a0 Z = true := own_w hw 16 rfl
theorem ww18 (hw : HW Z a0) : Cond.before (Cond.code ({ cls := cn_0, name := "<init>", desc := cn_10 } : MethodName) prog_2_method_1_code 3 (Option.none : Option Jvm.ClassFile.FieldType)) a0 Z = true := own_w hw 18 rfl
theorem pd_25 : parseMethodDescriptor cn_10 = some ⟨[(.object cn_1), .int], none⟩ := by decide +kernel
theorem ww17 (hw : HW Z a0) : Cond.before (Cond.instanceMethod ({ cls := cn_0, name := "<init>", desc := cn_10 } : MethodName)) a0 Z = true := own_w hw 17 rfl
theorem ww31 (hw : HW Z a0) : Cond.before (Cond.methodLink cn_5 37 ({ cls := cn_3, name := "valueOf", desc := cn_14 } : MethodName)) a0 Z = true := own_w hw 31 rfl
theorem ww39 (hw : HW Z a0) : Cond.before (Cond.methodLink cn_5 43 ({ cls := cn_0, name := "store", desc := cn_9 } : MethodName)) a0 Z = true := own_w hw 39 rfl
theorem ww42 (hw : HW Z a0) : Cond.before (Cond.selects cn_0 ({ cls := cn_0, name := "store", desc := cn_9 } : MethodName) ({ cls := cn_0, name := "store", desc := cn_9 } : MethodName)) a0 Z = true := own_w hw 42 rfl
theorem ww43 (hw : HW Z a0) : Cond.before (Cond.code ({ cls := cn_0, name := "store", desc := cn_9 } : MethodName) prog_2_method_2_code 2 (Option.some (FieldType.object cn_8))) a0 Z = true := own_w hw 43 rfl
theorem pd_26 : parseMethodDescriptor cn_9 = some ⟨[(.object cn_8)], some (.object cn_8)⟩ := by decide +kernel
theorem ww40 (hw : HW Z a0) : Cond.before (Cond.declares ({ cls := cn_0, name := "store", desc := cn_9 } : MethodName)) a0 Z = true := own_w hw 40 rfl
theorem ww41 (hw : HW Z a0) : Cond.before (Cond.instanceMethod ({ cls := cn_0, name := "store", desc := cn_9 } : MethodName)) a0 Z = true := own_w hw 41 rfl
theorem ww69 (hw : HW Z a0) : Cond.before (Cond.classLink cn_5 38 cn_3) a0 Z = true := own_w hw 69 rfl
theorem ww169 (hw : HW Z a0) : Cond.before (Cond.superclass cn_2 cn_8) a0 Z = true := own_w hw 169 rfl
abbrev y_33 : MethodName := ⟨cn_5, "law", "(II)Z"⟩
theorem ef_law (m : MethodId) (p0 : Int32) (p1 : Int32) : entryFrame m #[(.int p0), (.int p1)] maxLocals = mkF m 0 #[vI p0, vI p1, u_, u_, u_, u_, u_, u_] [] := by first | (simp [entryFrame, mkF, argsToLocals, Value.category, maxLocals]; done) | rfl
def Q_law (Z : State) (w_0 : Addr) (w_1 : Addr) (w_2 : Addr) (w_3 : Addr) (w_4 : Addr) (w_5 : Addr) (w_6 : Addr) (w_7 : Int32) (w_8 : Value) (p0 : Int32) (p1 : Int32) (h0 : Heap) (n0 : Nat) (v : Option Value) (h : Heap) (L : List Loc) : Prop := v = some (.int 1) ∧ Fr n0 L
theorem rm_law (l : Launch) (Z : State) (a0 : Array Value) (hw : HW Z a0) (ws : List Jvm.Cond) (w_0 : Addr) (w_1 : Addr) (w_2 : Addr) (w_3 : Addr) (w_4 : Addr) (w_5 : Addr) (w_6 : Addr) (w_7 : Int32) (w_8 : Value) (p0 : Int32) (p1 : Int32) (h0 : Heap) (n0 : Nat) (Z0 : n0 ≤ h0.size) (ST : own_St Z w_0 w_1 w_2 w_3 w_4 w_5 w_6 w_7 w_8) (O0 : Old Z n0 h0) :
    MetFree l x (head1 (Jvm.Cond.code x code maxLocals ret :: ws) room_1) (fun a U => a = #[(.int p0), (.int p1)] ∧ Z.Warmed39 U.vm ∧ U.heap = h0) (fun _ _ _ _ _ => True) (fun _ U o U' => ∃ v L, o = .returned v ∧ Q_law Z w_0 w_1 w_2 w_3 w_4 w_5 w_6 w_7 w_8 p0 p1 h0 n0 v U'.heap L ∧ FrameEnd U o U' L 4 18) := by
  refine MetFree.of_bodySF (plainFor_of_name pn_0) hisR ?_
  intro p e s m args below meth c s₁ Bd hml0 hP hK
  obtain ⟨rfl, hZ, hh⟩ := hP
  have hx := Bd.exec
  have hby := Bd.bytes
  have B := @hb _ _ hby
  have hml : c.maxLocals = 8 := hml0
  have hown : s.vm.findClass cn_5 = some m.cls := findClass_of_methodNamed Bd.named
  have X0 : Stand p l e room_1 s m #[(.int p0), (.int p1)] below meth c s₁ [] 0 0 := Stand.of_body Bd
  have e0 : s₁.heap = h0 := by rw [← hh, Bd.state]; rfl
  have N0 := Fr.nil n0
  obtain ⟨G, step, ret, fin⟩ := own_openX X0 (4) (18) (Q_law Z w_0 w_1 w_2 w_3 w_4 w_5 w_6 w_7 w_8 p0 p1 h0 n0) Bd.notSynchronized
  refine fin (g := entryFrame m #[(.int p0), (.int p1)] maxLocals) ?_
  rw [ef_law m p0 p1]
  obtain ⟨ls0, hls0⟩ := own_sl #[vI p0, vI p1, u_, u_, u_, u_, u_, u_]
  suffices hG0 : G s₁ (mkF m 0 ls0 []) by rw [hls0] at hG0; exact hG0
  refine step (fun t k => XS.iloadN X0.here hx rfl (B at_0) (by rw [hls0]; rfl) k) ?_
  refine step (fun t k => XS.iconst X0.here hx rfl (B at_1) k) ?_
  refine step (fun t k => XS.iand X0.here hx rfl (B at_2) rfl k) ?_
  rcases own_and3 p0 with hk | hk | hk | hk
  · show G s₁ (mkF m 3 ls0 [(.int (p0 &&& (3 : Int32)))]); rw [hk]
    obtain ⟨ls1, hls1⟩ := own_sl #[vI p0, vI p1, vI 0, u_, u_, u_, u_, u_]
    refine step (fun t k => XS.istoreN X0.here hx rfl (B at_3) rfl (l' := ls1) (by rw [hls0, hls1]; rfl) k) ?_
    refine step (fun t k => XS.iloadN X0.here hx rfl (B at_4) (by rw [hls1]; rfl) k) ?_
    have hK2 := (backOf (R := room_1) (p := p) (e := e) (below := below) (s := s) (args := #[(.int p0), (.int p1)]) (len := 3) (W := 0) (rm_pick l Z a0 hw [] w_0 w_1 w_2 w_3 w_4 w_5 w_6 w_7 w_8 (0 : Int32) h0 n0 (own_old_le O0) ST O0) hZ (ww3 hw) (ww2 hw) (by decide) (by decide))
    obtain ⟨_, _, ⟨T2, L2, k2, n2⟩, -, X2, ⟨Lc2, hQ2, l2, y2, z2⟩, st2⟩ := Jvm.LawKit.callS X0 hx (y := y_0) hown (mvT hZ (ww0 hw)) (mvT hZ (ww1 hw)) (mvT hZ (ww2 hw)) (mvT hZ (ww3 hw)) (by decide) hK2 (g := (mkF m 5 ls1 [(.int 0)])) rfl (by rw [hml, hls1]; rfl) (argsL := [(.int 0)]) (rest := []) (lenOf pd_24 rfl) rfl (by show 2 * 0 + _ ≤ _; exact Nat.le_of_eq rfl) (B at_5) (fun _ _ => ⟨rfl, e0, (by decide : 0 + 0 ≤ _), (by decide : 0 + 0 ≤ _)⟩)
    dsimp only [Pt.U, Pt.locs, Pt.cells, Pt.slots] at X2 l2 y2 z2 st2 hQ2
    subst l2 y2 z2
    obtain ⟨rfl, N2q, e2⟩ := hQ2
    have N2 := Fr.app N0 N2q
    obtain ⟨lc2, X2, N2⟩ := own_gen X2 N2
    refine step (fun t k => st2 t k) ?_
    have r3 : (f_pick w_0 w_1 w_2 w_3 w_4 w_5 w_6 w_7 w_8 (0 : Int32)) = w_0 := by
      unfold f_pick
      rw [if_pos (by decide : (0 : Int32) = (0 : Int32))]
    rw [r3]
    obtain ⟨ls4, hls4⟩ := own_sl #[vI p0, vI p1, vI 0, vR w_0, u_, u_, u_, u_]
    refine step (fun t k => XS.astoreN X2.here hx rfl (B at_8) rfl rfl (l' := ls4) (by rw [hls1, hls4]; rfl) k) ?_
    refine step (fun t k => XS.iloadN X2.here hx rfl (B at_9) (by rw [hls4]; rfl) k) ?_
    refine step (fun t k => XS.iconst X2.here hx rfl (B at_10) k) ?_
    refine step (fun t k => XS.icmpNo X2.here hx rfl (B at_11) rfl (tlt (by decide : (0 : Int32) < (2 : Int32))).2.1 k) ?_
    refine step (fun t k => XS.iconst X2.here hx rfl (B at_14) k) ?_
    show G T2 (mkF m 15 ls4 [(.int 1)])
    refine step (fun t k => XS.goto X2.here hx rfl (pc0 := 15) (pc' := 19) rfl (B at_15) (by decide) (by decide) k) ?_
    obtain ⟨ls5, hls5⟩ := own_sl #[vI p0, vI p1, vI 0, vR w_0, vI 1, u_, u_, u_]
    refine step (fun t k => XS.istore X2.here hx rfl (B at_19) rfl (l' := ls5) (by rw [hls4, hls5]; rfl) k) ?_
    refine step (fun t k => XS.aloadN X2.here hx rfl (B at_21) (by rw [hls5]; rfl) rfl k) ?_
    have hK6 := (backOf (R := room_1) (p := p) (e := e) (below := below) (s := s) (args := #[(.int p0), (.int p1)]) (len := 3) (W := 0) (rm_int l Z a0 hw [] w_0 w_1 w_2 w_3 w_4 w_5 w_6 w_7 w_8 w_0 h0 n0 (own_old_le O0) ST O0) hZ (ww11 hw) (ww5 hw) (by decide) (by decide))
    obtain ⟨cq6, kq6, q6a, q6b, q6c⟩ := isOf hZ e2 (Exa.ext O0.2 ST.k1)
    obtain ⟨_, _, ⟨T6, L6, k6, n6⟩, -, X6, ⟨Lc6, hQ6, l6, y6, z6⟩, st6⟩ := X2.virtualBack hx (y := y_1) (z := y_1) hown (mvT hZ (ww7 hw)) (mvT hZ (ww8 hw)) (notFace_of_selects (args := #[]) (mvT hZ (ww10 hw))) (mvT hZ (ww10 hw)) (mvT hZ (ww9 hw)) (by decide) hK6 q6a q6c (g := (mkF m 22 ls5 [(.ref w_0)])) rfl (by rw [hml, hls5]; rfl) (Steps.refl _) (argsL := []) (rest := []) (lenOf pd_11 rfl) rfl (by show 2 * 0 + _ ≤ _; exact Nat.le_of_eq rfl) (B at_22) (fun _ _ => ⟨rfl, e2, (by decide : 0 + 0 ≤ _), (by decide : 0 + 0 ≤ _)⟩)
    dsimp only [Pt.U, Pt.locs, Pt.cells, Pt.slots] at X6 l6 y6 z6 st6 hQ6
    subst l6 y6 z6
    obtain ⟨rfl, N6q, e6⟩ := hQ6
    have N6 := Fr.app N2 N6q
    obtain ⟨lc6, X6, N6⟩ := own_gen X6 N6
    refine step (fun t k => st6.trans k) ?_
    have r7 : (f_int w_0 w_1 w_2 w_3 w_4 w_5 w_6 w_7 w_8 w_0) = (1 : Int32) := by
      unfold f_int
      rw [if_pos (rfl : w_0 = w_0)]
    rw [r7]
    obtain ⟨ls8, hls8⟩ := own_sl #[vI p0, vI p1, vI 0, vR w_0, vI 1, vI 1, u_, u_]
    refine step (fun t k => XS.istore X6.here hx rfl (B at_25) rfl (l' := ls8) (by rw [hls5, hls8]; rfl) k) ?_
    obtain ⟨T9, h9, X9, e9, E9, A9, D9, -, st9⟩ := newO X6 hx hZ hown (ww13 hw) (ww14 hw) (ww15 hw) e6 (g := (mkF m 27 ls8 [])) rfl (B at_27) (by decide) (by decide)
    obtain ⟨b9, g9⟩ : ∃ z, z = h0.size := ⟨_, rfl⟩
    rw [← g9] at A9 D9 st9
    have ge_b9 : n0 ≤ b9 := Nat.le_trans (own_old_le O0) (Nat.le_of_eq g9.symm)
    have O9 := O0.ext E9
    have F9_kind : Fld Z h9 b9 cn_0 "kind" cn_4 .null := D9 (Or.inr (ww28 hw)) (ty := (.object cn_1)) (by decide)
    have F9_length : Fld Z h9 b9 cn_0 "length" "I" (.int 0) := D9 (Or.inr (ww30 hw)) (ty := .int) (by decide)
    refine step st9 ?_
    refine step (fun t k => XS.dup X9.here hx rfl (B at_30) rfl rfl k) ?_
    refine step (fun t k => XS.aloadN X9.here hx rfl (B at_31) (by rw [hls8]; rfl) rfl k) ?_
    refine step (fun t k => XS.bipush X9.here hx rfl (B at_32) k) ?_
    show G T9 (mkF m 34 ls8 [(.int 11), (.ref w_0), (.ref b9), (.ref b9)])
    have hK10 := (backOf (R := room_1) (p := p) (e := e) (below := below) (s := s) (args := #[(.int p0), (.int p1)]) (len := 3) (W := 1) (rm_ct l Z a0 hw [] w_0 w_1 w_2 w_3 w_4 w_5 w_6 w_7 w_8 b9 w_0 (11 : Int32) h9 n0 (own_old_le O9) ST O9 A9 ge_b9 F9_kind F9_length) hZ (ww18 hw) (ww15 hw) (by decide) (by decide))
    obtain ⟨_, _, ⟨T10, L10, k10, n10⟩, -, X10, ⟨Lc10, hQ10, l10, y10, z10⟩, st10⟩ := X9.specialBack hx (y := y_4) rfl hown (mvT hZ (ww16 hw)) (mvT hZ (ww17 hw)) (mvT hZ (ww18 hw)) (by decide) hK10 (g := (mkF m 34 ls8 [(.int 11), (.ref w_0), (.ref b9), (.ref b9)])) rfl (by rw [hml, hls8]; rfl) (Steps.refl _) (a := b9) (argsL := [(.ref w_0), (.int 11)]) (rest := [(.ref b9)]) (lenOf pd_25 rfl) rfl (by show 2 * 0 + _ ≤ _; exact Nat.le_of_eq rfl) (B at_34) (fun _ _ => ⟨rfl, e9, (by decide : 1 + 0 ≤ _), (by decide : 2 + 0 ≤ _)⟩)
    dsimp only [Pt.U, Pt.locs, Pt.cells, Pt.slots] at X10 l10 y10 z10 st10 hQ10
    subst l10 y10 z10
    obtain ⟨rfl, N10q, K10q, Y10_0, Y10_1, Y10_2⟩ := hQ10
    have N10 := Fr.app N6 N10q
    obtain ⟨lc10, X10, N10⟩ := own_gen X10 N10
    have O10 := O9.keep K10q (allS ge_b9 all0)
    refine step (fun t k => st10.trans k) ?_
    refine step (fun t k => XS.iloadN X10.here hx rfl (B at_37) (by rw [hls8]; rfl) k) ?_
    refine step (fun t k => XS.i2l X10.here hx rfl (B at_38) rfl k) ?_
    have hK11 := (backOf (R := room_1) (p := p) (e := e) (below := below) (s := s) (args := #[(.int p0), (.int p1)]) (len := 3) (W := 1) (rm_vo l Z a0 hw [] w_0 w_1 w_2 w_3 w_4 w_5 w_6 w_7 w_8 (p1.toInt64) T10.heap n0 (own_old_le O10) ST O10) hZ (ww34 hw) (ww33 hw) (by decide) (by decide))
    obtain ⟨_, _, ⟨T11, L11, k11, n11⟩, -, X11, ⟨Lc11, hQ11, l11, y11, z11⟩, st11⟩ := Jvm.LawKit.callS X10 hx (y := y_6) hown (mvT hZ (ww31 hw)) (mvT hZ (ww32 hw)) (mvT hZ (ww33 hw)) (mvT hZ (ww34 hw)) (by decide) hK11 (g := (mkF m 39 ls8 [(.long (p1.toInt64)), (.ref b9)])) rfl (by rw [hml, hls8]; rfl) (argsL := [(.long (p1.toInt64))]) (rest := [(.ref b9)]) (lenOf pd_3 rfl) rfl (by show 2 * 0 + _ ≤ _; exact Nat.le_of_eq rfl) (B at_39) (fun _ _ => ⟨rfl, rfl, (by decide : 1 + 1 ≤ _), (by decide : 2 + 1 ≤ _)⟩)
    dsimp only [Pt.U, Pt.locs, Pt.cells, Pt.slots] at X11 l11 y11 z11 st11 hQ11
    subst l11 y11 z11
    obtain ⟨b11, rfl, N11q, K11q, Y11_0, Y11_1⟩ := hQ11
    have N11 := Fr.app N10 N11q
    obtain ⟨lc11, X11, N11⟩ := own_gen X11 N11
    have O11 := O10.keep K11q all0
    refine step (fun t k => st11 t k) ?_
    have f13 := (Exa.keep Y10_0 K11q)
    have f14 := (Fld.keep Y10_1 K11q nin0)
    have f15 := (Fld.keep Y10_2 K11q nin0)
    have hK12 := (backOf (R := room_1) (p := p) (e := e) (below := below) (s := s) (args := #[(.int p0), (.int p1)]) (len := 3) (W := 0) (rm_sto0 l Z a0 hw [] w_0 w_1 w_2 w_3 w_4 w_5 w_6 w_7 w_8 b9 b11 (p1.toInt64) T11.heap n0 (own_old_le O11) ST O11 f13 f14 f15 Y11_0 Y11_1 (own_rg p1) ((own_rt p1) : (p1.toInt64) = (((p1.toInt64).toInt32).toInt64))) hZ (ww43 hw) (ww15 hw) (by decide) (by decide))
    obtain ⟨cq12, kq12, q12a, q12b, q12c⟩ := isOf hZ rfl f13
    obtain ⟨_, _, ⟨T12, L12, k12, n12⟩, -, X12, ⟨Lc12, hQ12, l12, y12, z12⟩, st12⟩ := X11.virtualBack hx (y := y_32) (z := y_32) hown (mvT hZ (ww39 hw)) (mvT hZ (ww40 hw)) (notFace_of_selects (args := #[]) (mvT hZ (ww42 hw))) (mvT hZ (ww42 hw)) (mvT hZ (ww41 hw)) (by decide) hK12 q12a q12c (g := (mkF m 42 ls8 [(.ref b11), (.ref b9)])) rfl (by rw [hml, hls8]; rfl) (Steps.refl _) (argsL := [(.ref b11)]) (rest := []) (lenOf pd_26 rfl) rfl (by show 2 * 0 + _ ≤ _; exact Nat.le_of_eq rfl) (B at_42) (fun _ _ => ⟨rfl, rfl, (by decide : 2 + 1 ≤ _), (by decide : 3 + 1 ≤ _)⟩)
    dsimp only [Pt.U, Pt.locs, Pt.cells, Pt.slots] at X12 l12 y12 z12 st12 hQ12
    subst l12 y12 z12
    obtain ⟨b12, rfl, N12q, K12q, Y12_0⟩ := hQ12
    have N12 := Fr.app N11 N12q
    obtain ⟨lc12, X12, N12⟩ := own_gen X12 N12
    refine step (fun t k => st12.trans k) ?_
    obtain ⟨ls16, hls16⟩ := own_sl #[vI p0, vI p1, vI 0, vR w_0, vI 1, vI 1, vR b12, u_]
    refine step (fun t k => XS.astore X12.here hx rfl (B at_45) rfl rfl (l' := ls16) (by rw [hls8, hls16]; rfl) k) ?_
    refine step (fun t k => XS.aload X12.here hx rfl (B at_47) (by rw [hls16]; rfl) rfl k) ?_
    obtain ⟨T17, X17, e17, st17⟩ := instY X12 hx hZ hown (ww69 hw) rfl (Ins.self Y12_0) (g := (mkF m 49 ls16 [(.ref b12)])) rfl rfl (B at_49)
    refine step st17 ?_
    obtain ⟨ls18, hls18⟩ := own_sl #[vI p0, vI p1, vI 0, vR w_0, vI 1, vI 1, vR b12, vI 1]
    refine step (fun t k => XS.istore X17.here hx rfl (B at_52) rfl (l' := ls18) (by rw [hls16, hls18]; rfl) k) ?_
    refine step (fun t k => XS.iload X17.here hx rfl (B at_54) (by rw [hls18]; rfl) k) ?_
    refine step (fun t k => XS.iload X17.here hx rfl (B at_56) (by rw [hls18]; rfl) k) ?_
    refine step (fun t k => XS.icmpNo X17.here hx rfl (B at_58) rfl (teq (by decide : (1 : Int32) = (1 : Int32))).2 k) ?_
    refine step (fun t k => XS.iload X17.here hx rfl (B at_61) (by rw [hls18]; rfl) k) ?_
    show G T17 (mkF m 63 ls18 [(.int 1)])
    refine step (fun t k => XS.iload X17.here hx rfl (B at_63) (by rw [hls18]; rfl) k) ?_
    refine step (fun t k => XS.icmpNo X17.here hx rfl (B at_65) rfl (teq (by decide : (1 : Int32) = (1 : Int32))).2 k) ?_
    refine step (fun t k => XS.iconst X17.here hx rfl (B at_68) k) ?_
    refine step (fun t k => XS.goto X17.here hx rfl (pc0 := 69) (pc' := 73) rfl (B at_69) (by decide) (by decide) k) ?_
    exact ret (v := some (.int 1)) X17 (fun h => by rw [Bd.returns] at h; cases h) (fun fs hr => retN X17 hx (t := .boolean) Bd.returns (by simp) (B at_73) hr) e17 ⟨rfl, N12⟩ (by decide) (by decide)
  · show G s₁ (mkF m 3 ls0 [(.int (p0 &&& (3 : Int32)))]); rw [hk]
    obtain ⟨ls19, hls19⟩ := own_sl #[vI p0, vI p1, vI 1, u_, u_, u_, u_, u_]
    refine step (fun t k => XS.istoreN X0.here hx rfl (B at_3) rfl (l' := ls19) (by rw [hls0, hls19]; rfl) k) ?_
    refine step (fun t k => XS.iloadN X0.here hx rfl (B at_4) (by rw [hls19]; rfl) k) ?_
    show G s₁ (mkF m 5 ls19 [(.int 1)])
    have hK20 := (backOf (R := room_1) (p := p) (e := e) (below := below) (s := s) (args := #[(.int p0), (.int p1)]) (len := 3) (W := 0) (rm_pick l Z a0 hw [] w_0 w_1 w_2 w_3 w_4 w_5 w_6 w_7 w_8 (1 : Int32) h0 n0 (own_old_le O0) ST O0) hZ (ww3 hw) (ww2 hw) (by decide) (by decide))
    obtain ⟨_, _, ⟨T20, L20, k20, n20⟩, -, X20, ⟨Lc20, hQ20, l20, y20, z20⟩, st20⟩ := Jvm.LawKit.callS X0 hx (y := y_0) hown (mvT hZ (ww0 hw)) (mvT hZ (ww1 hw)) (mvT hZ (ww2 hw)) (mvT hZ (ww3 hw)) (by decide) hK20 (g := (mkF m 5 ls19 [(.int 1)])) rfl (by rw [hml, hls19]; rfl) (argsL := [(.int 1)]) (rest := []) (lenOf pd_24 rfl) rfl (by show 2 * 0 + _ ≤ _; exact Nat.le_of_eq rfl) (B at_5) (fun _ _ => ⟨rfl, e0, (by decide : 0 + 0 ≤ _), (by decide : 0 + 0 ≤ _)⟩)
    dsimp only [Pt.U, Pt.locs, Pt.cells, Pt.slots] at X20 l20 y20 z20 st20 hQ20
    subst l20 y20 z20
    obtain ⟨rfl, N20q, e20⟩ := hQ20
    have N20 := Fr.app N0 N20q
    obtain ⟨lc20, X20, N20⟩ := own_gen X20 N20
    refine step (fun t k => st20 t k) ?_
    have r21 : (f_pick w_0 w_1 w_2 w_3 w_4 w_5 w_6 w_7 w_8 (1 : Int32)) = w_2 := by
      unfold f_pick
      rw [if_neg (by decide : ¬ ((1 : Int32) = (0 : Int32))), if_pos (by decide : (1 : Int32) = (1 : Int32))]
    rw [r21]
    obtain ⟨ls22, hls22⟩ := own_sl #[vI p0, vI p1, vI 1, vR w_2, u_, u_, u_, u_]
    refine step (fun t k => XS.astoreN X20.here hx rfl (B at_8) rfl rfl (l' := ls22) (by rw [hls19, hls22]; rfl) k) ?_
    refine step (fun t k => XS.iloadN X20.here hx rfl (B at_9) (by rw [hls22]; rfl) k) ?_
    refine step (fun t k => XS.iconst X20.here hx rfl (B at_10) k) ?_
    refine step (fun t k => XS.icmpNo X20.here hx rfl (B at_11) rfl (tlt (by decide : (1 : Int32) < (2 : Int32))).2.1 k) ?_
    refine step (fun t k => XS.iconst X20.here hx rfl (B at_14) k) ?_
    show G T20 (mkF m 15 ls22 [(.int 1)])
    refine step (fun t k => XS.goto X20.here hx rfl (pc0 := 15) (pc' := 19) rfl (B at_15) (by decide) (by decide) k) ?_
    obtain ⟨ls23, hls23⟩ := own_sl #[vI p0, vI p1, vI 1, vR w_2, vI 1, u_, u_, u_]
    refine step (fun t k => XS.istore X20.here hx rfl (B at_19) rfl (l' := ls23) (by rw [hls22, hls23]; rfl) k) ?_
    refine step (fun t k => XS.aloadN X20.here hx rfl (B at_21) (by rw [hls23]; rfl) rfl k) ?_
    have hK24 := (backOf (R := room_1) (p := p) (e := e) (below := below) (s := s) (args := #[(.int p0), (.int p1)]) (len := 3) (W := 0) (rm_int l Z a0 hw [] w_0 w_1 w_2 w_3 w_4 w_5 w_6 w_7 w_8 w_2 h0 n0 (own_old_le O0) ST O0) hZ (ww11 hw) (ww5 hw) (by decide) (by decide))
    obtain ⟨cq24, kq24, q24a, q24b, q24c⟩ := isOf hZ e20 (Exa.ext O0.2 ST.k5)
    obtain ⟨_, _, ⟨T24, L24, k24, n24⟩, -, X24, ⟨Lc24, hQ24, l24, y24, z24⟩, st24⟩ := X20.virtualBack hx (y := y_1) (z := y_1) hown (mvT hZ (ww7 hw)) (mvT hZ (ww8 hw)) (notFace_of_selects (args := #[]) (mvT hZ (ww10 hw))) (mvT hZ (ww10 hw)) (mvT hZ (ww9 hw)) (by decide) hK24 q24a q24c (g := (mkF m 22 ls23 [(.ref w_2)])) rfl (by rw [hml, hls23]; rfl) (Steps.refl _) (argsL := []) (rest := []) (lenOf pd_11 rfl) rfl (by show 2 * 0 + _ ≤ _; exact Nat.le_of_eq rfl) (B at_22) (fun _ _ => ⟨rfl, e20, (by decide : 0 + 0 ≤ _), (by decide : 0 + 0 ≤ _)⟩)
    dsimp only [Pt.U, Pt.locs, Pt.cells, Pt.slots] at X24 l24 y24 z24 st24 hQ24
    subst l24 y24 z24
    obtain ⟨rfl, N24q, e24⟩ := hQ24
    have N24 := Fr.app N20 N24q
    obtain ⟨lc24, X24, N24⟩ := own_gen X24 N24
    refine step (fun t k => st24.trans k) ?_
    have r25 : (f_int w_0 w_1 w_2 w_3 w_4 w_5 w_6 w_7 w_8 w_2) = (1 : Int32) := by
      unfold f_int
      rw [if_neg ((Fld.ne ST.k16 ST.k14 (fun q => absurd (Value.int.inj q) (by decide))) : ¬ (w_2 = w_0)), if_pos (rfl : w_2 = w_2)]
    rw [r25]
    obtain ⟨ls26, hls26⟩ := own_sl #[vI p0, vI p1, vI 1, vR w_2, vI 1, vI 1, u_, u_]
    refine step (fun t k => XS.istore X24.here hx rfl (B at_25) rfl (l' := ls26) (by rw [hls23, hls26]; rfl) k) ?_
    obtain ⟨T27, h27, X27, e27, E27, A27, D27, -, st27⟩ := newO X24 hx hZ hown (ww13 hw) (ww14 hw) (ww15 hw) e24 (g := (mkF m 27 ls26 [])) rfl (B at_27) (by decide) (by decide)
    obtain ⟨b27, g27⟩ : ∃ z, z = h0.size := ⟨_, rfl⟩
    rw [← g27] at A27 D27 st27
    have ge_b27 : n0 ≤ b27 := Nat.le_trans (own_old_le O0) (Nat.le_of_eq g27.symm)
    have O27 := O0.ext E27
    have F27_kind : Fld Z h27 b27 cn_0 "kind" cn_4 .null := D27 (Or.inr (ww28 hw)) (ty := (.object cn_1)) (by decide)
    have F27_length : Fld Z h27 b27 cn_0 "length" "I" (.int 0) := D27 (Or.inr (ww30 hw)) (ty := .int) (by decide)
    refine step st27 ?_
    refine step (fun t k => XS.dup X27.here hx rfl (B at_30) rfl rfl k) ?_
    refine step (fun t k => XS.aloadN X27.here hx rfl (B at_31) (by rw [hls26]; rfl) rfl k) ?_
    refine step (fun t k => XS.bipush X27.here hx rfl (B at_32) k) ?_
    show G T27 (mkF m 34 ls26 [(.int 11), (.ref w_2), (.ref b27), (.ref b27)])
    have hK28 := (backOf (R := room_1) (p := p) (e := e) (below := below) (s := s) (args := #[(.int p0), (.int p1)]) (len := 3) (W := 1) (rm_ct l Z a0 hw [] w_0 w_1 w_2 w_3 w_4 w_5 w_6 w_7 w_8 b27 w_2 (11 : Int32) h27 n0 (own_old_le O27) ST O27 A27 ge_b27 F27_kind F27_length) hZ (ww18 hw) (ww15 hw) (by decide) (by decide))
    obtain ⟨_, _, ⟨T28, L28, k28, n28⟩, -, X28, ⟨Lc28, hQ28, l28, y28, z28⟩, st28⟩ := X27.specialBack hx (y := y_4) rfl hown (mvT hZ (ww16 hw)) (mvT hZ (ww17 hw)) (mvT hZ (ww18 hw)) (by decide) hK28 (g := (mkF m 34 ls26 [(.int 11), (.ref w_2), (.ref b27), (.ref b27)])) rfl (by rw [hml, hls26]; rfl) (Steps.refl _) (a := b27) (argsL := [(.ref w_2), (.int 11)]) (rest := [(.ref b27)]) (lenOf pd_25 rfl) rfl (by show 2 * 0 + _ ≤ _; exact Nat.le_of_eq rfl) (B at_34) (fun _ _ => ⟨rfl, e27, (by decide : 1 + 0 ≤ _), (by decide : 2 + 0 ≤ _)⟩)
    dsimp only [Pt.U, Pt.locs, Pt.cells, Pt.slots] at X28 l28 y28 z28 st28 hQ28
    subst l28 y28 z28
    obtain ⟨rfl, N28q, K28q, Y28_0, Y28_1, Y28_2⟩ := hQ28
    have N28 := Fr.app N24 N28q
    obtain ⟨lc28, X28, N28⟩ := own_gen X28 N28
    have O28 := O27.keep K28q (allS ge_b27 all0)
    refine step (fun t k => st28.trans k) ?_
    refine step (fun t k => XS.iloadN X28.here hx rfl (B at_37) (by rw [hls26]; rfl) k) ?_
    refine step (fun t k => XS.i2l X28.here hx rfl (B at_38) rfl k) ?_
    have hK29 := (backOf (R := room_1) (p := p) (e := e) (below := below) (s := s) (args := #[(.int p0), (.int p1)]) (len := 3) (W := 1) (rm_vo l Z a0 hw [] w_0 w_1 w_2 w_3 w_4 w_5 w_6 w_7 w_8 (p1.toInt64) T28.heap n0 (own_old_le O28) ST O28) hZ (ww34 hw) (ww33 hw) (by decide) (by decide))
    obtain ⟨_, _, ⟨T29, L29, k29, n29⟩, -, X29, ⟨Lc29, hQ29, l29, y29, z29⟩, st29⟩ := Jvm.LawKit.callS X28 hx (y := y_6) hown (mvT hZ (ww31 hw)) (mvT hZ (ww32 hw)) (mvT hZ (ww33 hw)) (mvT hZ (ww34 hw)) (by decide) hK29 (g := (mkF m 39 ls26 [(.long (p1.toInt64)), (.ref b27)])) rfl (by rw [hml, hls26]; rfl) (argsL := [(.long (p1.toInt64))]) (rest := [(.ref b27)]) (lenOf pd_3 rfl) rfl (by show 2 * 0 + _ ≤ _; exact Nat.le_of_eq rfl) (B at_39) (fun _ _ => ⟨rfl, rfl, (by decide : 1 + 1 ≤ _), (by decide : 2 + 1 ≤ _)⟩)
    dsimp only [Pt.U, Pt.locs, Pt.cells, Pt.slots] at X29 l29 y29 z29 st29 hQ29
    subst l29 y29 z29
    obtain ⟨b29, rfl, N29q, K29q, Y29_0, Y29_1⟩ := hQ29
    have N29 := Fr.app N28 N29q
    obtain ⟨lc29, X29, N29⟩ := own_gen X29 N29
    have O29 := O28.keep K29q all0
    refine step (fun t k => st29 t k) ?_
    have f31 := (Exa.keep Y28_0 K29q)
    have f32 := (Fld.keep Y28_1 K29q nin0)
    have f33 := (Fld.keep Y28_2 K29q nin0)
    have hK30 := (backOf (R := room_1) (p := p) (e := e) (below := below) (s := s) (args := #[(.int p0), (.int p1)]) (len := 3) (W := 0) (rm_sto1 l Z a0 hw [] w_0 w_1 w_2 w_3 w_4 w_5 w_6 w_7 w_8 b27 b29 (p1.toInt64) T29.heap n0 (own_old_le O29) ST O29 f31 f32 f33 Y29_0 Y29_1 (own_rg p1) ((own_rt p1) : (p1.toInt64) = (((p1.toInt64).toInt32).toInt64))) hZ (ww43 hw) (ww15 hw) (by decide) (by decide))
    obtain ⟨cq30, kq30, q30a, q30b, q30c⟩ := isOf hZ rfl f31
    obtain ⟨_, _, ⟨T30, L30, k30, n30⟩, -, X30, ⟨Lc30, hQ30, l30, y30, z30⟩, st30⟩ := X29.virtualBack hx (y := y_32) (z := y_32) hown (mvT hZ (ww39 hw)) (mvT hZ (ww40 hw)) (notFace_of_selects (args := #[]) (mvT hZ (ww42 hw))) (mvT hZ (ww42 hw)) (mvT hZ (ww41 hw)) (by decide) hK30 q30a q30c (g := (mkF m 42 ls26 [(.ref b29), (.ref b27)])) rfl (by rw [hml, hls26]; rfl) (Steps.refl _) (argsL := [(.ref b29)]) (rest := []) (lenOf pd_26 rfl) rfl (by show 2 * 0 + _ ≤ _; exact Nat.le_of_eq rfl) (B at_42) (fun _ _ => ⟨rfl, rfl, (by decide : 2 + 1 ≤ _), (by decide : 3 + 1 ≤ _)⟩)
    dsimp only [Pt.U, Pt.locs, Pt.cells, Pt.slots] at X30 l30 y30 z30 st30 hQ30
    subst l30 y30 z30
    obtain ⟨b30, rfl, N30q, K30q, Y30_0⟩ := hQ30
    have N30 := Fr.app N29 N30q
    obtain ⟨lc30, X30, N30⟩ := own_gen X30 N30
    refine step (fun t k => st30.trans k) ?_
    obtain ⟨ls34, hls34⟩ := own_sl #[vI p0, vI p1, vI 1, vR w_2, vI 1, vI 1, vR b30, u_]
    refine step (fun t k => XS.astore X30.here hx rfl (B at_45) rfl rfl (l' := ls34) (by rw [hls26, hls34]; rfl) k) ?_
    refine step (fun t k => XS.aload X30.here hx rfl (B at_47) (by rw [hls34]; rfl) rfl k) ?_
    obtain ⟨T35, X35, e35, st35⟩ := instY X30 hx hZ hown (ww69 hw) rfl (Ins.self Y30_0) (g := (mkF m 49 ls34 [(.ref b30)])) rfl rfl (B at_49)
    refine step st35 ?_
    obtain ⟨ls36, hls36⟩ := own_sl #[vI p0, vI p1, vI 1, vR w_2, vI 1, vI 1, vR b30, vI 1]
    refine step (fun t k => XS.istore X35.here hx rfl (B at_52) rfl (l' := ls36) (by rw [hls34, hls36]; rfl) k) ?_
    refine step (fun t k => XS.iload X35.here hx rfl (B at_54) (by rw [hls36]; rfl) k) ?_
    refine step (fun t k => XS.iload X35.here hx rfl (B at_56) (by rw [hls36]; rfl) k) ?_
    refine step (fun t k => XS.icmpNo X35.here hx rfl (B at_58) rfl (teq (by decide : (1 : Int32) = (1 : Int32))).2 k) ?_
    refine step (fun t k => XS.iload X35.here hx rfl (B at_61) (by rw [hls36]; rfl) k) ?_
    show G T35 (mkF m 63 ls36 [(.int 1)])
    refine step (fun t k => XS.iload X35.here hx rfl (B at_63) (by rw [hls36]; rfl) k) ?_
    refine step (fun t k => XS.icmpNo X35.here hx rfl (B at_65) rfl (teq (by decide : (1 : Int32) = (1 : Int32))).2 k) ?_
    refine step (fun t k => XS.iconst X35.here hx rfl (B at_68) k) ?_
    refine step (fun t k => XS.goto X35.here hx rfl (pc0 := 69) (pc' := 73) rfl (B at_69) (by decide) (by decide) k) ?_
    exact ret (v := some (.int 1)) X35 (fun h => by rw [Bd.returns] at h; cases h) (fun fs hr => retN X35 hx (t := .boolean) Bd.returns (by simp) (B at_73) hr) e35 ⟨rfl, N30⟩ (by decide) (by decide)
  · show G s₁ (mkF m 3 ls0 [(.int (p0 &&& (3 : Int32)))]); rw [hk]
    obtain ⟨ls37, hls37⟩ := own_sl #[vI p0, vI p1, vI 2, u_, u_, u_, u_, u_]
    refine step (fun t k => XS.istoreN X0.here hx rfl (B at_3) rfl (l' := ls37) (by rw [hls0, hls37]; rfl) k) ?_
    refine step (fun t k => XS.iloadN X0.here hx rfl (B at_4) (by rw [hls37]; rfl) k) ?_
    show G s₁ (mkF m 5 ls37 [(.int 2)])
    have hK38 := (backOf (R := room_1) (p := p) (e := e) (below := below) (s := s) (args := #[(.int p0), (.int p1)]) (len := 3) (W := 0) (rm_pick l Z a0 hw [] w_0 w_1 w_2 w_3 w_4 w_5 w_6 w_7 w_8 (2 : Int32) h0 n0 (own_old_le O0) ST O0) hZ (ww3 hw) (ww2 hw) (by decide) (by decide))
    obtain ⟨_, _, ⟨T38, L38, k38, n38⟩, -, X38, ⟨Lc38, hQ38, l38, y38, z38⟩, st38⟩ := Jvm.LawKit.callS X0 hx (y := y_0) hown (mvT hZ (ww0 hw)) (mvT hZ (ww1 hw)) (mvT hZ (ww2 hw)) (mvT hZ (ww3 hw)) (by decide) hK38 (g := (mkF m 5 ls37 [(.int 2)])) rfl (by rw [hml, hls37]; rfl) (argsL := [(.int 2)]) (rest := []) (lenOf pd_24 rfl) rfl (by show 2 * 0 + _ ≤ _; exact Nat.le_of_eq rfl) (B at_5) (fun _ _ => ⟨rfl, e0, (by decide : 0 + 0 ≤ _), (by decide : 0 + 0 ≤ _)⟩)
    dsimp only [Pt.U, Pt.locs, Pt.cells, Pt.slots] at X38 l38 y38 z38 st38 hQ38
    subst l38 y38 z38
    obtain ⟨rfl, N38q, e38⟩ := hQ38
    have N38 := Fr.app N0 N38q
    obtain ⟨lc38, X38, N38⟩ := own_gen X38 N38
    refine step (fun t k => st38 t k) ?_
    have r39 : (f_pick w_0 w_1 w_2 w_3 w_4 w_5 w_6 w_7 w_8 (2 : Int32)) = w_1 := by
      unfold f_pick
      rw [if_neg (by decide : ¬ ((2 : Int32) = (0 : Int32))), if_neg (by decide : ¬ ((2 : Int32) = (1 : Int32))), if_pos (by decide : (2 : Int32) = (2 : Int32))]
    rw [r39]
    obtain ⟨ls40, hls40⟩ := own_sl #[vI p0, vI p1, vI 2, vR w_1, u_, u_, u_, u_]
    refine step (fun t k => XS.astoreN X38.here hx rfl (B at_8) rfl rfl (l' := ls40) (by rw [hls37, hls40]; rfl) k) ?_
    refine step (fun t k => XS.iloadN X38.here hx rfl (B at_9) (by rw [hls40]; rfl) k) ?_
    refine step (fun t k => XS.iconst X38.here hx rfl (B at_10) k) ?_
    refine step (fun t k => XS.icmpYes X38.here hx rfl (pc0 := 11) (pc' := 18) rfl (B at_11) rfl (flt (by decide : ¬ ((2 : Int32) < (2 : Int32)))).2.1 (by decide) (by decide) k) ?_
    refine step (fun t k => XS.iconst X38.here hx rfl (B at_18) k) ?_
    show G T38 (mkF m 19 ls40 [(.int 0)])
    obtain ⟨ls41, hls41⟩ := own_sl #[vI p0, vI p1, vI 2, vR w_1, vI 0, u_, u_, u_]
    refine step (fun t k => XS.istore X38.here hx rfl (B at_19) rfl (l' := ls41) (by rw [hls40, hls41]; rfl) k) ?_
    refine step (fun t k => XS.aloadN X38.here hx rfl (B at_21) (by rw [hls41]; rfl) rfl k) ?_
    have hK42 := (backOf (R := room_1) (p := p) (e := e) (below := below) (s := s) (args := #[(.int p0), (.int p1)]) (len := 3) (W := 0) (rm_int l Z a0 hw [] w_0 w_1 w_2 w_3 w_4 w_5 w_6 w_7 w_8 w_1 h0 n0 (own_old_le O0) ST O0) hZ (ww11 hw) (ww5 hw) (by decide) (by decide))
    obtain ⟨cq42, kq42, q42a, q42b, q42c⟩ := isOf hZ e38 (Exa.ext O0.2 ST.k3)
    obtain ⟨_, _, ⟨T42, L42, k42, n42⟩, -, X42, ⟨Lc42, hQ42, l42, y42, z42⟩, st42⟩ := X38.virtualBack hx (y := y_1) (z := y_1) hown (mvT hZ (ww7 hw)) (mvT hZ (ww8 hw)) (notFace_of_selects (args := #[]) (mvT hZ (ww10 hw))) (mvT hZ (ww10 hw)) (mvT hZ (ww9 hw)) (by decide) hK42 q42a q42c (g := (mkF m 22 ls41 [(.ref w_1)])) rfl (by rw [hml, hls41]; rfl) (Steps.refl _) (argsL := []) (rest := []) (lenOf pd_11 rfl) rfl (by show 2 * 0 + _ ≤ _; exact Nat.le_of_eq rfl) (B at_22) (fun _ _ => ⟨rfl, e38, (by decide : 0 + 0 ≤ _), (by decide : 0 + 0 ≤ _)⟩)
    dsimp only [Pt.U, Pt.locs, Pt.cells, Pt.slots] at X42 l42 y42 z42 st42 hQ42
    subst l42 y42 z42
    obtain ⟨rfl, N42q, e42⟩ := hQ42
    have N42 := Fr.app N38 N42q
    obtain ⟨lc42, X42, N42⟩ := own_gen X42 N42
    refine step (fun t k => st42.trans k) ?_
    have r43 : (f_int w_0 w_1 w_2 w_3 w_4 w_5 w_6 w_7 w_8 w_1) = (0 : Int32) := by
      unfold f_int
      rw [if_neg ((Fld.ne ST.k15 ST.k14 (fun q => absurd (Value.int.inj q) (by decide))) : ¬ (w_1 = w_0)), if_neg ((Fld.ne ST.k15 ST.k16 (fun q => absurd (Value.int.inj q) (by decide))) : ¬ (w_1 = w_2))]
    rw [r43]
    obtain ⟨ls44, hls44⟩ := own_sl #[vI p0, vI p1, vI 2, vR w_1, vI 0, vI 0, u_, u_]
    refine step (fun t k => XS.istore X42.here hx rfl (B at_25) rfl (l' := ls44) (by rw [hls41, hls44]; rfl) k) ?_
    obtain ⟨T45, h45, X45, e45, E45, A45, D45, -, st45⟩ := newO X42 hx hZ hown (ww13 hw) (ww14 hw) (ww15 hw) e42 (g := (mkF m 27 ls44 [])) rfl (B at_27) (by decide) (by decide)
    obtain ⟨b45, g45⟩ : ∃ z, z = h0.size := ⟨_, rfl⟩
    rw [← g45] at A45 D45 st45
    have ge_b45 : n0 ≤ b45 := Nat.le_trans (own_old_le O0) (Nat.le_of_eq g45.symm)
    have O45 := O0.ext E45
    have F45_kind : Fld Z h45 b45 cn_0 "kind" cn_4 .null := D45 (Or.inr (ww28 hw)) (ty := (.object cn_1)) (by decide)
    have F45_length : Fld Z h45 b45 cn_0 "length" "I" (.int 0) := D45 (Or.inr (ww30 hw)) (ty := .int) (by decide)
    refine step st45 ?_
    refine step (fun t k => XS.dup X45.here hx rfl (B at_30) rfl rfl k) ?_
    refine step (fun t k => XS.aloadN X45.here hx rfl (B at_31) (by rw [hls44]; rfl) rfl k) ?_
    refine step (fun t k => XS.bipush X45.here hx rfl (B at_32) k) ?_
    show G T45 (mkF m 34 ls44 [(.int 11), (.ref w_1), (.ref b45), (.ref b45)])
    have hK46 := (backOf (R := room_1) (p := p) (e := e) (below := below) (s := s) (args := #[(.int p0), (.int p1)]) (len := 3) (W := 1) (rm_ct l Z a0 hw [] w_0 w_1 w_2 w_3 w_4 w_5 w_6 w_7 w_8 b45 w_1 (11 : Int32) h45 n0 (own_old_le O45) ST O45 A45 ge_b45 F45_kind F45_length) hZ (ww18 hw) (ww15 hw) (by decide) (by decide))
    obtain ⟨_, _, ⟨T46, L46, k46, n46⟩, -, X46, ⟨Lc46, hQ46, l46, y46, z46⟩, st46⟩ := X45.specialBack hx (y := y_4) rfl hown (mvT hZ (ww16 hw)) (mvT hZ (ww17 hw)) (mvT hZ (ww18 hw)) (by decide) hK46 (g := (mkF m 34 ls44 [(.int 11), (.ref w_1), (.ref b45), (.ref b45)])) rfl (by rw [hml, hls44]; rfl) (Steps.refl _) (a := b45) (argsL := [(.ref w_1), (.int 11)]) (rest := [(.ref b45)]) (lenOf pd_25 rfl) rfl (by show 2 * 0 + _ ≤ _; exact Nat.le_of_eq rfl) (B at_34) (fun _ _ => ⟨rfl, e45, (by decide : 1 + 0 ≤ _), (by decide : 2 + 0 ≤ _)⟩)
    dsimp only [Pt.U, Pt.locs, Pt.cells, Pt.slots] at X46 l46 y46 z46 st46 hQ46
    subst l46 y46 z46
    obtain ⟨rfl, N46q, K46q, Y46_0, Y46_1, Y46_2⟩ := hQ46
    have N46 := Fr.app N42 N46q
    obtain ⟨lc46, X46, N46⟩ := own_gen X46 N46
    have O46 := O45.keep K46q (allS ge_b45 all0)
    refine step (fun t k => st46.trans k) ?_
    refine step (fun t k => XS.iloadN X46.here hx rfl (B at_37) (by rw [hls44]; rfl) k) ?_
    refine step (fun t k => XS.i2l X46.here hx rfl (B at_38) rfl k) ?_
    have hK47 := (backOf (R := room_1) (p := p) (e := e) (below := below) (s := s) (args := #[(.int p0), (.int p1)]) (len := 3) (W := 1) (rm_vo l Z a0 hw [] w_0 w_1 w_2 w_3 w_4 w_5 w_6 w_7 w_8 (p1.toInt64) T46.heap n0 (own_old_le O46) ST O46) hZ (ww34 hw) (ww33 hw) (by decide) (by decide))
    obtain ⟨_, _, ⟨T47, L47, k47, n47⟩, -, X47, ⟨Lc47, hQ47, l47, y47, z47⟩, st47⟩ := Jvm.LawKit.callS X46 hx (y := y_6) hown (mvT hZ (ww31 hw)) (mvT hZ (ww32 hw)) (mvT hZ (ww33 hw)) (mvT hZ (ww34 hw)) (by decide) hK47 (g := (mkF m 39 ls44 [(.long (p1.toInt64)), (.ref b45)])) rfl (by rw [hml, hls44]; rfl) (argsL := [(.long (p1.toInt64))]) (rest := [(.ref b45)]) (lenOf pd_3 rfl) rfl (by show 2 * 0 + _ ≤ _; exact Nat.le_of_eq rfl) (B at_39) (fun _ _ => ⟨rfl, rfl, (by decide : 1 + 1 ≤ _), (by decide : 2 + 1 ≤ _)⟩)
    dsimp only [Pt.U, Pt.locs, Pt.cells, Pt.slots] at X47 l47 y47 z47 st47 hQ47
    subst l47 y47 z47
    obtain ⟨b47, rfl, N47q, K47q, Y47_0, Y47_1⟩ := hQ47
    have N47 := Fr.app N46 N47q
    obtain ⟨lc47, X47, N47⟩ := own_gen X47 N47
    have O47 := O46.keep K47q all0
    refine step (fun t k => st47 t k) ?_
    have f49 := (Exa.keep Y46_0 K47q)
    have f50 := (Fld.keep Y46_1 K47q nin0)
    have f51 := (Fld.keep Y46_2 K47q nin0)
    have hK48 := (backOf (R := room_1) (p := p) (e := e) (below := below) (s := s) (args := #[(.int p0), (.int p1)]) (len := 3) (W := 0) (rm_sto2 l Z a0 hw [] w_0 w_1 w_2 w_3 w_4 w_5 w_6 w_7 w_8 b45 b47 (p1.toInt64) T47.heap n0 (own_old_le O47) ST O47 f49 f50 f51 Y47_0 Y47_1 (own_rg p1) ((own_rt p1) : (p1.toInt64) = (((p1.toInt64).toInt32).toInt64))) hZ (ww43 hw) (ww15 hw) (by decide) (by decide))
    obtain ⟨cq48, kq48, q48a, q48b, q48c⟩ := isOf hZ rfl f49
    obtain ⟨_, _, ⟨T48, L48, k48, n48⟩, -, X48, ⟨Lc48, hQ48, l48, y48, z48⟩, st48⟩ := X47.virtualBack hx (y := y_32) (z := y_32) hown (mvT hZ (ww39 hw)) (mvT hZ (ww40 hw)) (notFace_of_selects (args := #[]) (mvT hZ (ww42 hw))) (mvT hZ (ww42 hw)) (mvT hZ (ww41 hw)) (by decide) hK48 q48a q48c (g := (mkF m 42 ls44 [(.ref b47), (.ref b45)])) rfl (by rw [hml, hls44]; rfl) (Steps.refl _) (argsL := [(.ref b47)]) (rest := []) (lenOf pd_26 rfl) rfl (by show 2 * 0 + _ ≤ _; exact Nat.le_of_eq rfl) (B at_42) (fun _ _ => ⟨rfl, rfl, (by decide : 2 + 2 ≤ _), (by decide : 3 + 15 ≤ _)⟩)
    dsimp only [Pt.U, Pt.locs, Pt.cells, Pt.slots] at X48 l48 y48 z48 st48 hQ48
    subst l48 y48 z48
    obtain ⟨b48, rfl, N48q, K48q, Y48_0⟩ := hQ48
    have N48 := Fr.app N47 N48q
    obtain ⟨lc48, X48, N48⟩ := own_gen X48 N48
    refine step (fun t k => st48.trans k) ?_
    obtain ⟨ls52, hls52⟩ := own_sl #[vI p0, vI p1, vI 2, vR w_1, vI 0, vI 0, vR b48, u_]
    refine step (fun t k => XS.astore X48.here hx rfl (B at_45) rfl rfl (l' := ls52) (by rw [hls44, hls52]; rfl) k) ?_
    refine step (fun t k => XS.aload X48.here hx rfl (B at_47) (by rw [hls52]; rfl) rfl k) ?_
    obtain ⟨T53, X53, e53, st53⟩ := instNo X48 hx hZ hown (ww69 hw) rfl Y48_0 (own_nosub (ww169 hw) (ww170 hw) (ww172 hw) (by decide) (by decide)) (g := (mkF m 49 ls52 [(.ref b48)])) rfl rfl (B at_49)
    refine step st53 ?_
    obtain ⟨ls54, hls54⟩ := own_sl #[vI p0, vI p1, vI 2, vR w_1, vI 0, vI 0, vR b48, vI 0]
    refine step (fun t k => XS.istore X53.here hx rfl (B at_52) rfl (l' := ls54) (by rw [hls52, hls54]; rfl) k) ?_
    refine step (fun t k => XS.iload X53.here hx rfl (B at_54) (by rw [hls54]; rfl) k) ?_
    refine step (fun t k => XS.iload X53.here hx rfl (B at_56) (by rw [hls54]; rfl) k) ?_
    refine step (fun t k => XS.icmpNo X53.here hx rfl (B at_58) rfl (teq (by decide : (0 : Int32) = (0 : Int32))).2 k) ?_
    refine step (fun t k => XS.iload X53.here hx rfl (B at_61) (by rw [hls54]; rfl) k) ?_
    show G T53 (mkF m 63 ls54 [(.int 0)])
    refine step (fun t k => XS.iload X53.here hx rfl (B at_63) (by rw [hls54]; rfl) k) ?_
    refine step (fun t k => XS.icmpNo X53.here hx rfl (B at_65) rfl (teq (by decide : (0 : Int32) = (0 : Int32))).2 k) ?_
    refine step (fun t k => XS.iconst X53.here hx rfl (B at_68) k) ?_
    refine step (fun t k => XS.goto X53.here hx rfl (pc0 := 69) (pc' := 73) rfl (B at_69) (by decide) (by decide) k) ?_
    exact ret (v := some (.int 1)) X53 (fun h => by rw [Bd.returns] at h; cases h) (fun fs hr => retN X53 hx (t := .boolean) Bd.returns (by simp) (B at_73) hr) e53 ⟨rfl, N48⟩ (by decide) (by decide)
  · show G s₁ (mkF m 3 ls0 [(.int (p0 &&& (3 : Int32)))]); rw [hk]
    obtain ⟨ls55, hls55⟩ := own_sl #[vI p0, vI p1, vI 3, u_, u_, u_, u_, u_]
    refine step (fun t k => XS.istoreN X0.here hx rfl (B at_3) rfl (l' := ls55) (by rw [hls0, hls55]; rfl) k) ?_
    refine step (fun t k => XS.iloadN X0.here hx rfl (B at_4) (by rw [hls55]; rfl) k) ?_
    show G s₁ (mkF m 5 ls55 [(.int 3)])
    have hK56 := (backOf (R := room_1) (p := p) (e := e) (below := below) (s := s) (args := #[(.int p0), (.int p1)]) (len := 3) (W := 0) (rm_pick l Z a0 hw [] w_0 w_1 w_2 w_3 w_4 w_5 w_6 w_7 w_8 (3 : Int32) h0 n0 (own_old_le O0) ST O0) hZ (ww3 hw) (ww2 hw) (by decide) (by decide))
    obtain ⟨_, _, ⟨T56, L56, k56, n56⟩, -, X56, ⟨Lc56, hQ56, l56, y56, z56⟩, st56⟩ := Jvm.LawKit.callS X0 hx (y := y_0) hown (mvT hZ (ww0 hw)) (mvT hZ (ww1 hw)) (mvT hZ (ww2 hw)) (mvT hZ (ww3 hw)) (by decide) hK56 (g := (mkF m 5 ls55 [(.int 3)])) rfl (by rw [hml, hls55]; rfl) (argsL := [(.int 3)]) (rest := []) (lenOf pd_24 rfl) rfl (by show 2 * 0 + _ ≤ _; exact Nat.le_of_eq rfl) (B at_5) (fun _ _ => ⟨rfl, e0, (by decide : 0 + 0 ≤ _), (by decide : 0 + 0 ≤ _)⟩)
    dsimp only [Pt.U, Pt.locs, Pt.cells, Pt.slots] at X56 l56 y56 z56 st56 hQ56
    subst l56 y56 z56
    obtain ⟨rfl, N56q, e56⟩ := hQ56
    have N56 := Fr.app N0 N56q
    obtain ⟨lc56, X56, N56⟩ := own_gen X56 N56
    refine step (fun t k => st56 t k) ?_
    have r57 : (f_pick w_0 w_1 w_2 w_3 w_4 w_5 w_6 w_7 w_8 (3 : Int32)) = w_3 := by
      unfold f_pick
      rw [if_neg (by decide : ¬ ((3 : Int32) = (0 : Int32))), if_neg (by decide : ¬ ((3 : Int32) = (1 : Int32))), if_neg (by decide : ¬ ((3 : Int32) = (2 : Int32)))]
    rw [r57]
    obtain ⟨ls58, hls58⟩ := own_sl #[vI p0, vI p1, vI 3, vR w_3, u_, u_, u_, u_]
    refine step (fun t k => XS.astoreN X56.here hx rfl (B at_8) rfl rfl (l' := ls58) (by rw [hls55, hls58]; rfl) k) ?_
    refine step (fun t k => XS.iloadN X56.here hx rfl (B at_9) (by rw [hls58]; rfl) k) ?_
    refine step (fun t k => XS.iconst X56.here hx rfl (B at_10) k) ?_
    refine step (fun t k => XS.icmpYes X56.here hx rfl (pc0 := 11) (pc' := 18) rfl (B at_11) rfl (flt (by decide : ¬ ((3 : Int32) < (2 : Int32)))).2.1 (by decide) (by decide) k) ?_
    refine step (fun t k => XS.iconst X56.here hx rfl (B at_18) k) ?_
    show G T56 (mkF m 19 ls58 [(.int 0)])
    obtain ⟨ls59, hls59⟩ := own_sl #[vI p0, vI p1, vI 3, vR w_3, vI 0, u_, u_, u_]
    refine step (fun t k => XS.istore X56.here hx rfl (B at_19) rfl (l' := ls59) (by rw [hls58, hls59]; rfl) k) ?_
    refine step (fun t k => XS.aloadN X56.here hx rfl (B at_21) (by rw [hls59]; rfl) rfl k) ?_
    have hK60 := (backOf (R := room_1) (p := p) (e := e) (below := below) (s := s) (args := #[(.int p0), (.int p1)]) (len := 3) (W := 0) (rm_int l Z a0 hw [] w_0 w_1 w_2 w_3 w_4 w_5 w_6 w_7 w_8 w_3 h0 n0 (own_old_le O0) ST O0) hZ (ww11 hw) (ww5 hw) (by decide) (by decide))
    obtain ⟨cq60, kq60, q60a, q60b, q60c⟩ := isOf hZ e56 (Exa.ext O0.2 ST.k7)
    obtain ⟨_, _, ⟨T60, L60, k60, n60⟩, -, X60, ⟨Lc60, hQ60, l60, y60, z60⟩, st60⟩ := X56.virtualBack hx (y := y_1) (z := y_1) hown (mvT hZ (ww7 hw)) (mvT hZ (ww8 hw)) (notFace_of_selects (args := #[]) (mvT hZ (ww10 hw))) (mvT hZ (ww10 hw)) (mvT hZ (ww9 hw)) (by decide) hK60 q60a q60c (g := (mkF m 22 ls59 [(.ref w_3)])) rfl (by rw [hml, hls59]; rfl) (Steps.refl _) (argsL := []) (rest := []) (lenOf pd_11 rfl) rfl (by show 2 * 0 + _ ≤ _; exact Nat.le_of_eq rfl) (B at_22) (fun _ _ => ⟨rfl, e56, (by decide : 0 + 0 ≤ _), (by decide : 0 + 0 ≤ _)⟩)
    dsimp only [Pt.U, Pt.locs, Pt.cells, Pt.slots] at X60 l60 y60 z60 st60 hQ60
    subst l60 y60 z60
    obtain ⟨rfl, N60q, e60⟩ := hQ60
    have N60 := Fr.app N56 N60q
    obtain ⟨lc60, X60, N60⟩ := own_gen X60 N60
    refine step (fun t k => st60.trans k) ?_
    have r61 : (f_int w_0 w_1 w_2 w_3 w_4 w_5 w_6 w_7 w_8 w_3) = (0 : Int32) := by
      unfold f_int
      rw [if_neg ((Fld.ne ST.k17 ST.k14 (fun q => absurd (Value.int.inj q) (by decide))) : ¬ (w_3 = w_0)), if_neg ((Fld.ne ST.k17 ST.k16 (fun q => absurd (Value.int.inj q) (by decide))) : ¬ (w_3 = w_2))]
    rw [r61]
    obtain ⟨ls62, hls62⟩ := own_sl #[vI p0, vI p1, vI 3, vR w_3, vI 0, vI 0, u_, u_]
    refine step (fun t k => XS.istore X60.here hx rfl (B at_25) rfl (l' := ls62) (by rw [hls59, hls62]; rfl) k) ?_
    obtain ⟨T63, h63, X63, e63, E63, A63, D63, -, st63⟩ := newO X60 hx hZ hown (ww13 hw) (ww14 hw) (ww15 hw) e60 (g := (mkF m 27 ls62 [])) rfl (B at_27) (by decide) (by decide)
    obtain ⟨b63, g63⟩ : ∃ z, z = h0.size := ⟨_, rfl⟩
    rw [← g63] at A63 D63 st63
    have ge_b63 : n0 ≤ b63 := Nat.le_trans (own_old_le O0) (Nat.le_of_eq g63.symm)
    have O63 := O0.ext E63
    have F63_kind : Fld Z h63 b63 cn_0 "kind" cn_4 .null := D63 (Or.inr (ww28 hw)) (ty := (.object cn_1)) (by decide)
    have F63_length : Fld Z h63 b63 cn_0 "length" "I" (.int 0) := D63 (Or.inr (ww30 hw)) (ty := .int) (by decide)
    refine step st63 ?_
    refine step (fun t k => XS.dup X63.here hx rfl (B at_30) rfl rfl k) ?_
    refine step (fun t k => XS.aloadN X63.here hx rfl (B at_31) (by rw [hls62]; rfl) rfl k) ?_
    refine step (fun t k => XS.bipush X63.here hx rfl (B at_32) k) ?_
    show G T63 (mkF m 34 ls62 [(.int 11), (.ref w_3), (.ref b63), (.ref b63)])
    have hK64 := (backOf (R := room_1) (p := p) (e := e) (below := below) (s := s) (args := #[(.int p0), (.int p1)]) (len := 3) (W := 1) (rm_ct l Z a0 hw [] w_0 w_1 w_2 w_3 w_4 w_5 w_6 w_7 w_8 b63 w_3 (11 : Int32) h63 n0 (own_old_le O63) ST O63 A63 ge_b63 F63_kind F63_length) hZ (ww18 hw) (ww15 hw) (by decide) (by decide))
    obtain ⟨_, _, ⟨T64, L64, k64, n64⟩, -, X64, ⟨Lc64, hQ64, l64, y64, z64⟩, st64⟩ := X63.specialBack hx (y := y_4) rfl hown (mvT hZ (ww16 hw)) (mvT hZ (ww17 hw)) (mvT hZ (ww18 hw)) (by decide) hK64 (g := (mkF m 34 ls62 [(.int 11), (.ref w_3), (.ref b63), (.ref b63)])) rfl (by rw [hml, hls62]; rfl) (Steps.refl _) (a := b63) (argsL := [(.ref w_3), (.int 11)]) (rest := [(.ref b63)]) (lenOf pd_25 rfl) rfl (by show 2 * 0 + _ ≤ _; exact Nat.le_of_eq rfl) (B at_34) (fun _ _ => ⟨rfl, e63, (by decide : 1 + 0 ≤ _), (by decide : 2 + 0 ≤ _)⟩)
    dsimp only [Pt.U, Pt.locs, Pt.cells, Pt.slots] at X64 l64 y64 z64 st64 hQ64
    subst l64 y64 z64
    obtain ⟨rfl, N64q, K64q, Y64_0, Y64_1, Y64_2⟩ := hQ64
    have N64 := Fr.app N60 N64q
    obtain ⟨lc64, X64, N64⟩ := own_gen X64 N64
    have O64 := O63.keep K64q (allS ge_b63 all0)
    refine step (fun t k => st64.trans k) ?_
    refine step (fun t k => XS.iloadN X64.here hx rfl (B at_37) (by rw [hls62]; rfl) k) ?_
    refine step (fun t k => XS.i2l X64.here hx rfl (B at_38) rfl k) ?_
    have hK65 := (backOf (R := room_1) (p := p) (e := e) (below := below) (s := s) (args := #[(.int p0), (.int p1)]) (len := 3) (W := 1) (rm_vo l Z a0 hw [] w_0 w_1 w_2 w_3 w_4 w_5 w_6 w_7 w_8 (p1.toInt64) T64.heap n0 (own_old_le O64) ST O64) hZ (ww34 hw) (ww33 hw) (by decide) (by decide))
    obtain ⟨_, _, ⟨T65, L65, k65, n65⟩, -, X65, ⟨Lc65, hQ65, l65, y65, z65⟩, st65⟩ := Jvm.LawKit.callS X64 hx (y := y_6) hown (mvT hZ (ww31 hw)) (mvT hZ (ww32 hw)) (mvT hZ (ww33 hw)) (mvT hZ (ww34 hw)) (by decide) hK65 (g := (mkF m 39 ls62 [(.long (p1.toInt64)), (.ref b63)])) rfl (by rw [hml, hls62]; rfl) (argsL := [(.long (p1.toInt64))]) (rest := [(.ref b63)]) (lenOf pd_3 rfl) rfl (by show 2 * 0 + _ ≤ _; exact Nat.le_of_eq rfl) (B at_39) (fun _ _ => ⟨rfl, rfl, (by decide : 1 + 1 ≤ _), (by decide : 2 + 1 ≤ _)⟩)
    dsimp only [Pt.U, Pt.locs, Pt.cells, Pt.slots] at X65 l65 y65 z65 st65 hQ65
    subst l65 y65 z65
    obtain ⟨b65, rfl, N65q, K65q, Y65_0, Y65_1⟩ := hQ65
    have N65 := Fr.app N64 N65q
    obtain ⟨lc65, X65, N65⟩ := own_gen X65 N65
    have O65 := O64.keep K65q all0
    refine step (fun t k => st65 t k) ?_
    have f67 := (Exa.keep Y64_0 K65q)
    have f68 := (Fld.keep Y64_1 K65q nin0)
    have f69 := (Fld.keep Y64_2 K65q nin0)
    have hK66 := (backOf (R := room_1) (p := p) (e := e) (below := below) (s := s) (args := #[(.int p0), (.int p1)]) (len := 3) (W := 0) (rm_sto3 l Z a0 hw [] w_0 w_1 w_2 w_3 w_4 w_5 w_6 w_7 w_8 b63 b65 (p1.toInt64) T65.heap n0 (own_old_le O65) ST O65 f67 f68 f69 Y65_0 Y65_1 (own_rg p1) ((own_rt p1) : (p1.toInt64) = (((p1.toInt64).toInt32).toInt64))) hZ (ww43 hw) (ww15 hw) (by decide) (by decide))
    obtain ⟨cq66, kq66, q66a, q66b, q66c⟩ := isOf hZ rfl f67
    obtain ⟨_, _, ⟨T66, L66, k66, n66⟩, -, X66, ⟨Lc66, hQ66, l66, y66, z66⟩, st66⟩ := X65.virtualBack hx (y := y_32) (z := y_32) hown (mvT hZ (ww39 hw)) (mvT hZ (ww40 hw)) (notFace_of_selects (args := #[]) (mvT hZ (ww42 hw))) (mvT hZ (ww42 hw)) (mvT hZ (ww41 hw)) (by decide) hK66 q66a q66c (g := (mkF m 42 ls62 [(.ref b65), (.ref b63)])) rfl (by rw [hml, hls62]; rfl) (Steps.refl _) (argsL := [(.ref b65)]) (rest := []) (lenOf pd_26 rfl) rfl (by show 2 * 0 + _ ≤ _; exact Nat.le_of_eq rfl) (B at_42) (fun _ _ => ⟨rfl, rfl, (by decide : 2 + 2 ≤ _), (by decide : 3 + 15 ≤ _)⟩)
    dsimp only [Pt.U, Pt.locs, Pt.cells, Pt.slots] at X66 l66 y66 z66 st66 hQ66
    subst l66 y66 z66
    obtain ⟨b66, rfl, N66q, K66q, Y66_0⟩ := hQ66
    have N66 := Fr.app N65 N66q
    obtain ⟨lc66, X66, N66⟩ := own_gen X66 N66
    refine step (fun t k => st66.trans k) ?_
    obtain ⟨ls70, hls70⟩ := own_sl #[vI p0, vI p1, vI 3, vR w_3, vI 0, vI 0, vR b66, u_]
    refine step (fun t k => XS.astore X66.here hx rfl (B at_45) rfl rfl (l' := ls70) (by rw [hls62, hls70]; rfl) k) ?_
    refine step (fun t k => XS.aload X66.here hx rfl (B at_47) (by rw [hls70]; rfl) rfl k) ?_
    obtain ⟨T71, X71, e71, st71⟩ := instNo X66 hx hZ hown (ww69 hw) rfl Y66_0 (own_nosub (ww169 hw) (ww170 hw) (ww172 hw) (by decide) (by decide)) (g := (mkF m 49 ls70 [(.ref b66)])) rfl rfl (B at_49)
    refine step st71 ?_
    obtain ⟨ls72, hls72⟩ := own_sl #[vI p0, vI p1, vI 3, vR w_3, vI 0, vI 0, vR b66, vI 0]
    refine step (fun t k => XS.istore X71.here hx rfl (B at_52) rfl (l' := ls72) (by rw [hls70, hls72]; rfl) k) ?_
    refine step (fun t k => XS.iload X71.here hx rfl (B at_54) (by rw [hls72]; rfl) k) ?_
    refine step (fun t k => XS.iload X71.here hx rfl (B at_56) (by rw [hls72]; rfl) k) ?_
    refine step (fun t k => XS.icmpNo X71.here hx rfl (B at_58) rfl (teq (by decide : (0 : Int32) = (0 : Int32))).2 k) ?_
    refine step (fun t k => XS.iload X71.here hx rfl (B at_61) (by rw [hls72]; rfl) k) ?_
    show G T71 (mkF m 63 ls72 [(.int 0)])
    refine step (fun t k => XS.iload X71.here hx rfl (B at_63) (by rw [hls72]; rfl) k) ?_
    refine step (fun t k => XS.icmpNo X71.here hx rfl (B at_65) rfl (teq (by decide : (0 : Int32) = (0 : Int32))).2 k) ?_
    refine step (fun t k => XS.iconst X71.here hx rfl (B at_68) k) ?_
    refine step (fun t k => XS.goto X71.here hx rfl (pc0 := 69) (pc' := 73) rfl (B at_69) (by decide) (by decide) k) ?_
    exact ret (v := some (.int 1)) X71 (fun h => by rw [Bd.returns] at h; cases h) (fun fs hr => retN X71 hx (t := .boolean) Bd.returns (by simp) (B at_73) hr) e71 ⟨rfl, N66⟩ (by decide) (by decide)
theorem comes_1 {Post : Tables → Env → Array Value → State → Outcome → State → Prop} (hpost : ∀ tb e args s v u, (limb_1_1.after args s (.returned v) u = true ∧ limb_1_2.after args s (.returned v) u = true ∧ True) → FrameEnd s (.returned v) u (Jvm.fieldLocs frame_1_writes args s ++ Jvm.arrayLocs frame_1_arrays args s ++ Jvm.staticLocs frame_1_statics s) 16 128 → Post tb e args s (.returned v) u) :
    ArmFor flags0 classFile x code maxLocals ret World_1 tables_1 room_1 Calls_1 rest_1 Pre_1 Post := by
  intro l hfl _ _ p e ha hc hk s m args below hf hA hF happ hP
  obtain ⟨hcalls, hrest, hpre⟩ := hP
  obtain ⟨-, -, -, hnamed, -, -, -, hat⟩ := (Spec.applies_iff hf).mp happ
  obtain ⟨hg, hn⟩ := and_e (Cond.before_iff.mp (show (Jvm.Cond.and given_1 narrow_1).before args s = true from hpre))
  obtain ⟨g1a, g1b⟩ := and_e hg
  obtain ⟨g2a, g2b⟩ := and_e g1b
  obtain ⟨w0, w1, rfl⟩ : ∃ w0 w1 : Value, args = #[w0, w1] := by
    have hs : args.size = 2 := by simpa [Cond.value, given_1] using g1a
    obtain ⟨L⟩ := args
    match L, hs with
    | [w0, w1], _ => exact ⟨w0, w1, rfl⟩
  have hw := fun d (hd : d ∈ tables_1) => atoms_spec (ws := Jvm.Cond.code x code maxLocals ret :: tables_1) hat d (List.mem_cons_of_mem _ hd)
  have hfit : Fit s := fun {y c} hc i hi => by
    obtain ⟨ha, rfl⟩ := Array.getElem?_eq_some_iff.mp hc
    have q := List.all_eq_true.mp ((Array.all_eq_true_iff_forall_mem.mp hF) _ (Array.getElem_mem ha)) i (List.mem_range.mpr hi)
    simpa [Array.getElem?_eq_getElem hi] using q
  obtain ⟨hsets, hown0⟩ := atoms_of _ (rest_1_c_eq ▸ (show rest_1_c.before _ s = true from hrest))
  obtain ⟨i0, ei0⟩ := is_v g2a
  obtain rfl : w0 = (.int i0) := Option.some.inj ei0
  obtain ⟨i1, ei1⟩ := is_v g2b
  obtain rfl : w1 = (.int i1) := Option.some.inj ei1
  obtain ⟨k1a, k1b⟩ := and_e hn
  obtain ⟨k2a, k2b⟩ := and_e k1b
  obtain ⟨k3a, k3b⟩ := and_e k2b
  obtain ⟨k4a, k4b⟩ := and_e k3b
  obtain ⟨k5a, k5b⟩ := and_e k4b
  obtain ⟨k6a, k6b⟩ := and_e k5b
  obtain ⟨k7a, k7b⟩ := and_e k6b
  obtain ⟨w_0, ev_INT⟩ := exa_v k1a
  obtain ⟨w_1, ev_CHAR⟩ := exa_v k3a
  obtain ⟨w_2, ev_BIGINT⟩ := exa_v k5a
  obtain ⟨w_3, ev_VARCHAR⟩ := exa_v k7a
  obtain ⟨w_4, ev_cache⟩ := exa_v (Cond.before_iff.mp (hsets _ (List.mem_of_getElem? (i := 3) rfl)))
  obtain ⟨w_5, ev_DigitOnes⟩ := exa_v (Cond.before_iff.mp (hsets _ (List.mem_of_getElem? (i := 18) rfl)))
  obtain ⟨w_6, ev_DigitTens⟩ := exa_v (Cond.before_iff.mp (hsets _ (List.mem_of_getElem? (i := 23) rfl)))
  obtain ⟨w_7, ev_COMPACT_STRINGS⟩ := is_v (Cond.before_iff.mp (hsets _ (List.mem_of_getElem? (i := 7) rfl)))
  obtain ⟨w_8, ev_SIOOBE_FORMATTER, rf_SIOOBE_FORMATTER⟩ := isR_v (Cond.before_iff.mp (hsets _ (List.mem_of_getElem? (i := 14) rfl)))
  obtain ⟨c_cache, A_cache⟩ := Arr.start ev_cache (Cond.before_iff.mp (hsets _ (List.mem_of_getElem? (i := 2) rfl)))
  obtain ⟨l1_cache, l2_cache⟩ := own_lenI ev_cache A_cache (Cond.before_iff.mp (hsets _ (List.mem_of_getElem? (i := 4) rfl)))
  have BX : Bxs s w_4 c_cache cn_3 "J" (256 : Int32) (fun j => .long (j - (128 : Int32)).toInt64) := Bxs.start (fun _ => ev_cache) A_cache l1_cache l2_cache (by decide) (Cond.before_iff.mp (hsets _ (List.mem_of_getElem? (i := 5) rfl))) (fun X j nn q => eqv_l (i2l_at (by simp [Term.eval, (back32 nn).1])) q)
  have DG_DigitOnes : own_Dig s w_5 := own_digS (fun _ => ev_DigitOnes) (Cond.before_iff.mp (hsets _ (List.mem_of_getElem? (i := 18) rfl))) (ww93 hw) (Cond.before_iff.mp (hsets _ (List.mem_of_getElem? (i := 19) rfl))) (Cond.before_iff.mp (hsets _ (List.mem_of_getElem? (i := 20) rfl))) (fun j h0 h1 => own_remF j h0 h1)
  have DG_DigitTens : own_Dig s w_6 := own_digS (fun _ => ev_DigitTens) (Cond.before_iff.mp (hsets _ (List.mem_of_getElem? (i := 23) rfl))) (ww93 hw) (Cond.before_iff.mp (hsets _ (List.mem_of_getElem? (i := 24) rfl))) (Cond.before_iff.mp (hsets _ (List.mem_of_getElem? (i := 25) rfl))) (fun j h0 h1 => own_divF j h0 h1)
  obtain ⟨n, o, h1, h2, h3, _, L, rfl, ⟨rfl, N⟩, hq⟩ := rm_law l s _ hw tables_1 w_0 w_1 w_2 w_3 w_4 w_5 w_6 w_7 w_8 i0 i1 s.heap s.heap.size (Nat.le_refl _) ⟨Sta.start ev_INT (Or.inr ⟨(ww5 hw), (ww6 hw)⟩), Exa.start ev_INT k1a, Sta.start ev_CHAR (Or.inr ⟨(ww5 hw), (ww71 hw)⟩), Exa.start ev_CHAR k3a, Sta.start ev_BIGINT (Or.inr ⟨(ww5 hw), (ww73 hw)⟩), Exa.start ev_BIGINT k5a, Sta.start ev_VARCHAR (Or.inr ⟨(ww5 hw), (ww187 hw)⟩), Exa.start ev_VARCHAR k7a, Sta.start ev_cache (Or.inl (hsets _ (List.mem_of_getElem? (i := 1) rfl))), Exa.start ev_cache (Cond.before_iff.mp (hsets _ (List.mem_of_getElem? (i := 3) rfl))), Sta.start ev_DigitOnes (Or.inl (hsets _ (List.mem_of_getElem? (i := 17) rfl))), Exa.start ev_DigitOnes (Cond.before_iff.mp (hsets _ (List.mem_of_getElem? (i := 18) rfl))), Sta.start ev_DigitTens (Or.inl (hsets _ (List.mem_of_getElem? (i := 22) rfl))), Exa.start ev_DigitTens (Cond.before_iff.mp (hsets _ (List.mem_of_getElem? (i := 23) rfl))), own_fldI ev_INT k2a, own_fldI ev_CHAR k4a, own_fldI ev_BIGINT k6a, own_fldI ev_VARCHAR k7b, Sta.start ev_COMPACT_STRINGS (Or.inl (hsets _ (List.mem_of_getElem? (i := 6) rfl))), Sta.start ev_SIOOBE_FORMATTER (Or.inl (hsets _ (List.mem_of_getElem? (i := 13) rfl))), rf_SIOOBE_FORMATTER, own_nz ev_COMPACT_STRINGS (Cond.before_iff.mp (hsets _ (List.mem_of_getElem? (i := 8) rfl))), ⟨_, BX⟩, DG_DigitOnes, DG_DigitTens⟩ (Old.start s)  p e ha hc hk s m _ below hf ((Spec.applies_iff_loose hf).mp happ).1 ⟨rfl, State.Warmed39.refl s, rfl⟩ trivial
  refine ⟨n, _, h1, h2, h3, hpost _ _ _ _ _ _ ⟨Cond.after_iff.mpr rfl, Cond.after_iff.mpr (eq_i res_at (Term.int_eval (1)) rfl), trivial⟩ ⟨hq.1, hq.2.1, (hq.2.2.sift fun y hy => Or.inr (N y hy)).mono (by decide) (by decide)⟩⟩
theorem main_1_1 : Claimed_1_1 := comes_1 fun _ _ _ _ _ _ h hF => ⟨h.1, hF⟩
theorem main_1_2 : Claimed_1_2 := comes_1 fun _ _ _ _ _ _ h hF => ⟨h.2.1, hF⟩
end Jvm.Pilot.@@N@@
namespace Jvm.Pilot.@@N@@
open Jvm Jvm.ClassFile Sem Op Lib Jvm.Free Jvm.Stand Jvm.Pilot.@@N@@.Jvm.D
/-! MADE BY PROGRAM (witnessworld.py) out of the Statement's table words and the real class files: 26 classes; the members and pool entries that the words name. The judged class is class 1, her method 2. -/
namespace start1
open Jvm.ClassFile
def u (s : String) : CpInfo := .utf8 (stringToUtf16 s)
/-- a pool by its gaps: so many unusable entries, then the entry; so many at the end -/
def gap : Nat → List CpInfo → List CpInfo
  | 0, r => r
  | n + 1, r => .unusable :: gap n r
def poolList (es : List (Nat × CpInfo)) (last : Nat) : List CpInfo := es.foldr (fun e r => gap e.1 (e.2 :: r)) (gap last [])
def pool (es : List (Nat × CpInfo)) (last : Nat) : Array CpInfo := ⟨poolList es last⟩
def fileOf (pool : Array CpInfo) (this : Nat) (attrs : Array Attribute := #[]) (ms : Array MethodInfo := #[]) (fl : Nat := 33) (sup : Nat := 0) (ifs : Array Nat := #[]) (fds : Array FieldInfo := #[]) : ClassFile where
  minorVersion := 0
  majorVersion := 65
  constantPool := pool
  accessFlags := fl
  thisClass := this
  superClass := sup
  interfaces := ifs
  fields := fds
  methods := ms
  attributes := attrs
def plain (name : String) (sup : Option ClassId) : Class where
  name := name
  kind := .ordinary
  loader := none
  accessFlags := 33
  super := sup
  interfaces := #[]
  cf := none
  fields := #[]
  methods := #[]
  instanceTypes := #[]
  staticTypes := #[]
  resolved := #[]
  callSites := []
  init := .initialized
  statics := none
  mirror := none

def pool0 : Array CpInfo := pool [(5, u "<init>"), (0, u "()V"), (1, .class_ 10), (1, u "java/lang/Object"), (7, u "()Ljava/lang/String;"), (18, u "toString")] 86

def k0c0 : Code := { maxStack := 0, maxLocals := 1, code := object_method_1_code, exceptionTable := #[], attributes := #[] }
def k0m0 : Method := { name := "<init>", desc := "()V", sig := { parameters := [], returnType := none }, accessFlags := 1, code := some k0c0 }
def k0c1 : Code := { maxStack := 2, maxLocals := 1, code := ⟨#[0xbb, 0x00, 0x01, 0x59, 0xb7, 0x00, 0x03, 0x2a, 0xb6, 0x00, 0x07, 0xb6, 0x00, 0x0d, 0xb6, 0x00, 0x13, 0x12, 0x17, 0xb6, 0x00, 0x13, 0x2a, 0xb6, 0x00, 0x19, 0xb8, 0x00, 0x1d, 0xb6, 0x00, 0x13, 0xb6, 0x00, 0x23, 0xb0]⟩, exceptionTable := #[], attributes := #[] }
def k0m1 : Method := { name := "toString", desc := "()Ljava/lang/String;", sig := { parameters := [], returnType := some (.object "java/lang/String") }, accessFlags := 1, code := some k0c1 }
/-- java/lang/Object -/
def k0 : Class := { plain "java/lang/Object" none with
  accessFlags := 33
  interfaces := #[]
  cf := some (fileOf pool0 8 #[] #[{ accessFlags := 1, nameIndex := 5, descriptorIndex := 6, attributes := #[] }, { accessFlags := 1, nameIndex := 37, descriptorIndex := 18, attributes := #[] }] 33 0 #[] #[])
  fields := #[]
  methods := #[k0m0, k0m1]
  instanceTypes := #[]
  staticTypes := #[]
  resolved := Array.replicate 124 none
  statics := none }

def pool1 : Array CpInfo := pool [(2, .class_ 4), (1, u "java/lang/Object"), (0, u "<init>"), (0, u "()V"), (0, .fieldref 8 9), (0, .class_ 10), (0, .nameAndType 11 12), (0, u "com/example/gapstone/gapstone/ColumnType$Kind"), (0, u "INT"), (0, u "Lcom/example/gapstone/gapstone/ColumnType$Kind;"), (0, .fieldref 8 14), (0, .nameAndType 15 12), (0, u "BIGINT"), (0, .fieldref 8 17), (0, .nameAndType 18 12), (0, u "CHAR"), (0, .fieldref 8 20), (0, .nameAndType 21 12), (0, u "VARCHAR"), (0, .methodref 23 24), (0, .class_ 25), (0, .nameAndType 26 27), (0, u "com/example/gapstone/gapstone/KindIntegerPinLaw"), (0, u "pick"), (0, u "(I)Lcom/example/gapstone/gapstone/ColumnType$Kind;"), (0, .methodref 8 29), (0, .nameAndType 30 31), (0, u "integer"), (0, u "()Z"), (0, .class_ 33), (0, u "com/example/gapstone/gapstone/ColumnType"), (0, .methodref 32 35), (0, .nameAndType 5 36), (0, u "(Lcom/example/gapstone/gapstone/ColumnType$Kind;I)V"), (0, .methodref 38 39), (0, .class_ 40), (0, .nameAndType 41 42), (0, u "java/lang/Long"), (0, u "valueOf"), (0, u "(J)Ljava/lang/Long;"), (0, .methodref 32 44), (0, .nameAndType 45 46), (0, u "store"), (0, u "(Ljava/lang/Object;)Ljava/lang/Object;"), (3, u "law"), (0, u "(II)Z")] 7

def k1m0 : Method := { name := "<init>", desc := "()V", sig := { parameters := [], returnType := none }, accessFlags := 2, code := none }
def k1c1 : Code := { maxStack := 2, maxLocals := 1, code := method_2_code, exceptionTable := #[], attributes := #[] }
def k1m1 : Method := { name := "pick", desc := "(I)Lcom/example/gapstone/gapstone/ColumnType$Kind;", sig := { parameters := [.int], returnType := some (.object "com/example/gapstone/gapstone/ColumnType$Kind") }, accessFlags := 10, code := some k1c1 }
def k1c2 : Code := { maxStack := 4, maxLocals := 8, code := code, exceptionTable := #[], attributes := #[] }
def k1m2 : Method := { name := "law", desc := "(II)Z", sig := { parameters := [.int, .int], returnType := some .boolean }, accessFlags := 9, code := some k1c2 }
/-- com/example/gapstone/gapstone/KindIntegerPinLaw -/
def k1 : Class := { plain "com/example/gapstone/gapstone/KindIntegerPinLaw" (some 0) with
  accessFlags := 49
  interfaces := #[]
  cf := some (fileOf pool1 23 #[] #[{ accessFlags := 2, nameIndex := 5, descriptorIndex := 6, attributes := #[] }, { accessFlags := 10, nameIndex := 26, descriptorIndex := 27, attributes := #[] }, { accessFlags := 9, nameIndex := 50, descriptorIndex := 51, attributes := #[] }] 49 2 #[] #[])
  fields := #[]
  methods := #[k1m0, k1m1, k1m2]
  instanceTypes := #[]
  staticTypes := #[]
  resolved := Array.replicate 59 none
  statics := none }

def pool2 : Array CpInfo := pool [(1, .class_ 2), (0, u "java/lang/constant/Constable"), (0, .class_ 4), (0, u "java/lang/Object")] 6

/-- java/lang/constant/Constable -/
def k2 : Class := { plain "java/lang/constant/Constable" (some 0) with
  accessFlags := 1537
  interfaces := #[]
  cf := some (fileOf pool2 1 #[] #[] 1537 3 #[] #[])
  fields := #[]
  methods := #[]
  instanceTypes := #[]
  staticTypes := #[]
  resolved := Array.replicate 11 none
  statics := none }

def pool3 : Array CpInfo := pool [(1, .class_ 2), (0, u "java/lang/Comparable"), (0, .class_ 4), (0, u "java/lang/Object")] 7

/-- java/lang/Comparable -/
def k3 : Class := { plain "java/lang/Comparable" (some 0) with
  accessFlags := 1537
  interfaces := #[]
  cf := some (fileOf pool3 1 #[] #[] 1537 3 #[] #[])
  fields := #[]
  methods := #[]
  instanceTypes := #[]
  staticTypes := #[]
  resolved := Array.replicate 12 none
  statics := none }

def pool4 : Array CpInfo := pool [(1, .class_ 2), (0, u "java/io/Serializable"), (0, .class_ 4), (0, u "java/lang/Object")] 2

/-- java/io/Serializable -/
def k4 : Class := { plain "java/io/Serializable" (some 0) with
  accessFlags := 1537
  interfaces := #[]
  cf := some (fileOf pool4 1 #[] #[] 1537 3 #[] #[])
  fields := #[]
  methods := #[]
  instanceTypes := #[]
  staticTypes := #[]
  resolved := Array.replicate 7 none
  statics := none }

def pool5 : Array CpInfo := pool [(2, .class_ 4), (1, u "java/lang/Enum"), (0, u "name"), (0, u "Ljava/lang/String;"), (0, .fieldref 2 8), (0, .nameAndType 9 10), (0, u "ordinal"), (0, u "I"), (1, .class_ 14), (1, u "java/lang/Object"), (4, u "hash"), (86, .class_ 108), (1, u "java/lang/Enum$EnumDesc"), (2, .class_ 112), (0, u "java/lang/constant/Constable"), (0, .class_ 114), (0, u "java/lang/Comparable"), (0, .class_ 116), (0, u "java/io/Serializable"), (9, u "()I")] 77

def k5c0 : Code := { maxStack := 1, maxLocals := 1, code := jdk_37_method_2_code, exceptionTable := #[], attributes := #[] }
def k5m0 : Method := { name := "ordinal", desc := "()I", sig := { parameters := [], returnType := some .int }, accessFlags := 17, code := some k5c0 }
/-- java/lang/Enum -/
def k5 : Class := { plain "java/lang/Enum" (some 0) with
  accessFlags := 1057
  interfaces := #[2, 3, 4]
  cf := some (fileOf pool5 2 #[.nestMembers #[106]] #[{ accessFlags := 17, nameIndex := 9, descriptorIndex := 126, attributes := #[] }] 1057 12 #[111, 113, 115] #[{ accessFlags := 18, nameIndex := 5, descriptorIndex := 6, attributes := #[] }, { accessFlags := 18, nameIndex := 9, descriptorIndex := 10, attributes := #[] }, { accessFlags := 2, nameIndex := 19, descriptorIndex := 10, attributes := #[] }])
  fields := #[{ name := "name", type := (.object "java/lang/String"), accessFlags := 18, slot := 0, constantValue := 0 }, { name := "ordinal", type := .int, accessFlags := 18, slot := 1, constantValue := 0 }, { name := "hash", type := .int, accessFlags := 2, slot := 2, constantValue := 0 }]
  methods := #[k5m0]
  instanceTypes := #[(.object "java/lang/String"), .int, .int]
  staticTypes := #[]
  resolved := Array.replicate 204 none
  statics := none }

def pool6 : Array CpInfo := pool [(1, .class_ 2), (0, u "com/example/gapstone/gapstone/ColumnType$Kind"), (0, .fieldref 1 4), (0, .nameAndType 5 6), (0, u "INT"), (0, u "Lcom/example/gapstone/gapstone/ColumnType$Kind;"), (0, .fieldref 1 8), (0, .nameAndType 9 6), (0, u "BIGINT"), (2, u "CHAR"), (2, u "VARCHAR"), (2, u "$VALUES"), (0, u "[Lcom/example/gapstone/gapstone/ColumnType$Kind;"), (6, .class_ 28), (1, u "java/lang/Enum"), (22, u "integer"), (0, u "()Z"), (6, .class_ 60), (0, u "com/example/gapstone/gapstone/ColumnType")] 2

def k6c0 : Code := { maxStack := 2, maxLocals := 1, code := prog_3_method_4_code, exceptionTable := #[], attributes := #[] }
def k6m0 : Method := { name := "integer", desc := "()Z", sig := { parameters := [], returnType := some .boolean }, accessFlags := 0, code := some k6c0 }
/-- com/example/gapstone/gapstone/ColumnType$Kind -/
def k6 : Class := { plain "com/example/gapstone/gapstone/ColumnType$Kind" (some 5) with
  accessFlags := 16432
  interfaces := #[]
  cf := some (fileOf pool6 1 #[.nestHost 59] #[{ accessFlags := 0, nameIndex := 51, descriptorIndex := 52, attributes := #[] }] 16432 26 #[] #[{ accessFlags := 16409, nameIndex := 5, descriptorIndex := 6, attributes := #[] }, { accessFlags := 16409, nameIndex := 9, descriptorIndex := 6, attributes := #[] }, { accessFlags := 16409, nameIndex := 12, descriptorIndex := 6, attributes := #[] }, { accessFlags := 16409, nameIndex := 15, descriptorIndex := 6, attributes := #[] }, { accessFlags := 4122, nameIndex := 18, descriptorIndex := 19, attributes := #[] }])
  fields := #[{ name := "INT", type := (.object "com/example/gapstone/gapstone/ColumnType$Kind"), accessFlags := 16409, slot := 0, constantValue := 0 }, { name := "BIGINT", type := (.object "com/example/gapstone/gapstone/ColumnType$Kind"), accessFlags := 16409, slot := 1, constantValue := 0 }, { name := "CHAR", type := (.object "com/example/gapstone/gapstone/ColumnType$Kind"), accessFlags := 16409, slot := 2, constantValue := 0 }, { name := "VARCHAR", type := (.object "com/example/gapstone/gapstone/ColumnType$Kind"), accessFlags := 16409, slot := 3, constantValue := 0 }, { name := "$VALUES", type := (.array (.object "com/example/gapstone/gapstone/ColumnType$Kind")), accessFlags := 4122, slot := 4, constantValue := 0 }]
  methods := #[k6m0]
  instanceTypes := #[(.object "java/lang/String"), .int, .int]
  staticTypes := #[(.object "com/example/gapstone/gapstone/ColumnType$Kind"), (.object "com/example/gapstone/gapstone/ColumnType$Kind"), (.object "com/example/gapstone/gapstone/ColumnType$Kind"), (.object "com/example/gapstone/gapstone/ColumnType$Kind"), (.array (.object "com/example/gapstone/gapstone/ColumnType$Kind"))]
  resolved := Array.replicate 63 none
  statics := some 0 }

def pool7 : Array CpInfo := pool [(1, .methodref 2 3), (0, .class_ 4), (0, .nameAndType 5 6), (0, u "java/lang/Object"), (0, u "<init>"), (0, u "()V"), (0, .class_ 8), (0, u "java/lang/Record")] 13

def k7c0 : Code := { maxStack := 1, maxLocals := 1, code := jdk_30_method_1_code, exceptionTable := #[], attributes := #[] }
def k7m0 : Method := { name := "<init>", desc := "()V", sig := { parameters := [], returnType := none }, accessFlags := 4, code := some k7c0 }
/-- java/lang/Record -/
def k7 : Class := { plain "java/lang/Record" (some 0) with
  accessFlags := 1057
  interfaces := #[]
  cf := some (fileOf pool7 7 #[] #[{ accessFlags := 4, nameIndex := 5, descriptorIndex := 6, attributes := #[] }] 1057 2 #[] #[])
  fields := #[]
  methods := #[k7m0]
  instanceTypes := #[]
  staticTypes := #[]
  resolved := Array.replicate 22 none
  statics := none }

def pool8 : Array CpInfo := pool [(1, .methodref 2 3), (0, .class_ 4), (0, .nameAndType 5 6), (0, u "java/lang/Record"), (0, u "<init>"), (0, u "()V"), (0, .fieldref 8 9), (0, .class_ 10), (0, .nameAndType 11 12), (0, u "com/example/gapstone/gapstone/ColumnType"), (0, u "kind"), (0, u "Lcom/example/gapstone/gapstone/ColumnType$Kind;"), (0, .fieldref 8 14), (0, .nameAndType 15 16), (0, u "length"), (0, u "I"), (0, .methodref 18 19), (0, .class_ 20), (0, .nameAndType 21 22), (0, u "com/example/gapstone/gapstone/ColumnType$Kind"), (0, u "ordinal"), (0, u "()I"), (5, .methodref 8 29), (0, .nameAndType 30 31), (0, u "integer"), (0, u "(Ljava/lang/Object;)J"), (0, .methodref 8 33), (0, .nameAndType 34 35), (0, u "asInt"), (0, u "(J)Ljava/lang/Long;"), (0, .methodref 37 38), (0, .class_ 39), (0, .nameAndType 40 35), (0, u "java/lang/Long"), (0, u "valueOf"), (0, .methodref 8 42), (0, .nameAndType 43 44), (0, u "text"), (0, u "(Ljava/lang/Object;)Ljava/lang/String;"), (0, .methodref 8 46), (0, .nameAndType 47 48), (0, u "stripTrailingSpaces"), (0, u "(Ljava/lang/String;)Ljava/lang/String;"), (0, .methodref 37 50), (0, .nameAndType 51 52), (0, u "longValue"), (0, u "()J"), (0, .class_ 54), (0, u "java/lang/String"), (3, u "()Ljava/lang/String;"), (21, .methodref 81 82), (0, .class_ 83), (0, .nameAndType 84 58), (0, u "java/lang/Object"), (0, u "toString"), (0, .methodref 53 86), (0, .nameAndType 15 22), (0, .methodref 53 88), (0, .nameAndType 89 90), (0, u "codePointCount"), (0, u "(II)I"), (5, u "substring"), (13, .methodref 53 111), (0, .nameAndType 96 112), (0, u "(II)Ljava/lang/String;"), (0, .methodref 53 114), (0, .nameAndType 115 116), (0, u "charAt"), (0, u "(I)C"), (11, u "(Lcom/example/gapstone/gapstone/ColumnType$Kind;I)V"), (3, u "store"), (0, u "(Ljava/lang/Object;)Ljava/lang/Object;")] 37

def k8c0 : Code := { maxStack := 2, maxLocals := 3, code := prog_2_method_1_code, exceptionTable := #[], attributes := #[] }
def k8m0 : Method := { name := "<init>", desc := "(Lcom/example/gapstone/gapstone/ColumnType$Kind;I)V", sig := { parameters := [(.object "com/example/gapstone/gapstone/ColumnType$Kind"), .int], returnType := none }, accessFlags := 0, code := some k8c0 }
def k8c1 : Code := { maxStack := 4, maxLocals := 2, code := prog_2_method_2_code, exceptionTable := #[], attributes := #[] }
def k8m1 : Method := { name := "store", desc := "(Ljava/lang/Object;)Ljava/lang/Object;", sig := { parameters := [(.object "java/lang/Object")], returnType := some (.object "java/lang/Object") }, accessFlags := 0, code := some k8c1 }
def k8c2 : Code := { maxStack := 2, maxLocals := 1, code := prog_2_method_3_code, exceptionTable := #[], attributes := #[] }
def k8m2 : Method := { name := "integer", desc := "(Ljava/lang/Object;)J", sig := { parameters := [(.object "java/lang/Object")], returnType := some .long }, accessFlags := 8, code := some k8c2 }
def k8c3 : Code := { maxStack := 5, maxLocals := 2, code := prog_2_method_4_code, exceptionTable := #[], attributes := #[] }
def k8m3 : Method := { name := "asInt", desc := "(J)Ljava/lang/Long;", sig := { parameters := [.long], returnType := some (.object "java/lang/Long") }, accessFlags := 10, code := some k8c3 }
def k8c4 : Code := { maxStack := 6, maxLocals := 5, code := prog_2_method_5_code, exceptionTable := #[], attributes := #[] }
def k8m4 : Method := { name := "text", desc := "(Ljava/lang/Object;)Ljava/lang/String;", sig := { parameters := [(.object "java/lang/Object")], returnType := some (.object "java/lang/String") }, accessFlags := 2, code := some k8c4 }
def k8c5 : Code := { maxStack := 3, maxLocals := 2, code := prog_2_method_6_code, exceptionTable := #[], attributes := #[] }
def k8m5 : Method := { name := "stripTrailingSpaces", desc := "(Ljava/lang/String;)Ljava/lang/String;", sig := { parameters := [(.object "java/lang/String")], returnType := some (.object "java/lang/String") }, accessFlags := 10, code := some k8c5 }
/-- com/example/gapstone/gapstone/ColumnType -/
def k8 : Class := { plain "com/example/gapstone/gapstone/ColumnType" (some 7) with
  accessFlags := 48
  interfaces := #[]
  cf := some (fileOf pool8 8 #[.nestMembers #[18]] #[{ accessFlags := 0, nameIndex := 5, descriptorIndex := 128, attributes := #[] }, { accessFlags := 0, nameIndex := 132, descriptorIndex := 133, attributes := #[] }, { accessFlags := 8, nameIndex := 30, descriptorIndex := 31, attributes := #[] }, { accessFlags := 10, nameIndex := 34, descriptorIndex := 35, attributes := #[] }, { accessFlags := 2, nameIndex := 43, descriptorIndex := 44, attributes := #[] }, { accessFlags := 10, nameIndex := 47, descriptorIndex := 48, attributes := #[] }] 48 2 #[] #[{ accessFlags := 18, nameIndex := 11, descriptorIndex := 12, attributes := #[] }, { accessFlags := 18, nameIndex := 15, descriptorIndex := 16, attributes := #[] }])
  fields := #[{ name := "kind", type := (.object "com/example/gapstone/gapstone/ColumnType$Kind"), accessFlags := 18, slot := 0, constantValue := 0 }, { name := "length", type := .int, accessFlags := 18, slot := 1, constantValue := 0 }]
  methods := #[k8m0, k8m1, k8m2, k8m3, k8m4, k8m5]
  instanceTypes := #[(.object "com/example/gapstone/gapstone/ColumnType$Kind"), .int]
  staticTypes := #[]
  resolved := Array.replicate 171 none
  statics := none }

def pool9 : Array CpInfo := pool [(1, .methodref 2 3), (0, .class_ 4), (0, .nameAndType 5 6), (0, u "java/lang/Object"), (0, u "<init>"), (0, u "()V"), (1, .class_ 10), (1, u "java/lang/Number"), (2, .class_ 14), (0, u "java/io/Serializable"), (0, u "serialVersionUID"), (0, u "J")] 20

def k9c0 : Code := { maxStack := 1, maxLocals := 1, code := jdk_18_method_1_code, exceptionTable := #[], attributes := #[] }
def k9m0 : Method := { name := "<init>", desc := "()V", sig := { parameters := [], returnType := none }, accessFlags := 1, code := some k9c0 }
/-- java/lang/Number -/
def k9 : Class := { plain "java/lang/Number" (some 0) with
  accessFlags := 1057
  interfaces := #[4]
  cf := some (fileOf pool9 8 #[] #[{ accessFlags := 1, nameIndex := 5, descriptorIndex := 6, attributes := #[] }] 1057 2 #[13] #[{ accessFlags := 26, nameIndex := 15, descriptorIndex := 16, attributes := #[] }])
  fields := #[{ name := "serialVersionUID", type := .long, accessFlags := 26, slot := 0, constantValue := 0 }]
  methods := #[k9m0]
  instanceTypes := #[]
  staticTypes := #[.long]
  resolved := Array.replicate 37 none
  statics := none }

def pool10 : Array CpInfo := pool [(1, .class_ 2), (0, u "java/lang/constant/ConstantDesc"), (0, .class_ 4), (0, u "java/lang/Object")] 32

/-- java/lang/constant/ConstantDesc -/
def k10 : Class := { plain "java/lang/constant/ConstantDesc" (some 0) with
  accessFlags := 1537
  interfaces := #[]
  cf := some (fileOf pool10 1 #[] #[] 1537 3 #[] #[])
  fields := #[]
  methods := #[]
  instanceTypes := #[]
  staticTypes := #[]
  resolved := Array.replicate 37 none
  statics := none }

def pool11 : Array CpInfo := pool [(1, .class_ 2), (0, u "java/lang/Long"), (2, .class_ 6), (0, u "java/lang/String"), (2, .methodref 1 10), (0, .nameAndType 11 12), (0, u "toString"), (0, u "(J)Ljava/lang/String;"), (0, .fieldref 5 14), (0, .nameAndType 15 16), (0, u "COMPACT_STRINGS"), (0, u "Z"), (1, .class_ 20), (1, u "java/lang/Integer"), (32, .long 10), (4, .nameAndType 59 60), (0, u "<init>"), (0, u "()V"), (9, u "()Ljava/lang/String;"), (14, u "valueOf"), (15, u "(J)I"), (10, .methodref 5 113), (0, .nameAndType 59 114), (0, u "([BB)V"), (3, .methodref 1 119), (0, .nameAndType 120 101), (0, u "stringSize"), (0, .methodref 1 122), (0, .nameAndType 123 124), (0, u "getChars"), (0, u "(JI[B)I"), (4, .long 18446744071562067968), (1, .long 100), (1, .fieldref 18 134), (0, .nameAndType 135 136), (0, u "DigitOnes"), (0, u "[B"), (0, .fieldref 18 138), (0, .nameAndType 139 136), (0, u "DigitTens"), (0, .long 18446744073709551606), (88, u "(J)Ljava/lang/Long;"), (0, .long 18446744073709551488), (1, .long 127), (1, .fieldref 235 236), (0, .class_ 237), (0, .nameAndType 238 239), (0, u "java/lang/Long$LongCache"), (0, u "cache"), (0, u "[Ljava/lang/Long;"), (0, .methodref 1 241), (0, .nameAndType 59 242), (0, u "(J)V"), (27, .methodref 271 58), (0, .class_ 272), (0, u "java/lang/Number"), (0, .fieldref 1 274), (0, .nameAndType 275 276), (0, u "value"), (0, u "J"), (5, u "longValue"), (0, u "()J"), (77, u "TYPE"), (0, u "Ljava/lang/Class;"), (0, .class_ 364), (0, u "java/lang/Comparable"), (0, .class_ 366), (0, u "java/lang/constant/Constable"), (0, .class_ 368), (0, u "java/lang/constant/ConstantDesc"), (0, u "MIN_VALUE"), (1, u "MAX_VALUE"), (4, u "SIZE"), (0, u "I"), (1, u "BYTES"), (1, u "serialVersionUID")] 142

def k11c0 : Code := { maxStack := 4, maxLocals := 4, code := jdk_35_method_12_code, exceptionTable := #[], attributes := #[] }
def k11m0 : Method := { name := "toString", desc := "(J)Ljava/lang/String;", sig := { parameters := [.long], returnType := some (.object "java/lang/String") }, accessFlags := 9, code := some k11c0 }
def k11c1 : Code := { maxStack := 4, maxLocals := 11, code := jdk_35_method_14_code, exceptionTable := #[], attributes := #[] }
def k11m1 : Method := { name := "getChars", desc := "(JI[B)I", sig := { parameters := [.long, .int, (.array .byte)], returnType := some .int }, accessFlags := 8, code := some k11c1 }
def k11c2 : Code := { maxStack := 4, maxLocals := 6, code := jdk_35_method_15_code, exceptionTable := #[], attributes := #[] }
def k11m2 : Method := { name := "stringSize", desc := "(J)I", sig := { parameters := [.long], returnType := some .int }, accessFlags := 8, code := some k11c2 }
def k11c3 : Code := { maxStack := 4, maxLocals := 3, code := jdk_35_method_24_code, exceptionTable := #[], attributes := #[] }
def k11m3 : Method := { name := "valueOf", desc := "(J)Ljava/lang/Long;", sig := { parameters := [.long], returnType := some (.object "java/lang/Long") }, accessFlags := 9, code := some k11c3 }
def k11c4 : Code := { maxStack := 3, maxLocals := 3, code := jdk_35_method_26_code, exceptionTable := #[], attributes := #[] }
def k11m4 : Method := { name := "<init>", desc := "(J)V", sig := { parameters := [.long], returnType := none }, accessFlags := 1, code := some k11c4 }
def k11c5 : Code := { maxStack := 2, maxLocals := 1, code := jdk_35_method_31_code, exceptionTable := #[], attributes := #[] }
def k11m5 : Method := { name := "longValue", desc := "()J", sig := { parameters := [], returnType := some .long }, accessFlags := 1, code := some k11c5 }
def k11c6 : Code := { maxStack := 2, maxLocals := 1, code := jdk_35_method_34_code, exceptionTable := #[], attributes := #[] }
def k11m6 : Method := { name := "toString", desc := "()Ljava/lang/String;", sig := { parameters := [], returnType := some (.object "java/lang/String") }, accessFlags := 1, code := some k11c6 }
/-- java/lang/Long -/
def k11 : Class := { plain "java/lang/Long" (some 9) with
  accessFlags := 49
  interfaces := #[3, 2, 10]
  cf := some (fileOf pool11 1 #[.nestMembers #[235]] #[{ accessFlags := 9, nameIndex := 11, descriptorIndex := 12, attributes := #[] }, { accessFlags := 8, nameIndex := 123, descriptorIndex := 124, attributes := #[] }, { accessFlags := 8, nameIndex := 120, descriptorIndex := 101, attributes := #[] }, { accessFlags := 9, nameIndex := 85, descriptorIndex := 229, attributes := #[] }, { accessFlags := 1, nameIndex := 59, descriptorIndex := 242, attributes := #[] }, { accessFlags := 1, nameIndex := 282, descriptorIndex := 283, attributes := #[] }, { accessFlags := 1, nameIndex := 11, descriptorIndex := 70, attributes := #[] }] 49 271 #[363, 365, 367] #[{ accessFlags := 25, nameIndex := 369, descriptorIndex := 276, attributes := #[] }, { accessFlags := 25, nameIndex := 371, descriptorIndex := 276, attributes := #[] }, { accessFlags := 25, nameIndex := 361, descriptorIndex := 362, attributes := #[] }, { accessFlags := 18, nameIndex := 275, descriptorIndex := 276, attributes := #[] }, { accessFlags := 25, nameIndex := 376, descriptorIndex := 377, attributes := #[] }, { accessFlags := 25, nameIndex := 379, descriptorIndex := 377, attributes := #[] }, { accessFlags := 26, nameIndex := 381, descriptorIndex := 276, attributes := #[] }])
  fields := #[{ name := "MIN_VALUE", type := .long, accessFlags := 25, slot := 0, constantValue := 0 }, { name := "MAX_VALUE", type := .long, accessFlags := 25, slot := 1, constantValue := 0 }, { name := "TYPE", type := (.object "java/lang/Class"), accessFlags := 25, slot := 2, constantValue := 0 }, { name := "value", type := .long, accessFlags := 18, slot := 0, constantValue := 0 }, { name := "SIZE", type := .int, accessFlags := 25, slot := 3, constantValue := 0 }, { name := "BYTES", type := .int, accessFlags := 25, slot := 4, constantValue := 0 }, { name := "serialVersionUID", type := .long, accessFlags := 26, slot := 5, constantValue := 0 }]
  methods := #[k11m0, k11m1, k11m2, k11m3, k11m4, k11m5, k11m6]
  instanceTypes := #[.long]
  staticTypes := #[.long, .long, (.object "java/lang/Class"), .int, .int, .long]
  resolved := Array.replicate 524 none
  statics := none }

def pool12 : Array CpInfo := pool [(2, .class_ 4), (1, u "java/lang/Object"), (0, u "<init>"), (0, u "()V"), (0, .class_ 8), (0, u "java/lang/Long"), (7, .class_ 18), (1, u "java/lang/Long$LongCache"), (0, u "$assertionsDisabled"), (0, u "Z"), (8, u "archivedCache"), (0, u "[Ljava/lang/Long;"), (7, u "cache")] 24

def k12m0 : Method := { name := "<init>", desc := "()V", sig := { parameters := [], returnType := none }, accessFlags := 2, code := none }
/-- java/lang/Long$LongCache -/
def k12 : Class := { plain "java/lang/Long$LongCache" (some 0) with
  accessFlags := 48
  interfaces := #[]
  cf := some (fileOf pool12 16 #[.nestHost 7] #[{ accessFlags := 2, nameIndex := 5, descriptorIndex := 6, attributes := #[] }] 48 2 #[] #[{ accessFlags := 24, nameIndex := 38, descriptorIndex := 30, attributes := #[] }, { accessFlags := 8, nameIndex := 29, descriptorIndex := 30, attributes := #[] }, { accessFlags := 4120, nameIndex := 19, descriptorIndex := 20, attributes := #[] }])
  fields := #[{ name := "cache", type := (.array (.object "java/lang/Long")), accessFlags := 24, slot := 0, constantValue := 0 }, { name := "archivedCache", type := (.array (.object "java/lang/Long")), accessFlags := 8, slot := 1, constantValue := 0 }, { name := "$assertionsDisabled", type := .boolean, accessFlags := 4120, slot := 2, constantValue := 0 }]
  methods := #[k12m0]
  instanceTypes := #[]
  staticTypes := #[(.array (.object "java/lang/Long")), (.array (.object "java/lang/Long")), .boolean]
  resolved := Array.replicate 63 none
  statics := some 1 }

def pool13 : Array CpInfo := pool [(2, .class_ 4), (1, u "java/lang/CharSequence"), (42, .class_ 48), (0, u "java/lang/CharSequence$1CodePointIterator"), (10, .class_ 60), (0, u "java/lang/CharSequence$1CharIterator"), (5, .class_ 67), (0, u "java/lang/Object")] 63

/-- java/lang/CharSequence -/
def k13 : Class := { plain "java/lang/CharSequence" (some 0) with
  accessFlags := 1537
  interfaces := #[]
  cf := some (fileOf pool13 2 #[.nestMembers #[47, 59]] #[] 1537 66 #[] #[])
  fields := #[]
  methods := #[]
  instanceTypes := #[]
  staticTypes := #[]
  resolved := Array.replicate 131 none
  statics := none }

def pool14 : Array CpInfo := pool [(1, .methodref 2 3), (0, .class_ 4), (0, .nameAndType 5 6), (0, u "java/lang/Object"), (0, u "<init>"), (0, u "()V"), (2, .fieldref 10 11), (0, .class_ 12), (0, .nameAndType 13 14), (0, u "java/lang/String"), (0, u "value"), (0, u "[B"), (0, .fieldref 10 16), (0, .nameAndType 17 18), (0, u "coder"), (0, u "B"), (2, u "hash"), (0, u "I"), (2, u "hashIsZero"), (0, u "Z"), (10, u "(III)I"), (0, .fieldref 10 39), (0, .nameAndType 40 26), (0, u "COMPACT_STRINGS"), (38, .class_ 81), (1, u "java/util/Objects"), (25, .class_ 109), (1, u "java/lang/StringLatin1"), (32, u "()Z"), (68, u "([BB)V"), (122, u "()I"), (0, .methodref 10 336), (0, .nameAndType 17 337), (0, u "()B"), (25, u "([BI)C"), (27, u "(II)V"), (35, u "(I)C"), (64, .methodref 10 493), (0, .nameAndType 494 142), (0, u "isLatin1"), (0, .methodref 107 496), (0, .nameAndType 497 363), (0, u "charAt"), (3, u "checkIndex"), (3, .methodref 10 506), (0, .nameAndType 507 334), (0, u "length"), (3, .methodref 79 512), (0, .nameAndType 513 37), (0, u "checkFromToIndex"), (2, u "codePointCount"), (4, .methodref 10 522), (0, .nameAndType 523 524), (0, u "checkBoundsBeginEnd"), (0, u "(III)V"), (50, .class_ 576), (0, u "java/lang/CharSequence"), (22, u "CASE_INSENSITIVE_ORDER"), (0, u "Ljava/util/Comparator;"), (35, u "(II)I"), (46, u "substring"), (0, u "(II)Ljava/lang/String;"), (368, .fieldref 1054 1055), (0, .class_ 1056), (0, .nameAndType 1057 1058), (0, u "jdk/internal/util/Preconditions"), (0, u "SIOOBE_FORMATTER"), (0, u "Ljava/util/function/BiFunction;"), (0, .methodref 1054 1060), (0, .nameAndType 501 1061), (0, u "(IILjava/util/function/BiFunction;)I"), (0, .methodref 1054 1063), (0, .nameAndType 513 1064), (0, u "(IIILjava/util/function/BiFunction;)I"), (36, u "serialPersistentFields"), (0, u "[Ljava/io/ObjectStreamField;"), (0, .class_ 1104), (0, u "java/lang/String$CaseInsensitiveComparator"), (1, .class_ 1107), (0, u "java/io/Serializable"), (0, .class_ 1109), (0, u "java/lang/Comparable"), (0, .class_ 1111), (0, u "java/lang/constant/Constable"), (0, .class_ 1113), (0, u "java/lang/constant/ConstantDesc"), (2, u "serialVersionUID"), (0, u "J"), (3, u "REPL"), (0, u "C"), (2, u "LATIN1"), (1, u "UTF16")] 323

def k14m0 : Method := { name := "<init>", desc := "()V", sig := { parameters := [], returnType := none }, accessFlags := 1, code := none }
def k14c1 : Code := { maxStack := 2, maxLocals := 1, code := jdk_42_method_54_code, exceptionTable := #[], attributes := #[] }
def k14m1 : Method := { name := "length", desc := "()I", sig := { parameters := [], returnType := some .int }, accessFlags := 1, code := some k14c1 }
def k14c2 : Code := { maxStack := 2, maxLocals := 2, code := jdk_42_method_56_code, exceptionTable := #[], attributes := #[] }
def k14m2 : Method := { name := "charAt", desc := "(I)C", sig := { parameters := [.int], returnType := some .char }, accessFlags := 1, code := some k14c2 }
def k14c3 : Code := { maxStack := 3, maxLocals := 3, code := jdk_42_method_59_code, exceptionTable := #[], attributes := #[] }
def k14m3 : Method := { name := "codePointCount", desc := "(II)I", sig := { parameters := [.int, .int], returnType := some .int }, accessFlags := 1, code := some k14c3 }
def k14c4 : Code := { maxStack := 3, maxLocals := 5, code := jdk_42_method_92_code, exceptionTable := #[], attributes := #[] }
def k14m4 : Method := { name := "substring", desc := "(II)Ljava/lang/String;", sig := { parameters := [.int, .int], returnType := some (.object "java/lang/String") }, accessFlags := 1, code := some k14c4 }
def k14c5 : Code := { maxStack := 2, maxLocals := 3, code := jdk_42_method_151_code, exceptionTable := #[], attributes := #[] }
def k14m5 : Method := { name := "<init>", desc := "([BB)V", sig := { parameters := [(.array .byte), .byte], returnType := none }, accessFlags := 0, code := some k14c5 }
def k14c6 : Code := { maxStack := 1, maxLocals := 1, code := jdk_42_method_152_code, exceptionTable := #[], attributes := #[] }
def k14m6 : Method := { name := "coder", desc := "()B", sig := { parameters := [], returnType := some .byte }, accessFlags := 0, code := some k14c6 }
def k14c7 : Code := { maxStack := 1, maxLocals := 1, code := jdk_42_method_154_code, exceptionTable := #[], attributes := #[] }
def k14m7 : Method := { name := "isLatin1", desc := "()Z", sig := { parameters := [], returnType := some .boolean }, accessFlags := 0, code := some k14c7 }
def k14c8 : Code := { maxStack := 3, maxLocals := 2, code := jdk_42_method_155_code, exceptionTable := #[], attributes := #[] }
def k14m8 : Method := { name := "checkIndex", desc := "(II)V", sig := { parameters := [.int, .int], returnType := none }, accessFlags := 8, code := some k14c8 }
def k14c9 : Code := { maxStack := 4, maxLocals := 3, code := jdk_42_method_158_code, exceptionTable := #[], attributes := #[] }
def k14m9 : Method := { name := "checkBoundsBeginEnd", desc := "(III)V", sig := { parameters := [.int, .int, .int], returnType := none }, accessFlags := 8, code := some k14c9 }
/-- java/lang/String -/
def k14 : Class := { plain "java/lang/String" (some 0) with
  accessFlags := 49
  interfaces := #[4, 3, 13, 2, 10]
  cf := some (fileOf pool14 10 #[.nestMembers #[1103]] #[{ accessFlags := 1, nameIndex := 5, descriptorIndex := 6, attributes := #[] }, { accessFlags := 1, nameIndex := 507, descriptorIndex := 334, attributes := #[] }, { accessFlags := 1, nameIndex := 497, descriptorIndex := 427, attributes := #[] }, { accessFlags := 1, nameIndex := 516, descriptorIndex := 636, attributes := #[] }, { accessFlags := 1, nameIndex := 683, descriptorIndex := 684, attributes := #[] }, { accessFlags := 0, nameIndex := 5, descriptorIndex := 211, attributes := #[] }, { accessFlags := 0, nameIndex := 17, descriptorIndex := 337, attributes := #[] }, { accessFlags := 0, nameIndex := 494, descriptorIndex := 142, attributes := #[] }, { accessFlags := 8, nameIndex := 501, descriptorIndex := 391, attributes := #[] }, { accessFlags := 8, nameIndex := 523, descriptorIndex := 524, attributes := #[] }] 49 2 #[1106, 1108, 575, 1110, 1112] #[{ accessFlags := 18, nameIndex := 13, descriptorIndex := 14, attributes := #[] }, { accessFlags := 18, nameIndex := 17, descriptorIndex := 18, attributes := #[] }, { accessFlags := 2, nameIndex := 21, descriptorIndex := 22, attributes := #[] }, { accessFlags := 2, nameIndex := 25, descriptorIndex := 26, attributes := #[] }, { accessFlags := 26, nameIndex := 1116, descriptorIndex := 1117, attributes := #[] }, { accessFlags := 24, nameIndex := 40, descriptorIndex := 26, attributes := #[] }, { accessFlags := 26, nameIndex := 1101, descriptorIndex := 1102, attributes := #[] }, { accessFlags := 26, nameIndex := 1121, descriptorIndex := 1122, attributes := #[] }, { accessFlags := 25, nameIndex := 599, descriptorIndex := 600, attributes := #[] }, { accessFlags := 24, nameIndex := 1125, descriptorIndex := 18, attributes := #[] }, { accessFlags := 24, nameIndex := 1127, descriptorIndex := 18, attributes := #[] }])
  fields := #[{ name := "value", type := (.array .byte), accessFlags := 18, slot := 0, constantValue := 0 }, { name := "coder", type := .byte, accessFlags := 18, slot := 1, constantValue := 0 }, { name := "hash", type := .int, accessFlags := 2, slot := 2, constantValue := 0 }, { name := "hashIsZero", type := .boolean, accessFlags := 2, slot := 3, constantValue := 0 }, { name := "serialVersionUID", type := .long, accessFlags := 26, slot := 0, constantValue := 0 }, { name := "COMPACT_STRINGS", type := .boolean, accessFlags := 24, slot := 1, constantValue := 0 }, { name := "serialPersistentFields", type := (.array (.object "java/io/ObjectStreamField")), accessFlags := 26, slot := 2, constantValue := 0 }, { name := "REPL", type := .char, accessFlags := 26, slot := 3, constantValue := 0 }, { name := "CASE_INSENSITIVE_ORDER", type := (.object "java/util/Comparator"), accessFlags := 25, slot := 4, constantValue := 0 }, { name := "LATIN1", type := .byte, accessFlags := 24, slot := 5, constantValue := 0 }, { name := "UTF16", type := .byte, accessFlags := 24, slot := 6, constantValue := 0 }]
  methods := #[k14m0, k14m1, k14m2, k14m3, k14m4, k14m5, k14m6, k14m7, k14m8, k14m9]
  instanceTypes := #[(.array .byte), .byte, .int, .boolean]
  staticTypes := #[.long, .boolean, (.array (.object "java/io/ObjectStreamField")), .char, (.object "java/util/Comparator"), .byte, .byte]
  resolved := Array.replicate 1451 none
  statics := some 2 }

def pool15 : Array CpInfo := pool [(1, .class_ 2), (0, u "java/lang/Integer"), (16, u "digits"), (0, u "[C"), (64, u "DigitOnes"), (0, u "[B"), (2, u "DigitTens"), (99, .class_ 190), (0, u "java/lang/Integer$IntegerCache"), (3, u "I"), (8, .class_ 204), (0, u "java/lang/Number"), (2, u "value"), (94, u "TYPE"), (0, u "Ljava/lang/Class;"), (0, .class_ 305), (0, u "java/lang/Comparable"), (0, .class_ 307), (0, u "java/lang/constant/Constable"), (0, .class_ 309), (0, u "java/lang/constant/ConstantDesc"), (0, u "MIN_VALUE"), (1, u "MAX_VALUE"), (3, u "SIZE"), (1, u "BYTES"), (1, u "serialVersionUID"), (0, u "J")] 131

/-- java/lang/Integer -/
def k15 : Class := { plain "java/lang/Integer" (some 9) with
  accessFlags := 49
  interfaces := #[3, 2, 10]
  cf := some (fileOf pool15 1 #[.nestMembers #[189]] #[] 49 203 #[304, 306, 308] #[{ accessFlags := 25, nameIndex := 310, descriptorIndex := 194, attributes := #[] }, { accessFlags := 25, nameIndex := 312, descriptorIndex := 194, attributes := #[] }, { accessFlags := 25, nameIndex := 302, descriptorIndex := 303, attributes := #[] }, { accessFlags := 24, nameIndex := 19, descriptorIndex := 20, attributes := #[] }, { accessFlags := 24, nameIndex := 89, descriptorIndex := 86, attributes := #[] }, { accessFlags := 24, nameIndex := 85, descriptorIndex := 86, attributes := #[] }, { accessFlags := 18, nameIndex := 207, descriptorIndex := 194, attributes := #[] }, { accessFlags := 25, nameIndex := 316, descriptorIndex := 194, attributes := #[] }, { accessFlags := 25, nameIndex := 318, descriptorIndex := 194, attributes := #[] }, { accessFlags := 26, nameIndex := 320, descriptorIndex := 321, attributes := #[] }])
  fields := #[{ name := "MIN_VALUE", type := .int, accessFlags := 25, slot := 0, constantValue := 0 }, { name := "MAX_VALUE", type := .int, accessFlags := 25, slot := 1, constantValue := 0 }, { name := "TYPE", type := (.object "java/lang/Class"), accessFlags := 25, slot := 2, constantValue := 0 }, { name := "digits", type := (.array .char), accessFlags := 24, slot := 3, constantValue := 0 }, { name := "DigitTens", type := (.array .byte), accessFlags := 24, slot := 4, constantValue := 0 }, { name := "DigitOnes", type := (.array .byte), accessFlags := 24, slot := 5, constantValue := 0 }, { name := "value", type := .int, accessFlags := 18, slot := 0, constantValue := 0 }, { name := "SIZE", type := .int, accessFlags := 25, slot := 6, constantValue := 0 }, { name := "BYTES", type := .int, accessFlags := 25, slot := 7, constantValue := 0 }, { name := "serialVersionUID", type := .long, accessFlags := 26, slot := 8, constantValue := 0 }]
  methods := #[]
  instanceTypes := #[.int]
  staticTypes := #[.int, .int, (.object "java/lang/Class"), (.array .char), (.array .byte), (.array .byte), .int, .int, .long]
  resolved := Array.replicate 453 none
  statics := some 3 }

def pool16 : Array CpInfo := pool [(2, .class_ 4), (1, u "java/lang/Object"), (0, u "<init>"), (0, u "()V"), (35, .class_ 44), (1, u "java/util/Objects"), (61, .class_ 108), (1, u "jdk/internal/util/Preconditions"), (2, .methodref 106 112), (0, .nameAndType 113 114), (0, u "checkFromToIndex"), (0, u "(IIILjava/util/function/BiFunction;)I"), (60, u "(III)I")] 8

def k16m0 : Method := { name := "<init>", desc := "()V", sig := { parameters := [], returnType := none }, accessFlags := 2, code := none }
def k16c1 : Code := { maxStack := 4, maxLocals := 3, code := jdk_31_method_18_code, exceptionTable := #[], attributes := #[] }
def k16m1 : Method := { name := "checkFromToIndex", desc := "(III)I", sig := { parameters := [.int, .int, .int], returnType := some .int }, accessFlags := 9, code := some k16c1 }
/-- java/util/Objects -/
def k16 : Class := { plain "java/util/Objects" (some 0) with
  accessFlags := 49
  interfaces := #[]
  cf := some (fileOf pool16 42 #[] #[{ accessFlags := 2, nameIndex := 5, descriptorIndex := 6, attributes := #[] }, { accessFlags := 9, nameIndex := 113, descriptorIndex := 175, attributes := #[] }] 49 2 #[] #[])
  fields := #[]
  methods := #[k16m0, k16m1]
  instanceTypes := #[]
  staticTypes := #[]
  resolved := Array.replicate 184 none
  statics := none }

def pool17 : Array CpInfo := pool [(2, .class_ 4), (1, u "java/lang/Object"), (0, u "<init>"), (0, u "()V"), (17, .class_ 26), (1, u "jdk/internal/util/Preconditions"), (6, u "checkIndex"), (13, u "checkFromToIndex"), (7, .class_ 56), (0, u "jdk/internal/util/Preconditions$4"), (57, .class_ 115), (0, u "jdk/internal/util/Preconditions$1"), (7, u "SIOOBE_FORMATTER"), (0, u "Ljava/util/function/BiFunction;"), (0, .class_ 126), (0, u "jdk/internal/util/Preconditions$2"), (3, u "AIOOBE_FORMATTER"), (0, .class_ 132), (0, u "jdk/internal/util/Preconditions$3"), (3, u "IOOBE_FORMATTER"), (41, u "(IILjava/util/function/BiFunction;)I"), (4, u "(IIILjava/util/function/BiFunction;)I")] 10

def k17m0 : Method := { name := "<init>", desc := "()V", sig := { parameters := [], returnType := none }, accessFlags := 1, code := none }
def k17c1 : Code := { maxStack := 3, maxLocals := 3, code := jdk_41_method_11_code, exceptionTable := #[], attributes := #[] }
def k17m1 : Method := { name := "checkIndex", desc := "(IILjava/util/function/BiFunction;)I", sig := { parameters := [.int, .int, (.object "java/util/function/BiFunction")], returnType := some .int }, accessFlags := 9, code := some k17c1 }
def k17c2 : Code := { maxStack := 4, maxLocals := 4, code := jdk_41_method_12_code, exceptionTable := #[], attributes := #[] }
def k17m2 : Method := { name := "checkFromToIndex", desc := "(IIILjava/util/function/BiFunction;)I", sig := { parameters := [.int, .int, .int, (.object "java/util/function/BiFunction")], returnType := some .int }, accessFlags := 9, code := some k17c2 }
/-- jdk/internal/util/Preconditions -/
def k17 : Class := { plain "jdk/internal/util/Preconditions" (some 0) with
  accessFlags := 33
  interfaces := #[]
  cf := some (fileOf pool17 24 #[.nestMembers #[55, 131, 125, 114]] #[{ accessFlags := 1, nameIndex := 5, descriptorIndex := 6, attributes := #[] }, { accessFlags := 9, nameIndex := 33, descriptorIndex := 178, attributes := #[] }, { accessFlags := 9, nameIndex := 47, descriptorIndex := 183, attributes := #[] }] 33 2 #[] #[{ accessFlags := 25, nameIndex := 123, descriptorIndex := 124, attributes := #[] }, { accessFlags := 25, nameIndex := 130, descriptorIndex := 124, attributes := #[] }, { accessFlags := 25, nameIndex := 136, descriptorIndex := 124, attributes := #[] }])
  fields := #[{ name := "SIOOBE_FORMATTER", type := (.object "java/util/function/BiFunction"), accessFlags := 25, slot := 0, constantValue := 0 }, { name := "AIOOBE_FORMATTER", type := (.object "java/util/function/BiFunction"), accessFlags := 25, slot := 1, constantValue := 0 }, { name := "IOOBE_FORMATTER", type := (.object "java/util/function/BiFunction"), accessFlags := 25, slot := 2, constantValue := 0 }]
  methods := #[k17m0, k17m1, k17m2]
  instanceTypes := #[]
  staticTypes := #[(.object "java/util/function/BiFunction"), (.object "java/util/function/BiFunction"), (.object "java/util/function/BiFunction")]
  resolved := Array.replicate 194 none
  statics := some 4 }

def pool18 : Array CpInfo := pool [(1, .class_ 2), (0, u "java/lang/String"), (1, .class_ 6), (1, u "java/lang/Object"), (0, u "<init>"), (0, u "()V"), (0, .methodref 1 10), (0, .nameAndType 11 12), (0, u "checkIndex"), (0, u "(II)V"), (1, .class_ 16), (1, u "java/lang/StringLatin1"), (36, u "([BI)C"), (67, u "$assertionsDisabled"), (0, u "Z"), (98, .class_ 223), (1, u "java/lang/StringLatin1$LinesSpliterator"), (28, u "charAt"), (137, .class_ 391), (0, u "java/lang/StringLatin1$CharsSpliterator")] 3

def k18m0 : Method := { name := "<init>", desc := "()V", sig := { parameters := [], returnType := none }, accessFlags := 0, code := none }
def k18c1 : Code := { maxStack := 2, maxLocals := 2, code := jdk_43_method_2_code, exceptionTable := #[], attributes := #[] }
def k18m1 : Method := { name := "charAt", desc := "([BI)C", sig := { parameters := [(.array .byte), .int], returnType := some .char }, accessFlags := 9, code := some k18c1 }
/-- java/lang/StringLatin1 -/
def k18 : Class := { plain "java/lang/StringLatin1" (some 0) with
  accessFlags := 48
  interfaces := #[]
  cf := some (fileOf pool18 14 #[.nestMembers #[390, 221]] #[{ accessFlags := 0, nameIndex := 7, descriptorIndex := 8, attributes := #[] }, { accessFlags := 9, nameIndex := 252, descriptorIndex := 53, attributes := #[] }] 48 4 #[] #[{ accessFlags := 4120, nameIndex := 121, descriptorIndex := 122, attributes := #[] }])
  fields := #[{ name := "$assertionsDisabled", type := .boolean, accessFlags := 4120, slot := 0, constantValue := 0 }]
  methods := #[k18m0, k18m1]
  instanceTypes := #[]
  staticTypes := #[.boolean]
  resolved := Array.replicate 395 none
  statics := none }

def pool19 : Array CpInfo := pool [(9, u "<init>"), (6, .class_ 18), (1, u "java/lang/Object"), (0, u "()V"), (1, .class_ 23), (1, u "jdk/internal/util/ArraysSupport"), (0, u "LOG2_ARRAY_LONG_INDEX_SCALE"), (0, u "I"), (2, u "U"), (0, u "Ljdk/internal/misc/Unsafe;"), (8, u "BIG_ENDIAN"), (0, u "Z"), (8, u "LOG2_BYTE_BIT_SIZE"), (4, u "LOG2_ARRAY_INT_INDEX_SCALE"), (54, u "JLA"), (0, u "Ljdk/internal/access/JavaLangAccess;"), (11, u "LOG2_ARRAY_BOOLEAN_INDEX_SCALE"), (9, u "LOG2_ARRAY_BYTE_INDEX_SCALE"), (5, u "LOG2_ARRAY_CHAR_INDEX_SCALE"), (5, u "LOG2_ARRAY_SHORT_INDEX_SCALE"), (18, u "LOG2_ARRAY_FLOAT_INDEX_SCALE"), (24, u "LOG2_ARRAY_DOUBLE_INDEX_SCALE"), (89, u "T_BOOLEAN"), (2, u "T_CHAR"), (1, u "T_FLOAT"), (1, u "T_DOUBLE"), (1, u "T_BYTE"), (1, u "T_SHORT"), (1, u "T_INT"), (1, u "T_LONG"), (1, u "SOFT_MAX_ARRAY_LENGTH")] 83

def k19m0 : Method := { name := "<init>", desc := "()V", sig := { parameters := [], returnType := none }, accessFlags := 2, code := none }
/-- jdk/internal/util/ArraysSupport -/
def k19 : Class := { plain "jdk/internal/util/ArraysSupport" (some 0) with
  accessFlags := 33
  interfaces := #[]
  cf := some (fileOf pool19 21 #[] #[{ accessFlags := 2, nameIndex := 9, descriptorIndex := 19, attributes := #[] }] 33 16 #[] #[{ accessFlags := 24, nameIndex := 28, descriptorIndex := 29, attributes := #[] }, { accessFlags := 26, nameIndex := 38, descriptorIndex := 39, attributes := #[] }, { accessFlags := 25, nameIndex := 121, descriptorIndex := 25, attributes := #[] }, { accessFlags := 25, nameIndex := 131, descriptorIndex := 25, attributes := #[] }, { accessFlags := 25, nameIndex := 137, descriptorIndex := 25, attributes := #[] }, { accessFlags := 25, nameIndex := 143, descriptorIndex := 25, attributes := #[] }, { accessFlags := 25, nameIndex := 53, descriptorIndex := 25, attributes := #[] }, { accessFlags := 25, nameIndex := 24, descriptorIndex := 25, attributes := #[] }, { accessFlags := 25, nameIndex := 162, descriptorIndex := 25, attributes := #[] }, { accessFlags := 25, nameIndex := 187, descriptorIndex := 25, attributes := #[] }, { accessFlags := 26, nameIndex := 48, descriptorIndex := 25, attributes := #[] }, { accessFlags := 25, nameIndex := 277, descriptorIndex := 25, attributes := #[] }, { accessFlags := 25, nameIndex := 280, descriptorIndex := 25, attributes := #[] }, { accessFlags := 25, nameIndex := 282, descriptorIndex := 25, attributes := #[] }, { accessFlags := 25, nameIndex := 284, descriptorIndex := 25, attributes := #[] }, { accessFlags := 25, nameIndex := 286, descriptorIndex := 25, attributes := #[] }, { accessFlags := 25, nameIndex := 288, descriptorIndex := 25, attributes := #[] }, { accessFlags := 25, nameIndex := 290, descriptorIndex := 25, attributes := #[] }, { accessFlags := 25, nameIndex := 292, descriptorIndex := 25, attributes := #[] }, { accessFlags := 26, nameIndex := 108, descriptorIndex := 109, attributes := #[] }, { accessFlags := 25, nameIndex := 294, descriptorIndex := 25, attributes := #[] }])
  fields := #[{ name := "U", type := (.object "jdk/internal/misc/Unsafe"), accessFlags := 24, slot := 0, constantValue := 0 }, { name := "BIG_ENDIAN", type := .boolean, accessFlags := 26, slot := 1, constantValue := 0 }, { name := "LOG2_ARRAY_BOOLEAN_INDEX_SCALE", type := .int, accessFlags := 25, slot := 2, constantValue := 0 }, { name := "LOG2_ARRAY_BYTE_INDEX_SCALE", type := .int, accessFlags := 25, slot := 3, constantValue := 0 }, { name := "LOG2_ARRAY_CHAR_INDEX_SCALE", type := .int, accessFlags := 25, slot := 4, constantValue := 0 }, { name := "LOG2_ARRAY_SHORT_INDEX_SCALE", type := .int, accessFlags := 25, slot := 5, constantValue := 0 }, { name := "LOG2_ARRAY_INT_INDEX_SCALE", type := .int, accessFlags := 25, slot := 6, constantValue := 0 }, { name := "LOG2_ARRAY_LONG_INDEX_SCALE", type := .int, accessFlags := 25, slot := 7, constantValue := 0 }, { name := "LOG2_ARRAY_FLOAT_INDEX_SCALE", type := .int, accessFlags := 25, slot := 8, constantValue := 0 }, { name := "LOG2_ARRAY_DOUBLE_INDEX_SCALE", type := .int, accessFlags := 25, slot := 9, constantValue := 0 }, { name := "LOG2_BYTE_BIT_SIZE", type := .int, accessFlags := 26, slot := 10, constantValue := 0 }, { name := "T_BOOLEAN", type := .int, accessFlags := 25, slot := 11, constantValue := 0 }, { name := "T_CHAR", type := .int, accessFlags := 25, slot := 12, constantValue := 0 }, { name := "T_FLOAT", type := .int, accessFlags := 25, slot := 13, constantValue := 0 }, { name := "T_DOUBLE", type := .int, accessFlags := 25, slot := 14, constantValue := 0 }, { name := "T_BYTE", type := .int, accessFlags := 25, slot := 15, constantValue := 0 }, { name := "T_SHORT", type := .int, accessFlags := 25, slot := 16, constantValue := 0 }, { name := "T_INT", type := .int, accessFlags := 25, slot := 17, constantValue := 0 }, { name := "T_LONG", type := .int, accessFlags := 25, slot := 18, constantValue := 0 }, { name := "JLA", type := (.object "jdk/internal/access/JavaLangAccess"), accessFlags := 26, slot := 19, constantValue := 0 }, { name := "SOFT_MAX_ARRAY_LENGTH", type := .int, accessFlags := 25, slot := 20, constantValue := 0 }]
  methods := #[k19m0]
  instanceTypes := #[]
  staticTypes := #[(.object "jdk/internal/misc/Unsafe"), .boolean, .int, .int, .int, .int, .int, .int, .int, .int, .int, .int, .int, .int, .int, .int, .int, .int, .int, (.object "jdk/internal/access/JavaLangAccess"), .int]
  resolved := Array.replicate 378 none
  statics := none }

def pool20 : Array CpInfo := pool [(1, u "java/lang/Cloneable"), (0, .class_ 1), (0, u "java/lang/Object"), (0, .class_ 3)] 3

/-- java/lang/Cloneable -/
def k20 : Class := { plain "java/lang/Cloneable" (some 0) with
  accessFlags := 1537
  interfaces := #[]
  cf := some (fileOf pool20 2 #[] #[] 1537 4 #[] #[])
  fields := #[]
  methods := #[]
  instanceTypes := #[]
  staticTypes := #[]
  resolved := Array.replicate 8 none
  statics := none }

/-- the primitive byte -/
def k21 : Class := { plain "byte" none with kind := .primitive 'B', accessFlags := 0x411 }
/-- [B -/
def k22 : Class := { plain "[B" (some 0) with kind := .array 21 .byte, interfaces := #[20, 4], accessFlags := 1041 }

/-- the primitive int -/
def k23 : Class := { plain "int" none with kind := .primitive 'I', accessFlags := 0x411 }
/-- [I -/
def k24 : Class := { plain "[I" (some 0) with kind := .array 23 .int, interfaces := #[20, 4], accessFlags := 1041 }

/-- [Ljava/lang/Long; -/
def k25 : Class := { plain "[Ljava/lang/Long;" (some 0) with kind := .array 11 (.object "java/lang/Long"), interfaces := #[20, 4], accessFlags := 1041 }

def heap : Heap := #[{ cls := 6, slots := #[.ref 262, .ref 264, .ref 263, .ref 265, .null], vm := .statics 6 },
  { cls := 12, slots := #[.ref 5, .null, .int 0], vm := .statics 12 },
  { cls := 14, slots := #[.long 0, .int 1, .null, .int 0, .null, .int 0, .int 0], vm := .statics 14 },
  { cls := 15, slots := #[.int 0, .int 0, .null, .null, .ref 267, .ref 266, .int 0, .int 0, .long 0], vm := .statics 15 },
  { cls := 17, slots := #[.null, .null, .null], vm := .statics 17 },
  { cls := 25, slots := #[.ref 6, .ref 7, .ref 8, .ref 9, .ref 10, .ref 11, .ref 12, .ref 13, .ref 14, .ref 15, .ref 16, .ref 17, .ref 18, .ref 19, .ref 20, .ref 21, .ref 22, .ref 23, .ref 24, .ref 25, .ref 26, .ref 27, .ref 28, .ref 29, .ref 30, .ref 31, .ref 32, .ref 33, .ref 34, .ref 35, .ref 36, .ref 37, .ref 38, .ref 39, .ref 40, .ref 41, .ref 42, .ref 43, .ref 44, .ref 45, .ref 46, .ref 47, .ref 48, .ref 49, .ref 50, .ref 51, .ref 52, .ref 53, .ref 54, .ref 55, .ref 56, .ref 57, .ref 58, .ref 59, .ref 60, .ref 61, .ref 62, .ref 63, .ref 64, .ref 65, .ref 66, .ref 67, .ref 68, .ref 69, .ref 70, .ref 71, .ref 72, .ref 73, .ref 74, .ref 75, .ref 76, .ref 77, .ref 78, .ref 79, .ref 80, .ref 81, .ref 82, .ref 83, .ref 84, .ref 85, .ref 86, .ref 87, .ref 88, .ref 89, .ref 90, .ref 91, .ref 92, .ref 93, .ref 94, .ref 95, .ref 96, .ref 97, .ref 98, .ref 99, .ref 100, .ref 101, .ref 102, .ref 103, .ref 104, .ref 105, .ref 106, .ref 107, .ref 108, .ref 109, .ref 110, .ref 111, .ref 112, .ref 113, .ref 114, .ref 115, .ref 116, .ref 117, .ref 118, .ref 119, .ref 120, .ref 121, .ref 122, .ref 123, .ref 124, .ref 125, .ref 126, .ref 127, .ref 128, .ref 129, .ref 130, .ref 131, .ref 132, .ref 133, .ref 134, .ref 135, .ref 136, .ref 137, .ref 138, .ref 139, .ref 140, .ref 141, .ref 142, .ref 143, .ref 144, .ref 145, .ref 146, .ref 147, .ref 148, .ref 149, .ref 150, .ref 151, .ref 152, .ref 153, .ref 154, .ref 155, .ref 156, .ref 157, .ref 158, .ref 159, .ref 160, .ref 161, .ref 162, .ref 163, .ref 164, .ref 165, .ref 166, .ref 167, .ref 168, .ref 169, .ref 170, .ref 171, .ref 172, .ref 173, .ref 174, .ref 175, .ref 176, .ref 177, .ref 178, .ref 179, .ref 180, .ref 181, .ref 182, .ref 183, .ref 184, .ref 185, .ref 186, .ref 187, .ref 188, .ref 189, .ref 190, .ref 191, .ref 192, .ref 193, .ref 194, .ref 195, .ref 196, .ref 197, .ref 198, .ref 199, .ref 200, .ref 201, .ref 202, .ref 203, .ref 204, .ref 205, .ref 206, .ref 207, .ref 208, .ref 209, .ref 210, .ref 211, .ref 212, .ref 213, .ref 214, .ref 215, .ref 216, .ref 217, .ref 218, .ref 219, .ref 220, .ref 221, .ref 222, .ref 223, .ref 224, .ref 225, .ref 226, .ref 227, .ref 228, .ref 229, .ref 230, .ref 231, .ref 232, .ref 233, .ref 234, .ref 235, .ref 236, .ref 237, .ref 238, .ref 239, .ref 240, .ref 241, .ref 242, .ref 243, .ref 244, .ref 245, .ref 246, .ref 247, .ref 248, .ref 249, .ref 250, .ref 251, .ref 252, .ref 253, .ref 254, .ref 255, .ref 256, .ref 257, .ref 258, .ref 259, .ref 260, .ref 261], vm := .none },
  { cls := 11, slots := #[.long (-128)], vm := .none },
  { cls := 11, slots := #[.long (-127)], vm := .none },
  { cls := 11, slots := #[.long (-126)], vm := .none },
  { cls := 11, slots := #[.long (-125)], vm := .none },
  { cls := 11, slots := #[.long (-124)], vm := .none },
  { cls := 11, slots := #[.long (-123)], vm := .none },
  { cls := 11, slots := #[.long (-122)], vm := .none },
  { cls := 11, slots := #[.long (-121)], vm := .none },
  { cls := 11, slots := #[.long (-120)], vm := .none },
  { cls := 11, slots := #[.long (-119)], vm := .none },
  { cls := 11, slots := #[.long (-118)], vm := .none },
  { cls := 11, slots := #[.long (-117)], vm := .none },
  { cls := 11, slots := #[.long (-116)], vm := .none },
  { cls := 11, slots := #[.long (-115)], vm := .none },
  { cls := 11, slots := #[.long (-114)], vm := .none },
  { cls := 11, slots := #[.long (-113)], vm := .none },
  { cls := 11, slots := #[.long (-112)], vm := .none },
  { cls := 11, slots := #[.long (-111)], vm := .none },
  { cls := 11, slots := #[.long (-110)], vm := .none },
  { cls := 11, slots := #[.long (-109)], vm := .none },
  { cls := 11, slots := #[.long (-108)], vm := .none },
  { cls := 11, slots := #[.long (-107)], vm := .none },
  { cls := 11, slots := #[.long (-106)], vm := .none },
  { cls := 11, slots := #[.long (-105)], vm := .none },
  { cls := 11, slots := #[.long (-104)], vm := .none },
  { cls := 11, slots := #[.long (-103)], vm := .none },
  { cls := 11, slots := #[.long (-102)], vm := .none },
  { cls := 11, slots := #[.long (-101)], vm := .none },
  { cls := 11, slots := #[.long (-100)], vm := .none },
  { cls := 11, slots := #[.long (-99)], vm := .none },
  { cls := 11, slots := #[.long (-98)], vm := .none },
  { cls := 11, slots := #[.long (-97)], vm := .none },
  { cls := 11, slots := #[.long (-96)], vm := .none },
  { cls := 11, slots := #[.long (-95)], vm := .none },
  { cls := 11, slots := #[.long (-94)], vm := .none },
  { cls := 11, slots := #[.long (-93)], vm := .none },
  { cls := 11, slots := #[.long (-92)], vm := .none },
  { cls := 11, slots := #[.long (-91)], vm := .none },
  { cls := 11, slots := #[.long (-90)], vm := .none },
  { cls := 11, slots := #[.long (-89)], vm := .none },
  { cls := 11, slots := #[.long (-88)], vm := .none },
  { cls := 11, slots := #[.long (-87)], vm := .none },
  { cls := 11, slots := #[.long (-86)], vm := .none },
  { cls := 11, slots := #[.long (-85)], vm := .none },
  { cls := 11, slots := #[.long (-84)], vm := .none },
  { cls := 11, slots := #[.long (-83)], vm := .none },
  { cls := 11, slots := #[.long (-82)], vm := .none },
  { cls := 11, slots := #[.long (-81)], vm := .none },
  { cls := 11, slots := #[.long (-80)], vm := .none },
  { cls := 11, slots := #[.long (-79)], vm := .none },
  { cls := 11, slots := #[.long (-78)], vm := .none },
  { cls := 11, slots := #[.long (-77)], vm := .none },
  { cls := 11, slots := #[.long (-76)], vm := .none },
  { cls := 11, slots := #[.long (-75)], vm := .none },
  { cls := 11, slots := #[.long (-74)], vm := .none },
  { cls := 11, slots := #[.long (-73)], vm := .none },
  { cls := 11, slots := #[.long (-72)], vm := .none },
  { cls := 11, slots := #[.long (-71)], vm := .none },
  { cls := 11, slots := #[.long (-70)], vm := .none },
  { cls := 11, slots := #[.long (-69)], vm := .none },
  { cls := 11, slots := #[.long (-68)], vm := .none },
  { cls := 11, slots := #[.long (-67)], vm := .none },
  { cls := 11, slots := #[.long (-66)], vm := .none },
  { cls := 11, slots := #[.long (-65)], vm := .none },
  { cls := 11, slots := #[.long (-64)], vm := .none },
  { cls := 11, slots := #[.long (-63)], vm := .none },
  { cls := 11, slots := #[.long (-62)], vm := .none },
  { cls := 11, slots := #[.long (-61)], vm := .none },
  { cls := 11, slots := #[.long (-60)], vm := .none },
  { cls := 11, slots := #[.long (-59)], vm := .none },
  { cls := 11, slots := #[.long (-58)], vm := .none },
  { cls := 11, slots := #[.long (-57)], vm := .none },
  { cls := 11, slots := #[.long (-56)], vm := .none },
  { cls := 11, slots := #[.long (-55)], vm := .none },
  { cls := 11, slots := #[.long (-54)], vm := .none },
  { cls := 11, slots := #[.long (-53)], vm := .none },
  { cls := 11, slots := #[.long (-52)], vm := .none },
  { cls := 11, slots := #[.long (-51)], vm := .none },
  { cls := 11, slots := #[.long (-50)], vm := .none },
  { cls := 11, slots := #[.long (-49)], vm := .none },
  { cls := 11, slots := #[.long (-48)], vm := .none },
  { cls := 11, slots := #[.long (-47)], vm := .none },
  { cls := 11, slots := #[.long (-46)], vm := .none },
  { cls := 11, slots := #[.long (-45)], vm := .none },
  { cls := 11, slots := #[.long (-44)], vm := .none },
  { cls := 11, slots := #[.long (-43)], vm := .none },
  { cls := 11, slots := #[.long (-42)], vm := .none },
  { cls := 11, slots := #[.long (-41)], vm := .none },
  { cls := 11, slots := #[.long (-40)], vm := .none },
  { cls := 11, slots := #[.long (-39)], vm := .none },
  { cls := 11, slots := #[.long (-38)], vm := .none },
  { cls := 11, slots := #[.long (-37)], vm := .none },
  { cls := 11, slots := #[.long (-36)], vm := .none },
  { cls := 11, slots := #[.long (-35)], vm := .none },
  { cls := 11, slots := #[.long (-34)], vm := .none },
  { cls := 11, slots := #[.long (-33)], vm := .none },
  { cls := 11, slots := #[.long (-32)], vm := .none },
  { cls := 11, slots := #[.long (-31)], vm := .none },
  { cls := 11, slots := #[.long (-30)], vm := .none },
  { cls := 11, slots := #[.long (-29)], vm := .none },
  { cls := 11, slots := #[.long (-28)], vm := .none },
  { cls := 11, slots := #[.long (-27)], vm := .none },
  { cls := 11, slots := #[.long (-26)], vm := .none },
  { cls := 11, slots := #[.long (-25)], vm := .none },
  { cls := 11, slots := #[.long (-24)], vm := .none },
  { cls := 11, slots := #[.long (-23)], vm := .none },
  { cls := 11, slots := #[.long (-22)], vm := .none },
  { cls := 11, slots := #[.long (-21)], vm := .none },
  { cls := 11, slots := #[.long (-20)], vm := .none },
  { cls := 11, slots := #[.long (-19)], vm := .none },
  { cls := 11, slots := #[.long (-18)], vm := .none },
  { cls := 11, slots := #[.long (-17)], vm := .none },
  { cls := 11, slots := #[.long (-16)], vm := .none },
  { cls := 11, slots := #[.long (-15)], vm := .none },
  { cls := 11, slots := #[.long (-14)], vm := .none },
  { cls := 11, slots := #[.long (-13)], vm := .none },
  { cls := 11, slots := #[.long (-12)], vm := .none },
  { cls := 11, slots := #[.long (-11)], vm := .none },
  { cls := 11, slots := #[.long (-10)], vm := .none },
  { cls := 11, slots := #[.long (-9)], vm := .none },
  { cls := 11, slots := #[.long (-8)], vm := .none },
  { cls := 11, slots := #[.long (-7)], vm := .none },
  { cls := 11, slots := #[.long (-6)], vm := .none },
  { cls := 11, slots := #[.long (-5)], vm := .none },
  { cls := 11, slots := #[.long (-4)], vm := .none },
  { cls := 11, slots := #[.long (-3)], vm := .none },
  { cls := 11, slots := #[.long (-2)], vm := .none },
  { cls := 11, slots := #[.long (-1)], vm := .none },
  { cls := 11, slots := #[.long (0)], vm := .none },
  { cls := 11, slots := #[.long (1)], vm := .none },
  { cls := 11, slots := #[.long (2)], vm := .none },
  { cls := 11, slots := #[.long (3)], vm := .none },
  { cls := 11, slots := #[.long (4)], vm := .none },
  { cls := 11, slots := #[.long (5)], vm := .none },
  { cls := 11, slots := #[.long (6)], vm := .none },
  { cls := 11, slots := #[.long (7)], vm := .none },
  { cls := 11, slots := #[.long (8)], vm := .none },
  { cls := 11, slots := #[.long (9)], vm := .none },
  { cls := 11, slots := #[.long (10)], vm := .none },
  { cls := 11, slots := #[.long (11)], vm := .none },
  { cls := 11, slots := #[.long (12)], vm := .none },
  { cls := 11, slots := #[.long (13)], vm := .none },
  { cls := 11, slots := #[.long (14)], vm := .none },
  { cls := 11, slots := #[.long (15)], vm := .none },
  { cls := 11, slots := #[.long (16)], vm := .none },
  { cls := 11, slots := #[.long (17)], vm := .none },
  { cls := 11, slots := #[.long (18)], vm := .none },
  { cls := 11, slots := #[.long (19)], vm := .none },
  { cls := 11, slots := #[.long (20)], vm := .none },
  { cls := 11, slots := #[.long (21)], vm := .none },
  { cls := 11, slots := #[.long (22)], vm := .none },
  { cls := 11, slots := #[.long (23)], vm := .none },
  { cls := 11, slots := #[.long (24)], vm := .none },
  { cls := 11, slots := #[.long (25)], vm := .none },
  { cls := 11, slots := #[.long (26)], vm := .none },
  { cls := 11, slots := #[.long (27)], vm := .none },
  { cls := 11, slots := #[.long (28)], vm := .none },
  { cls := 11, slots := #[.long (29)], vm := .none },
  { cls := 11, slots := #[.long (30)], vm := .none },
  { cls := 11, slots := #[.long (31)], vm := .none },
  { cls := 11, slots := #[.long (32)], vm := .none },
  { cls := 11, slots := #[.long (33)], vm := .none },
  { cls := 11, slots := #[.long (34)], vm := .none },
  { cls := 11, slots := #[.long (35)], vm := .none },
  { cls := 11, slots := #[.long (36)], vm := .none },
  { cls := 11, slots := #[.long (37)], vm := .none },
  { cls := 11, slots := #[.long (38)], vm := .none },
  { cls := 11, slots := #[.long (39)], vm := .none },
  { cls := 11, slots := #[.long (40)], vm := .none },
  { cls := 11, slots := #[.long (41)], vm := .none },
  { cls := 11, slots := #[.long (42)], vm := .none },
  { cls := 11, slots := #[.long (43)], vm := .none },
  { cls := 11, slots := #[.long (44)], vm := .none },
  { cls := 11, slots := #[.long (45)], vm := .none },
  { cls := 11, slots := #[.long (46)], vm := .none },
  { cls := 11, slots := #[.long (47)], vm := .none },
  { cls := 11, slots := #[.long (48)], vm := .none },
  { cls := 11, slots := #[.long (49)], vm := .none },
  { cls := 11, slots := #[.long (50)], vm := .none },
  { cls := 11, slots := #[.long (51)], vm := .none },
  { cls := 11, slots := #[.long (52)], vm := .none },
  { cls := 11, slots := #[.long (53)], vm := .none },
  { cls := 11, slots := #[.long (54)], vm := .none },
  { cls := 11, slots := #[.long (55)], vm := .none },
  { cls := 11, slots := #[.long (56)], vm := .none },
  { cls := 11, slots := #[.long (57)], vm := .none },
  { cls := 11, slots := #[.long (58)], vm := .none },
  { cls := 11, slots := #[.long (59)], vm := .none },
  { cls := 11, slots := #[.long (60)], vm := .none },
  { cls := 11, slots := #[.long (61)], vm := .none },
  { cls := 11, slots := #[.long (62)], vm := .none },
  { cls := 11, slots := #[.long (63)], vm := .none },
  { cls := 11, slots := #[.long (64)], vm := .none },
  { cls := 11, slots := #[.long (65)], vm := .none },
  { cls := 11, slots := #[.long (66)], vm := .none },
  { cls := 11, slots := #[.long (67)], vm := .none },
  { cls := 11, slots := #[.long (68)], vm := .none },
  { cls := 11, slots := #[.long (69)], vm := .none },
  { cls := 11, slots := #[.long (70)], vm := .none },
  { cls := 11, slots := #[.long (71)], vm := .none },
  { cls := 11, slots := #[.long (72)], vm := .none },
  { cls := 11, slots := #[.long (73)], vm := .none },
  { cls := 11, slots := #[.long (74)], vm := .none },
  { cls := 11, slots := #[.long (75)], vm := .none },
  { cls := 11, slots := #[.long (76)], vm := .none },
  { cls := 11, slots := #[.long (77)], vm := .none },
  { cls := 11, slots := #[.long (78)], vm := .none },
  { cls := 11, slots := #[.long (79)], vm := .none },
  { cls := 11, slots := #[.long (80)], vm := .none },
  { cls := 11, slots := #[.long (81)], vm := .none },
  { cls := 11, slots := #[.long (82)], vm := .none },
  { cls := 11, slots := #[.long (83)], vm := .none },
  { cls := 11, slots := #[.long (84)], vm := .none },
  { cls := 11, slots := #[.long (85)], vm := .none },
  { cls := 11, slots := #[.long (86)], vm := .none },
  { cls := 11, slots := #[.long (87)], vm := .none },
  { cls := 11, slots := #[.long (88)], vm := .none },
  { cls := 11, slots := #[.long (89)], vm := .none },
  { cls := 11, slots := #[.long (90)], vm := .none },
  { cls := 11, slots := #[.long (91)], vm := .none },
  { cls := 11, slots := #[.long (92)], vm := .none },
  { cls := 11, slots := #[.long (93)], vm := .none },
  { cls := 11, slots := #[.long (94)], vm := .none },
  { cls := 11, slots := #[.long (95)], vm := .none },
  { cls := 11, slots := #[.long (96)], vm := .none },
  { cls := 11, slots := #[.long (97)], vm := .none },
  { cls := 11, slots := #[.long (98)], vm := .none },
  { cls := 11, slots := #[.long (99)], vm := .none },
  { cls := 11, slots := #[.long (100)], vm := .none },
  { cls := 11, slots := #[.long (101)], vm := .none },
  { cls := 11, slots := #[.long (102)], vm := .none },
  { cls := 11, slots := #[.long (103)], vm := .none },
  { cls := 11, slots := #[.long (104)], vm := .none },
  { cls := 11, slots := #[.long (105)], vm := .none },
  { cls := 11, slots := #[.long (106)], vm := .none },
  { cls := 11, slots := #[.long (107)], vm := .none },
  { cls := 11, slots := #[.long (108)], vm := .none },
  { cls := 11, slots := #[.long (109)], vm := .none },
  { cls := 11, slots := #[.long (110)], vm := .none },
  { cls := 11, slots := #[.long (111)], vm := .none },
  { cls := 11, slots := #[.long (112)], vm := .none },
  { cls := 11, slots := #[.long (113)], vm := .none },
  { cls := 11, slots := #[.long (114)], vm := .none },
  { cls := 11, slots := #[.long (115)], vm := .none },
  { cls := 11, slots := #[.long (116)], vm := .none },
  { cls := 11, slots := #[.long (117)], vm := .none },
  { cls := 11, slots := #[.long (118)], vm := .none },
  { cls := 11, slots := #[.long (119)], vm := .none },
  { cls := 11, slots := #[.long (120)], vm := .none },
  { cls := 11, slots := #[.long (121)], vm := .none },
  { cls := 11, slots := #[.long (122)], vm := .none },
  { cls := 11, slots := #[.long (123)], vm := .none },
  { cls := 11, slots := #[.long (124)], vm := .none },
  { cls := 11, slots := #[.long (125)], vm := .none },
  { cls := 11, slots := #[.long (126)], vm := .none },
  { cls := 11, slots := #[.long (127)], vm := .none },
  { cls := 6, slots := #[.null, .int (0), .int 0], vm := .none },
  { cls := 6, slots := #[.null, .int (2), .int 0], vm := .none },
  { cls := 6, slots := #[.null, .int (1), .int 0], vm := .none },
  { cls := 6, slots := #[.null, .int (3), .int 0], vm := .none },
  { cls := 22, slots := #[.int 48, .int 49, .int 50, .int 51, .int 52, .int 53, .int 54, .int 55, .int 56, .int 57, .int 48, .int 49, .int 50, .int 51, .int 52, .int 53, .int 54, .int 55, .int 56, .int 57, .int 48, .int 49, .int 50, .int 51, .int 52, .int 53, .int 54, .int 55, .int 56, .int 57, .int 48, .int 49, .int 50, .int 51, .int 52, .int 53, .int 54, .int 55, .int 56, .int 57, .int 48, .int 49, .int 50, .int 51, .int 52, .int 53, .int 54, .int 55, .int 56, .int 57, .int 48, .int 49, .int 50, .int 51, .int 52, .int 53, .int 54, .int 55, .int 56, .int 57, .int 48, .int 49, .int 50, .int 51, .int 52, .int 53, .int 54, .int 55, .int 56, .int 57, .int 48, .int 49, .int 50, .int 51, .int 52, .int 53, .int 54, .int 55, .int 56, .int 57, .int 48, .int 49, .int 50, .int 51, .int 52, .int 53, .int 54, .int 55, .int 56, .int 57, .int 48, .int 49, .int 50, .int 51, .int 52, .int 53, .int 54, .int 55, .int 56, .int 57], vm := .none },
  { cls := 22, slots := #[.int 48, .int 48, .int 48, .int 48, .int 48, .int 48, .int 48, .int 48, .int 48, .int 48, .int 49, .int 49, .int 49, .int 49, .int 49, .int 49, .int 49, .int 49, .int 49, .int 49, .int 50, .int 50, .int 50, .int 50, .int 50, .int 50, .int 50, .int 50, .int 50, .int 50, .int 51, .int 51, .int 51, .int 51, .int 51, .int 51, .int 51, .int 51, .int 51, .int 51, .int 52, .int 52, .int 52, .int 52, .int 52, .int 52, .int 52, .int 52, .int 52, .int 52, .int 53, .int 53, .int 53, .int 53, .int 53, .int 53, .int 53, .int 53, .int 53, .int 53, .int 54, .int 54, .int 54, .int 54, .int 54, .int 54, .int 54, .int 54, .int 54, .int 54, .int 55, .int 55, .int 55, .int 55, .int 55, .int 55, .int 55, .int 55, .int 55, .int 55, .int 56, .int 56, .int 56, .int 56, .int 56, .int 56, .int 56, .int 56, .int 56, .int 56, .int 57, .int 57, .int 57, .int 57, .int 57, .int 57, .int 57, .int 57, .int 57, .int 57], vm := .none }]
def classes : Array Class := #[k0, k1, k2, k3, k4, k5, k6, k7, k8, k9, k10, k11, k12, k13, k14, k15, k16, k17, k18, k19, k20, k21, k22, k23, k24, k25]
def interned : List (Array UInt16 × Addr) := []
def slotsUsed : Nat := 751
def theMethod : MethodId := ⟨1, 2⟩
def args0 : Array Value := #[.int 0, .int 5]
def aboutOver (below : List Frame) : State where
  vm := { classes := classes, interned := interned.toArray }
  heap := heap
  slotsUsed := slotsUsed
  threads := #[{ frames := .invoking theMethod args0 :: below }]
def below0 : List Frame := [.native { method := ⟨0, 0⟩, args := #[] }]
def about1 : State := aboutOver below0
def p0 : Program := .bare "" "" ""
def e0 : Env := launch0.env 0 0 0
theorem w_frames : about1.frames = Frame.invoking theMethod args0 :: below0 := rfl
set_option maxRecDepth 65536 in
theorem w_args : argsFit about1.vm theMethod args0 = true := by decide +kernel
set_option maxRecDepth 65536 in
theorem w_heap : heapFits about1 = true := by decide +kernel
set_option maxRecDepth 65536 in
theorem w_runnable : about1.curStatus? = some .runnable := by decide +kernel
set_option maxRecDepth 65536 in
theorem w_alone : about1.alone = true := by decide +kernel
set_option maxRecDepth 65536 in
theorem w_named : about1.methodNamed? x = some theMethod := by decide +kernel
set_option maxRecDepth 65536 in
theorem w_hears : about1.hears theMethod below0 = true := by decide +kernel
set_option maxRecDepth 65536 in
theorem w_ripe : about1.ripe theMethod args0 below0 = true := by decide +kernel
theorem w_running : about1.status = .running := rfl
set_option maxRecDepth 65536 in
theorem w_room : about1.hasRoom e0.platform room_1 = true :=
  launch0.hasRoom_least _ room_1 (by decide +kernel) (by decide +kernel) (by decide +kernel) (by decide +kernel) (by decide +kernel) (by decide +kernel)
theorem allAtoms_all (ts : List Jvm.Cond) (a : Array Jvm.Value) (st : Jvm.State) : (allAtoms ts).before a st = ts.all (fun c => c.before a st) := by
  induction ts with
  | nil => rfl
  | cons c t ih =>
    show (Jvm.Cond.and c (allAtoms t)).before a st = _
    rw [Jvm.Cond.before_and, ih, List.all_cons]
def words1 : List Jvm.Cond := Jvm.Cond.code x code maxLocals ret :: tables_1
/-- a 'code' word, met by the world's own term for the bytes: nothing is compared byte by byte -/
theorem code_word {y : MethodName} {bytes : ByteArray} {mx : Nat} {rt : Option FieldType} {a : Array Value} {s : State} {m : MethodId} {meth : Method} {c : Code} (h1 : s.methodNamed? y = some m) (h2 : s.vm.method? m = some meth) (h3 : meth.code = some c) (h4 : c.code = bytes)
    (h5 : (c.maxLocals == mx && c.exceptionTable.isEmpty && decide (c.maxStack ≤ mostOperands) && decide (meth.sig.returnType = rt) && !meth.locks && decide (parseMethodDescriptor y.desc = some meth.sig)) = true) : (Jvm.Cond.code y bytes mx rt).before a s = true := by
  simp only [Bool.and_eq_true, beq_iff_eq, Bool.not_eq_true', decide_eq_true_eq] at h5
  obtain ⟨⟨⟨⟨⟨g1, g2⟩, g3⟩, g4⟩, g5⟩, g6⟩ := h5
  simp [Cond.before, Cond.holds, Cond.value, h1, h2, h3, h4, g1, g2, g3, g4, g5, g6]
def isCode : Jvm.Cond → Bool
  | .code _ _ _ _ => true
  | _ => false
theorem all_split {L : List Jvm.Cond} {P : Jvm.Cond → Bool} (h1 : L.all (fun c => isCode c || P c) = true) (h2 : ∀ c ∈ L.filter isCode, P c = true) : L.all P = true := by
  refine List.all_eq_true.mpr fun c hc => ?_
  have h := List.all_eq_true.mp h1 c hc
  rcases Bool.eq_false_or_eq_true (isCode c) with hi | hi
  · exact h2 c (List.mem_filter.mpr ⟨hc, hi⟩)
  · simpa [hi] using h
set_option maxRecDepth 65536 in
theorem w_c0 : (Jvm.Cond.code x code maxLocals ret).before args0 about1 = true := code_word (m := ⟨1, 2⟩) (meth := k1m2) (c := k1c2) (by decide +kernel) rfl rfl rfl (by decide +kernel)
set_option maxRecDepth 65536 in
theorem w_c1 : (Jvm.Cond.code ({ cls := "com/example/gapstone/gapstone/KindIntegerPinLaw", name := "pick", desc := "(I)Lcom/example/gapstone/gapstone/ColumnType$Kind;" } : Jvm.MethodName) method_2_code (1 : Nat) (Option.some (Jvm.ClassFile.FieldType.object "com/example/gapstone/gapstone/ColumnType$Kind"))).before args0 about1 = true := code_word (m := ⟨1, 1⟩) (meth := k1m1) (c := k1c1) (by decide +kernel) rfl rfl rfl (by decide +kernel)
set_option maxRecDepth 65536 in
theorem w_c2 : (Jvm.Cond.code ({ cls := "com/example/gapstone/gapstone/ColumnType$Kind", name := "integer", desc := "()Z" } : Jvm.MethodName) prog_3_method_4_code (1 : Nat) (Option.some Jvm.ClassFile.FieldType.boolean)).before args0 about1 = true := code_word (m := ⟨6, 0⟩) (meth := k6m0) (c := k6c0) (by decide +kernel) rfl rfl rfl (by decide +kernel)
set_option maxRecDepth 65536 in
theorem w_c3 : (Jvm.Cond.code ({ cls := "com/example/gapstone/gapstone/ColumnType", name := "<init>", desc := "(Lcom/example/gapstone/gapstone/ColumnType$Kind;I)V" } : Jvm.MethodName) prog_2_method_1_code (3 : Nat) (Option.none : Option Jvm.ClassFile.FieldType)).before args0 about1 = true := code_word (m := ⟨8, 0⟩) (meth := k8m0) (c := k8c0) (by decide +kernel) rfl rfl rfl (by decide +kernel)
set_option maxRecDepth 65536 in
theorem w_c4 : (Jvm.Cond.code ({ cls := "java/lang/Record", name := "<init>", desc := "()V" } : Jvm.MethodName) jdk_30_method_1_code (1 : Nat) (Option.none : Option Jvm.ClassFile.FieldType)).before args0 about1 = true := code_word (m := ⟨7, 0⟩) (meth := k7m0) (c := k7c0) (by decide +kernel) rfl rfl rfl (by decide +kernel)
set_option maxRecDepth 65536 in
theorem w_c5 : (Jvm.Cond.code ({ cls := "java/lang/Object", name := "<init>", desc := "()V" } : Jvm.MethodName) object_method_1_code (1 : Nat) (Option.none : Option Jvm.ClassFile.FieldType)).before args0 about1 = true := code_word (m := ⟨0, 0⟩) (meth := k0m0) (c := k0c0) (by decide +kernel) rfl rfl rfl (by decide +kernel)
set_option maxRecDepth 65536 in
theorem w_c6 : (Jvm.Cond.code ({ cls := "java/lang/Long", name := "valueOf", desc := "(J)Ljava/lang/Long;" } : Jvm.MethodName) jdk_35_method_24_code (3 : Nat) (Option.some (Jvm.ClassFile.FieldType.object "java/lang/Long"))).before args0 about1 = true := code_word (m := ⟨11, 3⟩) (meth := k11m3) (c := k11c3) (by decide +kernel) rfl rfl rfl (by decide +kernel)
set_option maxRecDepth 65536 in
theorem w_c7 : (Jvm.Cond.code ({ cls := "com/example/gapstone/gapstone/ColumnType", name := "store", desc := "(Ljava/lang/Object;)Ljava/lang/Object;" } : Jvm.MethodName) prog_2_method_2_code (2 : Nat) (Option.some (Jvm.ClassFile.FieldType.object "java/lang/Object"))).before args0 about1 = true := code_word (m := ⟨8, 1⟩) (meth := k8m1) (c := k8c1) (by decide +kernel) rfl rfl rfl (by decide +kernel)
set_option maxRecDepth 65536 in
theorem w_c8 : (Jvm.Cond.code ({ cls := "java/lang/Enum", name := "ordinal", desc := "()I" } : Jvm.MethodName) jdk_37_method_2_code (1 : Nat) (Option.some Jvm.ClassFile.FieldType.int)).before args0 about1 = true := code_word (m := ⟨5, 0⟩) (meth := k5m0) (c := k5c0) (by decide +kernel) rfl rfl rfl (by decide +kernel)
set_option maxRecDepth 65536 in
theorem w_c9 : (Jvm.Cond.code ({ cls := "com/example/gapstone/gapstone/ColumnType", name := "integer", desc := "(Ljava/lang/Object;)J" } : Jvm.MethodName) prog_2_method_3_code (1 : Nat) (Option.some Jvm.ClassFile.FieldType.long)).before args0 about1 = true := code_word (m := ⟨8, 2⟩) (meth := k8m2) (c := k8c2) (by decide +kernel) rfl rfl rfl (by decide +kernel)
set_option maxRecDepth 65536 in
theorem w_c10 : (Jvm.Cond.code ({ cls := "java/lang/Long", name := "longValue", desc := "()J" } : Jvm.MethodName) jdk_35_method_31_code (1 : Nat) (Option.some Jvm.ClassFile.FieldType.long)).before args0 about1 = true := code_word (m := ⟨11, 5⟩) (meth := k11m5) (c := k11c5) (by decide +kernel) rfl rfl rfl (by decide +kernel)
set_option maxRecDepth 65536 in
theorem w_c11 : (Jvm.Cond.code ({ cls := "com/example/gapstone/gapstone/ColumnType", name := "asInt", desc := "(J)Ljava/lang/Long;" } : Jvm.MethodName) prog_2_method_4_code (2 : Nat) (Option.some (Jvm.ClassFile.FieldType.object "java/lang/Long"))).before args0 about1 = true := code_word (m := ⟨8, 3⟩) (meth := k8m3) (c := k8c3) (by decide +kernel) rfl rfl rfl (by decide +kernel)
set_option maxRecDepth 65536 in
theorem w_c12 : (Jvm.Cond.code ({ cls := "com/example/gapstone/gapstone/ColumnType", name := "text", desc := "(Ljava/lang/Object;)Ljava/lang/String;" } : Jvm.MethodName) prog_2_method_5_code (5 : Nat) (Option.some (Jvm.ClassFile.FieldType.object "java/lang/String"))).before args0 about1 = true := code_word (m := ⟨8, 4⟩) (meth := k8m4) (c := k8c4) (by decide +kernel) rfl rfl rfl (by decide +kernel)
set_option maxRecDepth 65536 in
theorem w_c13 : (Jvm.Cond.code ({ cls := "java/lang/Long", name := "toString", desc := "()Ljava/lang/String;" } : Jvm.MethodName) jdk_35_method_34_code (1 : Nat) (Option.some (Jvm.ClassFile.FieldType.object "java/lang/String"))).before args0 about1 = true := code_word (m := ⟨11, 6⟩) (meth := k11m6) (c := k11c6) (by decide +kernel) rfl rfl rfl (by decide +kernel)
set_option maxRecDepth 65536 in
theorem w_c14 : (Jvm.Cond.code ({ cls := "java/lang/Long", name := "toString", desc := "(J)Ljava/lang/String;" } : Jvm.MethodName) jdk_35_method_12_code (4 : Nat) (Option.some (Jvm.ClassFile.FieldType.object "java/lang/String"))).before args0 about1 = true := code_word (m := ⟨11, 0⟩) (meth := k11m0) (c := k11c0) (by decide +kernel) rfl rfl rfl (by decide +kernel)
set_option maxRecDepth 65536 in
theorem w_c15 : (Jvm.Cond.code ({ cls := "java/lang/Long", name := "stringSize", desc := "(J)I" } : Jvm.MethodName) jdk_35_method_15_code (6 : Nat) (Option.some Jvm.ClassFile.FieldType.int)).before args0 about1 = true := code_word (m := ⟨11, 2⟩) (meth := k11m2) (c := k11c2) (by decide +kernel) rfl rfl rfl (by decide +kernel)
set_option maxRecDepth 65536 in
theorem w_c16 : (Jvm.Cond.code ({ cls := "java/lang/Long", name := "getChars", desc := "(JI[B)I" } : Jvm.MethodName) jdk_35_method_14_code (11 : Nat) (Option.some Jvm.ClassFile.FieldType.int)).before args0 about1 = true := code_word (m := ⟨11, 1⟩) (meth := k11m1) (c := k11c1) (by decide +kernel) rfl rfl rfl (by decide +kernel)
set_option maxRecDepth 65536 in
theorem w_c17 : (Jvm.Cond.code ({ cls := "java/lang/String", name := "<init>", desc := "([BB)V" } : Jvm.MethodName) jdk_42_method_151_code (3 : Nat) (Option.none : Option Jvm.ClassFile.FieldType)).before args0 about1 = true := code_word (m := ⟨14, 5⟩) (meth := k14m5) (c := k14c5) (by decide +kernel) rfl rfl rfl (by decide +kernel)
set_option maxRecDepth 65536 in
theorem w_c18 : (Jvm.Cond.code ({ cls := "java/lang/String", name := "length", desc := "()I" } : Jvm.MethodName) jdk_42_method_54_code (1 : Nat) (Option.some Jvm.ClassFile.FieldType.int)).before args0 about1 = true := code_word (m := ⟨14, 1⟩) (meth := k14m1) (c := k14c1) (by decide +kernel) rfl rfl rfl (by decide +kernel)
set_option maxRecDepth 65536 in
theorem w_c19 : (Jvm.Cond.code ({ cls := "java/lang/String", name := "coder", desc := "()B" } : Jvm.MethodName) jdk_42_method_152_code (1 : Nat) (Option.some Jvm.ClassFile.FieldType.byte)).before args0 about1 = true := code_word (m := ⟨14, 6⟩) (meth := k14m6) (c := k14c6) (by decide +kernel) rfl rfl rfl (by decide +kernel)
set_option maxRecDepth 65536 in
theorem w_c20 : (Jvm.Cond.code ({ cls := "java/lang/String", name := "codePointCount", desc := "(II)I" } : Jvm.MethodName) jdk_42_method_59_code (3 : Nat) (Option.some Jvm.ClassFile.FieldType.int)).before args0 about1 = true := code_word (m := ⟨14, 3⟩) (meth := k14m3) (c := k14c3) (by decide +kernel) rfl rfl rfl (by decide +kernel)
set_option maxRecDepth 65536 in
theorem w_c21 : (Jvm.Cond.code ({ cls := "java/util/Objects", name := "checkFromToIndex", desc := "(III)I" } : Jvm.MethodName) jdk_31_method_18_code (3 : Nat) (Option.some Jvm.ClassFile.FieldType.int)).before args0 about1 = true := code_word (m := ⟨16, 1⟩) (meth := k16m1) (c := k16c1) (by decide +kernel) rfl rfl rfl (by decide +kernel)
set_option maxRecDepth 65536 in
theorem w_c22 : (Jvm.Cond.code ({ cls := "jdk/internal/util/Preconditions", name := "checkFromToIndex", desc := "(IIILjava/util/function/BiFunction;)I" } : Jvm.MethodName) jdk_41_method_12_code (4 : Nat) (Option.some Jvm.ClassFile.FieldType.int)).before args0 about1 = true := code_word (m := ⟨17, 2⟩) (meth := k17m2) (c := k17c2) (by decide +kernel) rfl rfl rfl (by decide +kernel)
set_option maxRecDepth 65536 in
theorem w_c23 : (Jvm.Cond.code ({ cls := "java/lang/String", name := "isLatin1", desc := "()Z" } : Jvm.MethodName) jdk_42_method_154_code (1 : Nat) (Option.some Jvm.ClassFile.FieldType.boolean)).before args0 about1 = true := code_word (m := ⟨14, 7⟩) (meth := k14m7) (c := k14c7) (by decide +kernel) rfl rfl rfl (by decide +kernel)
set_option maxRecDepth 65536 in
theorem w_c24 : (Jvm.Cond.code ({ cls := "com/example/gapstone/gapstone/ColumnType", name := "stripTrailingSpaces", desc := "(Ljava/lang/String;)Ljava/lang/String;" } : Jvm.MethodName) prog_2_method_6_code (2 : Nat) (Option.some (Jvm.ClassFile.FieldType.object "java/lang/String"))).before args0 about1 = true := code_word (m := ⟨8, 5⟩) (meth := k8m5) (c := k8c5) (by decide +kernel) rfl rfl rfl (by decide +kernel)
set_option maxRecDepth 65536 in
theorem w_c25 : (Jvm.Cond.code ({ cls := "java/lang/String", name := "charAt", desc := "(I)C" } : Jvm.MethodName) jdk_42_method_56_code (2 : Nat) (Option.some Jvm.ClassFile.FieldType.char)).before args0 about1 = true := code_word (m := ⟨14, 2⟩) (meth := k14m2) (c := k14c2) (by decide +kernel) rfl rfl rfl (by decide +kernel)
set_option maxRecDepth 65536 in
theorem w_c26 : (Jvm.Cond.code ({ cls := "java/lang/StringLatin1", name := "charAt", desc := "([BI)C" } : Jvm.MethodName) jdk_43_method_2_code (2 : Nat) (Option.some Jvm.ClassFile.FieldType.char)).before args0 about1 = true := code_word (m := ⟨18, 1⟩) (meth := k18m1) (c := k18c1) (by decide +kernel) rfl rfl rfl (by decide +kernel)
set_option maxRecDepth 65536 in
theorem w_c27 : (Jvm.Cond.code ({ cls := "java/lang/String", name := "checkIndex", desc := "(II)V" } : Jvm.MethodName) jdk_42_method_155_code (2 : Nat) (Option.none : Option Jvm.ClassFile.FieldType)).before args0 about1 = true := code_word (m := ⟨14, 8⟩) (meth := k14m8) (c := k14c8) (by decide +kernel) rfl rfl rfl (by decide +kernel)
set_option maxRecDepth 65536 in
theorem w_c28 : (Jvm.Cond.code ({ cls := "jdk/internal/util/Preconditions", name := "checkIndex", desc := "(IILjava/util/function/BiFunction;)I" } : Jvm.MethodName) jdk_41_method_11_code (3 : Nat) (Option.some Jvm.ClassFile.FieldType.int)).before args0 about1 = true := code_word (m := ⟨17, 1⟩) (meth := k17m1) (c := k17c1) (by decide +kernel) rfl rfl rfl (by decide +kernel)
set_option maxRecDepth 65536 in
theorem w_c29 : (Jvm.Cond.code ({ cls := "java/lang/String", name := "substring", desc := "(II)Ljava/lang/String;" } : Jvm.MethodName) jdk_42_method_92_code (5 : Nat) (Option.some (Jvm.ClassFile.FieldType.object "java/lang/String"))).before args0 about1 = true := code_word (m := ⟨14, 4⟩) (meth := k14m4) (c := k14c4) (by decide +kernel) rfl rfl rfl (by decide +kernel)
set_option maxRecDepth 65536 in
theorem w_c30 : (Jvm.Cond.code ({ cls := "java/lang/String", name := "checkBoundsBeginEnd", desc := "(III)V" } : Jvm.MethodName) jdk_42_method_158_code (3 : Nat) (Option.none : Option Jvm.ClassFile.FieldType)).before args0 about1 = true := code_word (m := ⟨14, 9⟩) (meth := k14m9) (c := k14c9) (by decide +kernel) rfl rfl rfl (by decide +kernel)
set_option maxRecDepth 65536 in
theorem w_c31 : (Jvm.Cond.code ({ cls := "java/lang/Long", name := "<init>", desc := "(J)V" } : Jvm.MethodName) jdk_35_method_26_code (3 : Nat) (Option.none : Option Jvm.ClassFile.FieldType)).before args0 about1 = true := code_word (m := ⟨11, 4⟩) (meth := k11m4) (c := k11c4) (by decide +kernel) rfl rfl rfl (by decide +kernel)
set_option maxRecDepth 65536 in
theorem w_c32 : (Jvm.Cond.code ({ cls := "java/lang/Number", name := "<init>", desc := "()V" } : Jvm.MethodName) jdk_18_method_1_code (1 : Nat) (Option.none : Option Jvm.ClassFile.FieldType)).before args0 about1 = true := code_word (m := ⟨9, 0⟩) (meth := k9m0) (c := k9c0) (by decide +kernel) rfl rfl rfl (by decide +kernel)
def codes1 : List Jvm.Cond := [Jvm.Cond.code x code maxLocals ret, Jvm.Cond.code ({ cls := "com/example/gapstone/gapstone/KindIntegerPinLaw", name := "pick", desc := "(I)Lcom/example/gapstone/gapstone/ColumnType$Kind;" } : Jvm.MethodName) method_2_code (1 : Nat) (Option.some (Jvm.ClassFile.FieldType.object "com/example/gapstone/gapstone/ColumnType$Kind")), Jvm.Cond.code ({ cls := "com/example/gapstone/gapstone/ColumnType$Kind", name := "integer", desc := "()Z" } : Jvm.MethodName) prog_3_method_4_code (1 : Nat) (Option.some Jvm.ClassFile.FieldType.boolean), Jvm.Cond.code ({ cls := "com/example/gapstone/gapstone/ColumnType", name := "<init>", desc := "(Lcom/example/gapstone/gapstone/ColumnType$Kind;I)V" } : Jvm.MethodName) prog_2_method_1_code (3 : Nat) (Option.none : Option Jvm.ClassFile.FieldType), Jvm.Cond.code ({ cls := "java/lang/Record", name := "<init>", desc := "()V" } : Jvm.MethodName) jdk_30_method_1_code (1 : Nat) (Option.none : Option Jvm.ClassFile.FieldType), Jvm.Cond.code ({ cls := "java/lang/Object", name := "<init>", desc := "()V" } : Jvm.MethodName) object_method_1_code (1 : Nat) (Option.none : Option Jvm.ClassFile.FieldType), Jvm.Cond.code ({ cls := "java/lang/Long", name := "valueOf", desc := "(J)Ljava/lang/Long;" } : Jvm.MethodName) jdk_35_method_24_code (3 : Nat) (Option.some (Jvm.ClassFile.FieldType.object "java/lang/Long")), Jvm.Cond.code ({ cls := "com/example/gapstone/gapstone/ColumnType", name := "store", desc := "(Ljava/lang/Object;)Ljava/lang/Object;" } : Jvm.MethodName) prog_2_method_2_code (2 : Nat) (Option.some (Jvm.ClassFile.FieldType.object "java/lang/Object")), Jvm.Cond.code ({ cls := "java/lang/Enum", name := "ordinal", desc := "()I" } : Jvm.MethodName) jdk_37_method_2_code (1 : Nat) (Option.some Jvm.ClassFile.FieldType.int), Jvm.Cond.code ({ cls := "com/example/gapstone/gapstone/ColumnType", name := "integer", desc := "(Ljava/lang/Object;)J" } : Jvm.MethodName) prog_2_method_3_code (1 : Nat) (Option.some Jvm.ClassFile.FieldType.long), Jvm.Cond.code ({ cls := "java/lang/Long", name := "longValue", desc := "()J" } : Jvm.MethodName) jdk_35_method_31_code (1 : Nat) (Option.some Jvm.ClassFile.FieldType.long), Jvm.Cond.code ({ cls := "com/example/gapstone/gapstone/ColumnType", name := "asInt", desc := "(J)Ljava/lang/Long;" } : Jvm.MethodName) prog_2_method_4_code (2 : Nat) (Option.some (Jvm.ClassFile.FieldType.object "java/lang/Long")), Jvm.Cond.code ({ cls := "com/example/gapstone/gapstone/ColumnType", name := "text", desc := "(Ljava/lang/Object;)Ljava/lang/String;" } : Jvm.MethodName) prog_2_method_5_code (5 : Nat) (Option.some (Jvm.ClassFile.FieldType.object "java/lang/String")), Jvm.Cond.code ({ cls := "java/lang/Long", name := "toString", desc := "()Ljava/lang/String;" } : Jvm.MethodName) jdk_35_method_34_code (1 : Nat) (Option.some (Jvm.ClassFile.FieldType.object "java/lang/String")), Jvm.Cond.code ({ cls := "java/lang/Long", name := "toString", desc := "(J)Ljava/lang/String;" } : Jvm.MethodName) jdk_35_method_12_code (4 : Nat) (Option.some (Jvm.ClassFile.FieldType.object "java/lang/String")), Jvm.Cond.code ({ cls := "java/lang/Long", name := "stringSize", desc := "(J)I" } : Jvm.MethodName) jdk_35_method_15_code (6 : Nat) (Option.some Jvm.ClassFile.FieldType.int), Jvm.Cond.code ({ cls := "java/lang/Long", name := "getChars", desc := "(JI[B)I" } : Jvm.MethodName) jdk_35_method_14_code (11 : Nat) (Option.some Jvm.ClassFile.FieldType.int), Jvm.Cond.code ({ cls := "java/lang/String", name := "<init>", desc := "([BB)V" } : Jvm.MethodName) jdk_42_method_151_code (3 : Nat) (Option.none : Option Jvm.ClassFile.FieldType), Jvm.Cond.code ({ cls := "java/lang/String", name := "length", desc := "()I" } : Jvm.MethodName) jdk_42_method_54_code (1 : Nat) (Option.some Jvm.ClassFile.FieldType.int), Jvm.Cond.code ({ cls := "java/lang/String", name := "coder", desc := "()B" } : Jvm.MethodName) jdk_42_method_152_code (1 : Nat) (Option.some Jvm.ClassFile.FieldType.byte), Jvm.Cond.code ({ cls := "java/lang/String", name := "codePointCount", desc := "(II)I" } : Jvm.MethodName) jdk_42_method_59_code (3 : Nat) (Option.some Jvm.ClassFile.FieldType.int), Jvm.Cond.code ({ cls := "java/util/Objects", name := "checkFromToIndex", desc := "(III)I" } : Jvm.MethodName) jdk_31_method_18_code (3 : Nat) (Option.some Jvm.ClassFile.FieldType.int), Jvm.Cond.code ({ cls := "jdk/internal/util/Preconditions", name := "checkFromToIndex", desc := "(IIILjava/util/function/BiFunction;)I" } : Jvm.MethodName) jdk_41_method_12_code (4 : Nat) (Option.some Jvm.ClassFile.FieldType.int), Jvm.Cond.code ({ cls := "java/lang/String", name := "isLatin1", desc := "()Z" } : Jvm.MethodName) jdk_42_method_154_code (1 : Nat) (Option.some Jvm.ClassFile.FieldType.boolean), Jvm.Cond.code ({ cls := "com/example/gapstone/gapstone/ColumnType", name := "stripTrailingSpaces", desc := "(Ljava/lang/String;)Ljava/lang/String;" } : Jvm.MethodName) prog_2_method_6_code (2 : Nat) (Option.some (Jvm.ClassFile.FieldType.object "java/lang/String")), Jvm.Cond.code ({ cls := "java/lang/String", name := "charAt", desc := "(I)C" } : Jvm.MethodName) jdk_42_method_56_code (2 : Nat) (Option.some Jvm.ClassFile.FieldType.char), Jvm.Cond.code ({ cls := "java/lang/StringLatin1", name := "charAt", desc := "([BI)C" } : Jvm.MethodName) jdk_43_method_2_code (2 : Nat) (Option.some Jvm.ClassFile.FieldType.char), Jvm.Cond.code ({ cls := "java/lang/String", name := "checkIndex", desc := "(II)V" } : Jvm.MethodName) jdk_42_method_155_code (2 : Nat) (Option.none : Option Jvm.ClassFile.FieldType), Jvm.Cond.code ({ cls := "jdk/internal/util/Preconditions", name := "checkIndex", desc := "(IILjava/util/function/BiFunction;)I" } : Jvm.MethodName) jdk_41_method_11_code (3 : Nat) (Option.some Jvm.ClassFile.FieldType.int), Jvm.Cond.code ({ cls := "java/lang/String", name := "substring", desc := "(II)Ljava/lang/String;" } : Jvm.MethodName) jdk_42_method_92_code (5 : Nat) (Option.some (Jvm.ClassFile.FieldType.object "java/lang/String")), Jvm.Cond.code ({ cls := "java/lang/String", name := "checkBoundsBeginEnd", desc := "(III)V" } : Jvm.MethodName) jdk_42_method_158_code (3 : Nat) (Option.none : Option Jvm.ClassFile.FieldType), Jvm.Cond.code ({ cls := "java/lang/Long", name := "<init>", desc := "(J)V" } : Jvm.MethodName) jdk_35_method_26_code (3 : Nat) (Option.none : Option Jvm.ClassFile.FieldType), Jvm.Cond.code ({ cls := "java/lang/Number", name := "<init>", desc := "()V" } : Jvm.MethodName) jdk_18_method_1_code (1 : Nat) (Option.none : Option Jvm.ClassFile.FieldType)]
set_option maxRecDepth 65536 in
theorem codes_eq : words1.filter isCode = codes1 := rfl
theorem w_codes : ∀ c ∈ words1.filter isCode, c.before args0 about1 = true := by
  rw [codes_eq]
  intro c hc
  simp only [codes1, List.mem_cons, List.not_mem_nil, or_false] at hc
  rcases hc with rfl | rfl | rfl | rfl | rfl | rfl | rfl | rfl | rfl | rfl | rfl | rfl | rfl | rfl | rfl | rfl | rfl | rfl | rfl | rfl | rfl | rfl | rfl | rfl | rfl | rfl | rfl | rfl | rfl | rfl | rfl | rfl | rfl
  · exact w_c0
  · exact w_c1
  · exact w_c2
  · exact w_c3
  · exact w_c4
  · exact w_c5
  · exact w_c6
  · exact w_c7
  · exact w_c8
  · exact w_c9
  · exact w_c10
  · exact w_c11
  · exact w_c12
  · exact w_c13
  · exact w_c14
  · exact w_c15
  · exact w_c16
  · exact w_c17
  · exact w_c18
  · exact w_c19
  · exact w_c20
  · exact w_c21
  · exact w_c22
  · exact w_c23
  · exact w_c24
  · exact w_c25
  · exact w_c26
  · exact w_c27
  · exact w_c28
  · exact w_c29
  · exact w_c30
  · exact w_c31
  · exact w_c32
set_option maxRecDepth 65536 in
theorem w_t1 : (words1.take 24).all (fun c => isCode c || c.before args0 about1) = true := by decide +kernel
set_option maxRecDepth 65536 in
theorem w_t2 : ((words1.drop 24).take 24).all (fun c => isCode c || c.before args0 about1) = true := by decide +kernel
set_option maxRecDepth 65536 in
theorem w_t3 : (((words1.drop 24).drop 24).take 24).all (fun c => isCode c || c.before args0 about1) = true := by decide +kernel
set_option maxRecDepth 65536 in
theorem w_t4 : ((((words1.drop 24).drop 24).drop 24).take 24).all (fun c => isCode c || c.before args0 about1) = true := by decide +kernel
set_option maxRecDepth 65536 in
theorem w_t5 : (((((words1.drop 24).drop 24).drop 24).drop 24).take 24).all (fun c => isCode c || c.before args0 about1) = true := by decide +kernel
set_option maxRecDepth 65536 in
theorem w_t6 : ((((((words1.drop 24).drop 24).drop 24).drop 24).drop 24).take 24).all (fun c => isCode c || c.before args0 about1) = true := by decide +kernel
set_option maxRecDepth 65536 in
theorem w_t7 : (((((((words1.drop 24).drop 24).drop 24).drop 24).drop 24).drop 24).take 24).all (fun c => isCode c || c.before args0 about1) = true := by decide +kernel
set_option maxRecDepth 65536 in
theorem w_t8 : (((((((words1.drop 24).drop 24).drop 24).drop 24).drop 24).drop 24).drop 24).all (fun c => isCode c || c.before args0 about1) = true := by decide +kernel
theorem w_tables : (allAtoms (Jvm.Cond.code x code maxLocals ret :: tables_1)).before args0 about1 = true := by
  rw [allAtoms_all]
  show words1.all (fun c => c.before args0 about1) = true
  refine all_split ?_ w_codes
  rw [← List.take_append_drop 24 words1, List.all_append, w_t1, ← List.take_append_drop 24 (words1.drop 24), List.all_append, w_t2, ← List.take_append_drop 24 ((words1.drop 24).drop 24), List.all_append, w_t3, ← List.take_append_drop 24 (((words1.drop 24).drop 24).drop 24), List.all_append, w_t4, ← List.take_append_drop 24 ((((words1.drop 24).drop 24).drop 24).drop 24), List.all_append, w_t5, ← List.take_append_drop 24 (((((words1.drop 24).drop 24).drop 24).drop 24).drop 24), List.all_append, w_t6, ← List.take_append_drop 24 ((((((words1.drop 24).drop 24).drop 24).drop 24).drop 24).drop 24), List.all_append, w_t7, w_t8]
  rfl
set_option maxRecDepth 65536 in
theorem w_rest : rest_1_c.before args0 about1 = true := by decide +kernel
set_option maxRecDepth 65536 in
theorem w_case : (Jvm.Cond.and given_1 narrow_1).before args0 about1 = true := by decide +kernel
theorem w_applies : (headSpec (Jvm.Cond.code x code maxLocals ret :: tables_1) room_1).applies x e0.platform about1 = true :=
  (Spec.applies_iff w_frames).mpr ⟨w_running, w_runnable, w_alone, w_named, w_hears, w_ripe, w_room, w_tables⟩
theorem atStart : AtStart classFile x code maxLocals ret World_1 tables_1 room_1 Calls_1 rest_1 Pre_1 launch0 p0 e0 about1 theMethod args0 below0 :=
  ⟨lists_1, trivial, launch0.admits_env _ _ _, launch0.least_env, fairChoices_fair.cas, fairChoices_fair.clock, w_frames, w_args, w_heap, w_applies, trivial, w_rest, w_case⟩
end start1
theorem witness_1 : WitnessClaimed_1 := ⟨start1.p0, start1.e0, start1.about1, start1.theMethod, start1.args0, start1.below0, start1.atStart⟩
end Jvm.Pilot.@@N@@
