import JvmDerived
import JvmDerived.Pilot.@@N@@Statement
import JvmDerived.Pilot.@@N@@Code
set_option linter.unusedVariables false
set_option linter.unusedSimpArgs false
namespace Jvm.Pilot.@@N@@
open Jvm Jvm.ClassFile Sem Op Lib Jvm.Free Jvm.Stand Jvm.LawKit Jvm.RoadKit Bundle Jvm.Pilot.@@N@@.Jvm.D
section OwnKit
variable {p : Program} {l : Launch} {e : Env} {R : Room} {s : State} {m : MethodId} {args : Array Value} {below : List Frame} {meth : Method} {c : Code} {T : State} {locs : List Loc} {cells slots : Nat} {Z : State} {a0 : Array Value} {h : Heap}
/-- from A the walk comes to an end of which F holds -/
def Rch (p : Program) (e : Env) (below : List Frame) (F : Outcome → State → Prop) (A : State) : Prop := ∃ s₂ o, Steps p.tables e below A s₂ ∧ s₂.status = .running ∧ Ended s₂ below o ∧ F o s₂
theorem Rch.go {F : Outcome → State → Prop} {A B : State} (h : ∀ t, Steps p.tables e below B t → Steps p.tables e below A t) (r : Rch p e below F B) : Rch p e below F A := by
  obtain ⟨t, o, h1, h2⟩ := r
  exact ⟨t, o, h t h1, h2⟩
/-- what a body leaves -/
def Leaves (s : State) (C S : Nat) (Q : Option Value → Heap → List Loc → Prop) (o : Outcome) (U : State) : Prop := ∃ v L, o = .returned v ∧ Q v U.heap L ∧ FrameEnd s o U L C S
/-- a body's contract, at one heap and one row of arguments -/
def Ctr (l : Launch) (Z : State) (ws : List Jvm.Cond) (y : MethodName) (bytes : ByteArray) (maxL : Nat) (ret : Option FieldType) (as' : Array Value) (h0 : Heap) (rm : Room) (Q : Option Value → Heap → List Loc → Prop) : Prop :=
  MetFree l y (head1 (Jvm.Cond.code y bytes maxL ret :: ws) rm) (fun a U => a = as' ∧ Z.Warmed39 U.vm ∧ U.heap = h0) (fun _ _ _ _ _ => True) (fun _ U o U' => ∃ v L, o = .returned v ∧ Q v U'.heap L ∧ FrameEnd U o U' L rm.cells rm.slots)
theorem Ctr.of {ws : List Jvm.Cond} {y : MethodName} {bytes : ByteArray} {maxL : Nat} {ret : Option FieldType} {as' : Array Value} {h0 : Heap} {rm : Room} {Q : Option Value → Heap → List Loc → Prop} {Ls : Array Slot} (hpn : plainFor y = true) (ef : ∀ m, entryFrame m as' maxL = mkF m 0 Ls [])
    (H : ∀ (p : Program) (e : Env) (s : State) (m : MethodId) (below : List Frame) (meth : Method) (c : Code) (T : State), p.tables.exec = Jvm.exec → Z.Warmed39 s.vm → c.code = bytes → c.maxLocals = maxL → s.vm.findClass y.cls = some m.cls → meth.name = y.name → meth.sig.returnType = ret → meth.locks = false →
      Stand p l e rm s m as' below meth c T [] 0 0 → T.heap = h0 → Rch p e below (Leaves s rm.cells rm.slots Q) (T.setTop (mkF m 0 Ls []))) : Ctr l Z ws y bytes maxL ret as' h0 rm Q := by
  refine MetFree.of_bodySF hpn hisR ?_
  intro p e s m args below meth c s₁ Bd hml0 hP hK
  obtain ⟨rfl, hZ, hh⟩ := hP
  have e0 : s₁.heap = h0 := by rw [← hh, Bd.state]; rfl
  obtain ⟨t, o, r1, r2, r3, r4⟩ := H p e s m below meth c s₁ Bd.exec hZ Bd.bytes hml0 (findClass_of_methodNamed Bd.named) (name_of_methodNamed Bd.named Bd.method).1 Bd.returns Bd.notSynchronized (Stand.of_body Bd) e0
  exact ⟨t, o, castTop (ef m) r1, r2, r3, r4⟩
theorem Rch.val (X : Stand p l e R s m args below meth c T locs cells slots) (hx : p.tables.exec = Jvm.exec) {pc : Nat} {Ls : Array Slot} {w : Value} {t : FieldType} {i : Instr} {rest : List Value} {Q : Option Value → Heap → List Loc → Prop} {C S : Nat} (hret : meth.sig.returnType = some t) (hlk : meth.locks = false) (hn : narrow t w = w)
    (hi : (i = .ireturn ∧ (t = .int ∨ t = .boolean ∨ t = .byte ∨ t = .char ∨ t = .short) ∧ ∃ z, w = .int z) ∨ (i = .lreturn ∧ t = .long ∧ ∃ z, w = .long z) ∨ (i = .dreturn ∧ t = .double ∧ ∃ z, w = .double z) ∨ (i = .freturn ∧ t = .float ∧ ∃ z, w = .float z) ∨ (i = .areturn ∧ t.isReference = true ∧ w.isRef = true))
    (hd : decode c.code pc = .ok (i, 1)) (hc : cells ≤ C) (hs : slots ≤ S) (hq : Q (some w) T.heap locs) : Rch p e below (Leaves s C S Q) (T.setTop (mkF m pc Ls (w :: rest))) := by
  obtain ⟨fs, hr, hrun, hended, hW, hsame⟩ := X.leave (v := some w) (fun h => by rw [hret] at h; cases h) hlk
  exact ⟨_, _, retOut X hx hret hn hi hd hr, hrun, hended, _, _, rfl, hq, ⟨_, rfl⟩, hW, hsame.mono hc hs⟩
theorem Rch.void (X : Stand p l e R s m args below meth c T locs cells slots) (hx : p.tables.exec = Jvm.exec) {pc : Nat} {Ls : Array Slot} {Q : Option Value → Heap → List Loc → Prop} {C S : Nat} (hret : meth.sig.returnType = none) (hlk : meth.locks = false)
    (hd : decode c.code pc = .ok (.return_, 1)) (hc : cells ≤ C) (hs : slots ≤ S) (hq : Q none T.heap locs) : Rch p e below (Leaves s C S Q) (T.setTop (mkF m pc Ls [])) := by
  obtain ⟨fs, hr, hrun, hended, hW, hsame⟩ := X.leave (v := none) (fun _ => rfl) hlk
  exact ⟨_, _, X.returnOut hx hret hd hr, hrun, hended, _, _, rfl, hq, ⟨_, rfl⟩, hW, hsame.mono hc hs⟩
theorem mayI {t : FieldType} {z : Int32} (ht : t = .int ∨ t = .boolean ∨ t = .byte ∨ t = .char ∨ t = .short) : ((Instr.ireturn : Instr) = .ireturn ∧ (t = .int ∨ t = .boolean ∨ t = .byte ∨ t = .char ∨ t = .short) ∧ ∃ y, (Value.int z) = .int y) ∨ ((Instr.ireturn : Instr) = .lreturn ∧ t = .long ∧ ∃ y, (Value.int z) = .long y) ∨ ((Instr.ireturn : Instr) = .dreturn ∧ t = .double ∧ ∃ y, (Value.int z) = .double y) ∨ ((Instr.ireturn : Instr) = .freturn ∧ t = .float ∧ ∃ y, (Value.int z) = .float y) ∨ ((Instr.ireturn : Instr) = .areturn ∧ t.isReference = true ∧ (Value.int z).isRef = true) := Or.inl ⟨rfl, ht, z, rfl⟩
end OwnKit
section OwnWide
variable {p : Program} {l : Launch} {e : Env} {R : Room} {s : State} {m : MethodId} {args : Array Value} {below : List Frame} {meth : Method} {c : Code} {T : State} {locs : List Loc} {cells slots : Nat} {Z : State} {a0 : Array Value} {h : Heap}
/-- what a body leaves that may have loaded String constants -/
def LeavesW (s : State) (C S : Nat) (Q : Option Value → Heap → List Loc → Prop) (o : Outcome) (U : State) : Prop := ∃ v L, o = .returned v ∧ Q v U.heap L ∧ ReturnedEndW s o U L C S
def CtrW (l : Launch) (Z : State) (ws : List Jvm.Cond) (y : MethodName) (bytes : ByteArray) (maxL : Nat) (ret : Option FieldType) (as' : Array Value) (h0 : Heap) (rm : Room) (Q : Option Value → Heap → List Loc → Prop) : Prop :=
  MetFree l y (head1 (Jvm.Cond.code y bytes maxL ret :: ws) rm) (fun a U => a = as' ∧ Z.Warmed39 U.vm ∧ U.heap = h0) (fun _ _ _ _ _ => True) (fun _ U o U' => ∃ v L, o = .returned v ∧ Q v U'.heap L ∧ ReturnedEndW U o U' L rm.cells rm.slots)
theorem CtrW.of {ws : List Jvm.Cond} {y : MethodName} {bytes : ByteArray} {maxL : Nat} {ret : Option FieldType} {as' : Array Value} {h0 : Heap} {rm : Room} {Q : Option Value → Heap → List Loc → Prop} {Ls : Array Slot} (hpn : plainFor y = true) (ef : ∀ m, entryFrame m as' maxL = mkF m 0 Ls [])
    (H : ∀ (p : Program) (e : Env) (s : State) (vm0 : Vm) (m : MethodId) (below : List Frame) (meth : Method) (c : Code) (T : State), p.tables.exec = Jvm.exec → Z.Warmed39 vm0 → c.code = bytes → c.maxLocals = maxL → vm0.findClass y.cls = some m.cls → meth.name = y.name → meth.sig.returnType = ret → meth.locks = false →
      s.Since vm0 h0.size → Stand p l e rm (s.setVm vm0) m as' below meth c T [] 0 0 → T.heap = h0 → Rch p e below (LeavesW s rm.cells rm.slots Q) (T.setTop (mkF m 0 Ls []))) : CtrW l Z ws y bytes maxL ret as' h0 rm Q := by
  refine MetFree.of_bodySF hpn hisR ?_
  intro p e s m args below meth c s₁ Bd hml0 hP hK
  obtain ⟨rfl, hZ, hh⟩ := hP
  have e0 : s₁.heap = h0 := by rw [← hh, Bd.state]; rfl
  obtain ⟨t, o, r1, r2, r3, r4⟩ := H p e s s.vm m below meth c s₁ Bd.exec hZ Bd.bytes hml0 (findClass_of_methodNamed Bd.named) (name_of_methodNamed Bd.named Bd.method).1 Bd.returns Bd.notSynchronized ((State.WarmedH.refl s).since _) (Stand.of_body Bd) e0
  exact ⟨t, o, castTop (ef m) r1, r2, r3, r4⟩
theorem Rch.valW {vm0 : Vm} {k0 : Nat} (X : Stand p l e R (s.setVm vm0) m args below meth c T locs cells slots) (hx : p.tables.exec = Jvm.exec) (hS : s.Since vm0 k0) (eT : T.heap = h) (hk : k0 ≤ h.size) {pc : Nat} {Ls : Array Slot} {w : Value} {t : FieldType} {i : Instr} {rest : List Value} {Q : Option Value → Heap → List Loc → Prop} {C S : Nat} (hret : meth.sig.returnType = some t) (hlk : meth.locks = false) (hn : narrow t w = w)
    (hi : (i = .ireturn ∧ (t = .int ∨ t = .boolean ∨ t = .byte ∨ t = .char ∨ t = .short) ∧ ∃ z, w = .int z) ∨ (i = .lreturn ∧ t = .long ∧ ∃ z, w = .long z) ∨ (i = .dreturn ∧ t = .double ∧ ∃ z, w = .double z) ∨ (i = .freturn ∧ t = .float ∧ ∃ z, w = .float z) ∨ (i = .areturn ∧ t.isReference = true ∧ w.isRef = true))
    (hd : decode c.code pc = .ok (i, 1)) (hc : cells ≤ C) (hs : slots ≤ S) (hq : Q (some w) h locs) : Rch p e below (LeavesW s C S Q) (T.setTop (mkF m pc Ls (w :: rest))) := by
  subst eT
  obtain ⟨fs, hr, hrun, hended, hW⟩ := X.leaveW (v := some w) hS hk (fun h => by rw [hret] at h; cases h) hlk
  exact ⟨_, _, retOut X hx hret hn hi hd hr, hrun, hended, _, _, rfl, hq, hW.1, hW.2.1, hW.2.2.1, hW.2.2.2.mono hc hs⟩
theorem Rch.voidW {vm0 : Vm} {k0 : Nat} (X : Stand p l e R (s.setVm vm0) m args below meth c T locs cells slots) (hx : p.tables.exec = Jvm.exec) (hS : s.Since vm0 k0) (eT : T.heap = h) (hk : k0 ≤ h.size) {pc : Nat} {Ls : Array Slot} {Q : Option Value → Heap → List Loc → Prop} {C S : Nat} (hret : meth.sig.returnType = none) (hlk : meth.locks = false)
    (hd : decode c.code pc = .ok (.return_, 1)) (hc : cells ≤ C) (hs : slots ≤ S) (hq : Q none h locs) : Rch p e below (LeavesW s C S Q) (T.setTop (mkF m pc Ls [])) := by
  subst eT
  obtain ⟨fs, hr, hrun, hended, hW⟩ := X.leaveW (v := none) hS hk (fun _ => rfl) hlk
  exact ⟨_, _, X.returnOut hx hret hd hr, hrun, hended, _, _, rfl, hq, hW.1, hW.2.1, hW.2.2.1, hW.2.2.2.mono hc hs⟩
end OwnWide
section OwnNum
theorem own_pos (x : Int32) : ¬ (x &&& 2147483647) < 0 := fun h => absurd ((XT.and_neg32 x 2147483647).mp h).2 (by decide)
theorem own_rem {y n : Int32} (h : ¬ y < 0) (hn : 0 < n.toInt) : 0 ≤ (y % n).toInt ∧ (y % n).toInt < n.toInt := by
  rw [Int32.toInt_mod]
  have h' : 0 ≤ y.toInt := Int.not_lt.mp fun q => h ((XT.negI32 y).mpr q)
  exact ⟨Int.tmod_nonneg _ h', Int.tmod_lt_of_pos _ hn⟩
end OwnNum
section OwnCase
variable {Z : State} {args : Array Value}
theorem own_fldI {t : Term} {a : Addr} {C n d : String} {k : Int32} (ev : t.eval args Z none [] Z = some (.ref a)) (h : (Cond.eq (.field t C n d) (.int k)).value args Z none Z [] = some true) : Fld Z Z.heap a C n d (.int k) := by
  refine Fld.start ?_
  rw [← fld_at (args := args) (first := Z) (o := none) (idx := []) (C := C) (n := n) (dd := d) ev]
  obtain ⟨x, y, h1, h2, h3, h4⟩ := cmp_v (Or.inl h)
  have h2' : y = .int k := (Option.some.inj ((Term.int_eval k).symm.trans h2)).symm
  subst h2'
  obtain ⟨z, rfl⟩ := h4
  have h5 : z = k := by simpa [Cond.value, h1, Term.int_eval] using h
  rw [h1, h5]
theorem own_fldR {t u : Term} {a b : Addr} {C n d : String} (ev : t.eval args Z none [] Z = some (.ref a)) (eu : u.eval args Z none [] Z = some (.ref b)) (h : (Cond.eq (.field t C n d) u).value args Z none Z [] = some true) : Fld Z Z.heap a C n d (.ref b) := by
  refine Fld.start ?_
  rw [← fld_at (args := args) (first := Z) (o := none) (idx := []) (C := C) (n := n) (dd := d) ev]
  obtain ⟨x, y, h1, h2, h3, h4⟩ := cmp_v (Or.inl h)
  obtain rfl : y = .ref b := Option.some.inj (h2.symm.trans eu)
  rw [h1]
  rcases ref_cases h4.2 with rfl | ⟨z, rfl⟩
  · simp [Cond.value, h1, eu] at h
  · have h5 : z = b := by simpa [Cond.value, h1, eu] using h
    rw [h5]
end OwnCase
section OwnSets
variable {Z : State} {args : Array Value}
theorem own_len {t : Term} {a : Addr} {ty : FieldType} {k : Int32} (ev : t.eval args Z none [] Z = some (.ref a)) (h1 : (Cond.arrayOf t ty).value args Z none Z [] = some true) (h2 : (Cond.eq (.length t) (.int k)).value args Z none Z [] = some true) : ∃ c, Arr Z Z.heap a c ty ∧ c.slots.size < 2 ^ 31 ∧ c.slots.size.toInt32 = k := by
  obtain ⟨c, A⟩ := Arr.start ev h1
  obtain ⟨x, y, e1, e2, e3, e4⟩ := cmp_v (Or.inl h2)
  have e2' : y = .int k := (Option.some.inj ((Term.int_eval k).symm.trans e2)).symm
  subst e2'
  obtain ⟨z, rfl⟩ := e4
  have h5 : z = k := by simpa [Cond.value, e1, Term.int_eval] using h2
  have hA : Z.arrayAt? a = some c := A.fin (Vm.Alike.refl _)
  simp only [Term.eval, ev, hA, Option.bind_eq_bind, Option.bind_some] at e1
  split at e1
  · rename_i hl
    refine ⟨c, A, hl, ?_⟩
    have := Option.some.inj e1
    rw [← h5]; exact Value.int.inj this
  · cases e1
theorem own_elem {t : Term} {a : Addr} {c : Cell} {ty : FieldType} {k : Int32} {v : Value} (A : Arr Z Z.heap a c ty) (ev : t.eval args Z none [] Z = some (.ref a)) (h : (Term.elem t (.int k)).eval args Z none [] Z = some v) : c.slots[k.toNatClampNeg]? = some v := (elem_in h ev (Term.int_eval k) A.1).2
theorem own_eqI {t : Term} {k : Int32} (h : (Cond.eq t (.int k)).value args Z none Z [] = some true) : t.eval args Z none [] Z = some (.int k) := by
  obtain ⟨x, y, e1, e2, e3, e4⟩ := cmp_v (Or.inl h)
  have e2' : y = .int k := (Option.some.inj ((Term.int_eval k).symm.trans e2)).symm
  subst e2'
  obtain ⟨z, rfl⟩ := e4
  have h5 : z = k := by simpa [Cond.value, e1, Term.int_eval] using h
  rw [e1, h5]
theorem own_eqR {t u : Term} {b : Addr} (eu : u.eval args Z none [] Z = some (.ref b)) (h : (Cond.eq t u).value args Z none Z [] = some true) : t.eval args Z none [] Z = some (.ref b) := by
  obtain ⟨x, y, h1, h2, h3, h4⟩ := cmp_v (Or.inl h)
  obtain rfl : y = .ref b := Option.some.inj (h2.symm.trans eu)
  rw [h1]
  rcases ref_cases h4.2 with rfl | ⟨z, rfl⟩
  · simp [Cond.value, h1, eu] at h
  · have h5 : z = b := by simpa [Cond.value, h1, eu] using h
    rw [h5]
theorem own_neI {t : Term} {x k : Int32} (ev : t.eval args Z none [] Z = some (.int x)) (h : (Cond.not (Cond.eq t (.int k))).value args Z none Z [] = some true) : ¬ x = k := fun q => by
  have h' := not_v h
  simp [Cond.value, ev, Term.int_eval, q] at h'
theorem own_fldV {t : Term} {a : Addr} {C n d : String} {v : Value} (ev : t.eval args Z none [] Z = some (.ref a)) (h : (Term.field t C n d).eval args Z none [] Z = some v) : Fld Z Z.heap a C n d v := Fld.start ((fld_at ev).symm.trans h)
theorem own_nref {v : Value} {t : FieldType} (h : v.isRef = true) : narrow t v = v := by cases v <;> first | rfl | (cases h; done) | (cases t <;> rfl)
theorem own_fref {v : Value} {t : FieldType} (h : v.isRef = true) (ht : t.isReference = true := by rfl) : fits t v = true := by cases t <;> first | (cases ht; done) | (cases v <;> first | rfl | (cases h; done))
end OwnSets
section OwnChar
theorem own_lcmp (x : Int64) : lcmpW x x = 0 := by simp [lcmpW]
theorem own_and255 (x : Int32) : ¬ (255 : Int32) < x &&& 255 ∧ ¬ x &&& 255 < 0 := by
  have h : (x &&& 255).toBitVec ≤ 255#32 := by
    show x.toBitVec &&& 255#32 ≤ 255#32
    rw [BitVec.le_def, BitVec.toNat_and]
    exact Nat.and_le_right
  have h2 : (x &&& 255).toInt = ((x &&& 255).toBitVec.toNat : Int) := by
    show (x &&& 255).toBitVec.toInt = _
    rw [BitVec.toInt_eq_toNat_of_lt]
    rw [BitVec.le_def] at h
    have : (255#32).toNat = 255 := rfl
    omega
  rw [BitVec.le_def] at h
  have h3 : (255#32).toNat = 255 := rfl
  rw [Int32.lt_iff_toInt_lt, Int32.lt_iff_toInt_lt, h2]
  have h4 : (255 : Int32).toInt = 255 := rfl
  have h5 : (0 : Int32).toInt = 0 := rfl
  rw [h4, h5]
  omega
/-- a char of eight bits -/
theorem own_chr (x : Int32) : ∃ c, (x &&& 255).toUInt32.toUInt16.toUInt32.toInt32 = c ∧ nar .char c = c ∧ ¬ (255 : Int32) < c ∧ ¬ c < 0 :=
  ⟨x &&& 255, i2c_mask x, i2c_mask x, (own_and255 x).1, (own_and255 x).2⟩
end OwnChar
section OwnInst
variable {p : Program} {l : Launch} {e : Env} {R : Room} {s : State} {m : MethodId} {args : Array Value} {below : List Frame} {meth : Method} {c : Code} {T : State} {locs : List Loc} {cells slots : Nat} {Z : State} {a0 : Array Value} {h : Heap}
/-- the class K is no interface -/
def NI (Z : State) (K : String) : Prop := ∃ (t : ClassId) (k : Class), Z.vm.findClass K = some t ∧ Z.vm.classes[t]? = some k ∧ k.isInterface = false
theorem NI.ofInst {K : String} {n : Nat} (w : (Cond.instantiable K n).before a0 Z = true) : NI Z K := by
  obtain ⟨c, k, h1, h2, -, h3, -⟩ := Cond.instantiable_spec w
  exact ⟨c, k, h1, h2, by simp at h3; exact h3.1⟩
theorem NI.ofSel {C K : String} {y z : MethodName} (w : (Cond.selects C y z).before a0 Z = true) (hz : z.cls = K) : NI Z K := by
  obtain ⟨c2, r2, m2, -, -, q3, -, kP, hkP, hkPi⟩ := Cond.selects_spec w
  exact ⟨m2.cls, kP, hz ▸ findClass_of_methodNamed q3, hkP, hkPi⟩
theorem own_nsRoot {O K : String} (w : (Cond.noSuperclass O).before a0 Z = true) (wk : NI Z K) (hn : O ≠ K) : NS Z O K := by
  obtain ⟨c, k, h1, h2, h3, -, -⟩ := Cond.noSuperclass_spec w
  obtain ⟨t, -, g1, -⟩ := wk
  have ne := ids_ne h1 g1 hn
  refine ⟨c, t, h1, g1, fun fuel => ?_⟩
  cases fuel with
  | zero => rfl
  | succ f => simp [Vm.isSubclassAux, ne, h2, h3]
theorem own_nsNo {C S K : String} (w : (Cond.superclass C S).before a0 Z = true) (wk : NI Z K) (n : NS Z C K) (hn : C ≠ K) : ∃ c t, Z.vm.findClass C = some c ∧ Z.vm.findClass K = some t ∧ Z.vm.assignable c t = false := by
  obtain ⟨c, t, h0, g0, n3⟩ := n
  obtain ⟨p, k, kp, h1, h2, h3, h4, h5, -, h7⟩ := Cond.superclass_spec h0 w
  obtain ⟨t', k', g1, g2, g3⟩ := wk
  cases g0.symm.trans g1
  have ne := ids_ne h0 g0 hn
  refine ⟨c, t, h0, g0, ?_⟩
  show Z.vm.assignableAux (255 + 1) c t = false
  cases hk : k'.kind <;> simp [Vm.assignableAux, ne, h2, g2, h5, hk, g3, Vm.isSubclass, n3]
/-- 'instanceof', whichever it says -/
theorem own_instE (X : Stand p l e R s m args below meth c T locs cells slots) (hx : p.tables.exec = Jvm.exec) (hZ : Z.Warmed39 s.vm) {own K C : String} {index : Nat} (hown : s.vm.findClass own = some m.cls) (w : (Cond.classLink own index K).before a0 Z = true) (eT : T.heap = h) {a : Addr} (E : Exa Z h a C)
    {g : JFrame} (hg : g.method = m) {rest : List Value} (hs : g.stack = .ref a :: rest) (hd : decode c.code g.pc = .ok (.instanceof index, 3)) :
    (Ins Z h a K true ∧ ∃ T', Stand p l e R s m args below meth c T' locs cells slots ∧ T'.heap = h ∧ ∀ target, Steps p.tables e below (T'.setTop { g with pc := g.pc + 3, stack := .int 1 :: rest }) target → Steps p.tables e below (T.setTop g) target) ∨
    (∃ T', Stand p l e R s m args below meth c T' locs cells slots ∧ T'.heap = h ∧ ∀ target, Steps p.tables e below (T'.setTop { g with pc := g.pc + 3, stack := .int 0 :: rest }) target → Steps p.tables e below (T.setTop g) target) := by
  have hpl : e.platform.magicAccessors = ({} : Platform).magicAccessors := by rw [X.admits.platform]
  obtain ⟨t, ht, -⟩ := Cond.classLink_spec hown (mv (args := args) hZ w) e.platform hpl
  rw [hZ.alike.findClass] at ht
  obtain ⟨cell, k, h1, h2, h3, h4, h5⟩ := id E
  cases ha : Z.vm.assignable cell.cls t with
  | true =>
    have I : Ins Z h a K true := ⟨cell, t, h1, ht, by simp [h4, ha]⟩
    exact Or.inl ⟨I, instY X hx hZ hown w eT I hg hs hd⟩
  | false => exact Or.inr (instNo X hx hZ hown w eT E ⟨cell.cls, t, h2, ht, ha⟩ hg hs hd)
end OwnInst
theorem strW {Z : State} {a0 : Array Value} (hw : ∀ d ∈ tables_1, d.before a0 Z = true) : ∀ a ∈ Bundle.stringAtoms, a.before a0 Z = true := by
  intro a ha
  simp only [Bundle.stringAtoms, List.mem_cons, List.not_mem_nil, or_false] at ha
  rcases ha with rfl | rfl | rfl | rfl | rfl | rfl | rfl
  · exact hw _ (List.mem_of_getElem? (i := 3) rfl)
  · exact hw _ (List.mem_of_getElem? (i := 2) rfl)
  · exact hw _ (List.mem_of_getElem? (i := 20) rfl)
  · exact hw _ (List.mem_of_getElem? (i := 30) rfl)
  · exact hw _ (List.mem_of_getElem? (i := 28) rfl)
  · exact hw _ (List.mem_of_getElem? (i := 53) rfl)
  · exact hw _ (List.mem_of_getElem? (i := 54) rfl)
section OwnCalls
variable {p : Program} {l : Launch} {e : Env} {R : Room} {s : State} {m : MethodId} {args : Array Value} {below : List Frame} {meth : Method} {c : Code} {T : State} {locs : List Loc} {cells slots : Nat} {Z : State} {a0 : Array Value} {h : Heap}
theorem callIf (X : Stand p l e R s m args below meth c T locs cells slots) (hx : p.tables.exec = Jvm.exec) (hZ : Z.Warmed39 s.vm) {own C : String} {index count : Nat} {y z : MethodName} {bytes : ByteArray} {maxL : Nat} {ret : Option FieldType} {rm : Room} {as' : Array Value} {Q : Option Value → Heap → List Loc → Prop} (M : Ctr l Z [] z bytes maxL ret as' h rm Q) (eT : T.heap = h)
    (hown : s.vm.findClass own = some m.cls) (w1 : (Cond.methodLink own index y).before a0 Z = true) (w2 : (Cond.declares y).before a0 Z = true) (w7 : (Cond.interfaceMethod y.cls y.cls y.name y.desc).before a0 Z = true) (w3 : (Cond.selects C y z).before a0 Z = true) (w4 : (Cond.instanceMethod z).before a0 Z = true) (w8 : (Cond.publicMethod z).before a0 Z = true) (w9 : (Cond.unhidden C y.name y.desc).before a0 Z = true) (w10 : (Cond.castable C y.cls).before a0 Z = true) (w5 : (Cond.code z bytes maxL ret).before a0 Z = true) (w6 : (Cond.initialized z.cls).before a0 Z = true)
    (hy : y.cls ≠ "java/lang/invoke/MethodHandle" ∧ y.cls ≠ "java/lang/invoke/VarHandle") {pc : Nat} {Ls : Array Slot} {st : List Value} (hd : decode c.code pc = .ok (.invokeinterface index count, 5)) (W : Nat) (hf : rm.frames + 1 ≤ R.frames) (hl : W + (maxL + 11) + rm.locals ≤ R.locals) (hc : cells + rm.cells ≤ R.cells) (hs : slots + rm.slots ≤ R.slots)
    (hsz : Ls.size = c.maxLocals) (a : Addr) (E : Exa Z h a C) (argsL rest : List Value) (has : (.ref a :: argsL).toArray = as') (hlen : ∀ sig, parseMethodDescriptor y.desc = some sig → argsL.length = sig.parameters.length) (hst : st = argsL.reverse ++ .ref a :: rest) (hW : (rest.map fun v => v.category).sum ≤ W) :
    ∃ v T' L, Stand p l e R s m args below meth c T' (locs ++ L) (cells + rm.cells) (slots + rm.slots) ∧ Q v T'.heap L ∧ ∀ t, Steps p.tables e below (T'.setTop (mkF m (pc + 5) Ls (v.toList ++ rest))) t → Steps p.tables e below (T.setTop (mkF m pc Ls st)) t := by
  subst has
  obtain ⟨cq, kq, qa, qb, qc⟩ := isOf hZ eT E
  obtain ⟨v, _, ⟨T', L', k', n'⟩, -, X', ⟨L, hQ, q1, q2, q3⟩, stp⟩ := X.interfaceBack hx (xi := y) (y := z) hown (mvT hZ w1) (mvT hZ w2) (mvT hZ w7 (by simp [Cond.onTables, Cond.keepsFace, Cond.keeps, Cond.faceAtom, hy.1, hy.2])) (mvT hZ w3) (mvT hZ w4) (mvT hZ w8) (mvT hZ w9) (mvT hZ w10) hy (backOf (W := W) M hZ w5 w6 hf hl) qa qb qc (g := mkF m pc Ls st) rfl hsz (Steps.refl _) (argsL := argsL) (rest := rest) hlen hst (by show 2 * 0 + _ ≤ _; rw [Nat.mul_zero, Nat.zero_add]; exact hW) hd (fun _ _ => ⟨rfl, eT, hc, hs⟩)
  dsimp only [Pt.U, Pt.locs, Pt.cells, Pt.slots] at X' q1 q2 q3 stp hQ
  subst q1 q2 q3
  exact ⟨v, T', L, X', hQ, fun t k => stp.trans k⟩
theorem callPr (X : Stand p l e R s m args below meth c T locs cells slots) (hx : p.tables.exec = Jvm.exec) (hZ : Z.Warmed39 s.vm) {own C : String} {index : Nat} {y : MethodName} {bytes : ByteArray} {maxL : Nat} {ret : Option FieldType} {rm : Room} {as' : Array Value} {Q : Option Value → Heap → List Loc → Prop} (M : Ctr l Z [] y bytes maxL ret as' h rm Q) (eT : T.heap = h)
    (hown : s.vm.findClass own = some m.cls) (w1 : (Cond.methodLink own index y).before a0 Z = true) (w2 : (Cond.instanceMethod y).before a0 Z = true) (w3 : (Cond.selects y.cls y y).before a0 Z = true) (w4 : (Cond.privateMethod y).before a0 Z = true) (w5 : (Cond.code y bytes maxL ret).before a0 Z = true) (w6 : (Cond.initialized y.cls).before a0 Z = true)
    (hy : y.cls ≠ "java/lang/invoke/MethodHandle" ∧ y.cls ≠ "java/lang/invoke/VarHandle") {pc : Nat} {Ls : Array Slot} {st : List Value} (hd : decode c.code pc = .ok (.invokevirtual index, 3)) (W : Nat) (hf : rm.frames + 1 ≤ R.frames) (hl : W + (maxL + 11) + rm.locals ≤ R.locals) (hc : cells + rm.cells ≤ R.cells) (hs : slots + rm.slots ≤ R.slots)
    (hsz : Ls.size = c.maxLocals) (a : Addr) (E : Exa Z h a C) (argsL rest : List Value) (has : (.ref a :: argsL).toArray = as') (hlen : ∀ sig, parseMethodDescriptor y.desc = some sig → argsL.length = sig.parameters.length) (hst : st = argsL.reverse ++ .ref a :: rest) (hW : (rest.map fun v => v.category).sum ≤ W) :
    ∃ v T' L, Stand p l e R s m args below meth c T' (locs ++ L) (cells + rm.cells) (slots + rm.slots) ∧ Q v T'.heap L ∧ ∀ t, Steps p.tables e below (T'.setTop (mkF m (pc + 3) Ls (v.toList ++ rest))) t → Steps p.tables e below (T.setTop (mkF m pc Ls st)) t := by
  subst has
  obtain ⟨cq, qa, qb⟩ := E.cell
  rw [← eT] at qa
  obtain ⟨v, _, ⟨T', L', k', n'⟩, -, X', ⟨L, hQ, q1, q2, q3⟩, stp⟩ := X.privateBack hx (y := y) hown (mvT hZ w1) (mvT hZ w2) (mvT hZ w3) (Cond.privateMethod_at (args := args) (mvP (args := args) (s := s) hZ w4)) (mvT hZ w5) hy (backOf (W := W) M hZ w5 w6 hf hl) (g := mkF m pc Ls st) rfl hsz (Steps.refl _) (a := a) qa qb (argsL := argsL) (rest := rest) hlen hst (by show 2 * 0 + _ ≤ _; rw [Nat.mul_zero, Nat.zero_add]; exact hW) hd (fun _ _ => ⟨rfl, eT, hc, hs⟩)
  dsimp only [Pt.U, Pt.locs, Pt.cells, Pt.slots] at X' q1 q2 q3 stp hQ
  subst q1 q2 q3
  exact ⟨v, T', L, X', hQ, fun t k => stp.trans k⟩
theorem callSp (X : Stand p l e R s m args below meth c T locs cells slots) (hx : p.tables.exec = Jvm.exec) (hZ : Z.Warmed39 s.vm) {own : String} {index : Nat} {y : MethodName} {bytes : ByteArray} {maxL : Nat} {rm : Room} {as' : Array Value} {Q : Option Value → Heap → List Loc → Prop} (M : Ctr l Z [] y bytes maxL none as' h rm Q) (eT : T.heap = h)
    (hown : s.vm.findClass own = some m.cls) (hy1 : y.name = "<init>") (w1 : (Cond.methodLink own index y).before a0 Z = true) (w2 : (Cond.instanceMethod y).before a0 Z = true) (w5 : (Cond.code y bytes maxL none).before a0 Z = true) (w6 : (Cond.initialized y.cls).before a0 Z = true)
    (hy : y.cls ≠ "java/lang/invoke/MethodHandle" ∧ y.cls ≠ "java/lang/invoke/VarHandle") {pc : Nat} {Ls : Array Slot} {st : List Value} (hd : decode c.code pc = .ok (.invokespecial index, 3)) (W : Nat) (hf : rm.frames + 1 ≤ R.frames) (hl : W + (maxL + 11) + rm.locals ≤ R.locals) (hc : cells + rm.cells ≤ R.cells) (hs : slots + rm.slots ≤ R.slots)
    (hsz : Ls.size = c.maxLocals) (a : Addr) (argsL rest : List Value) (has : (.ref a :: argsL).toArray = as') (hlen : ∀ sig, parseMethodDescriptor y.desc = some sig → argsL.length = sig.parameters.length) (hst : st = argsL.reverse ++ .ref a :: rest) (hW : (rest.map fun v => v.category).sum ≤ W) :
    ∃ v T' L, Stand p l e R s m args below meth c T' (locs ++ L) (cells + rm.cells) (slots + rm.slots) ∧ Q v T'.heap L ∧ ∀ t, Steps p.tables e below (T'.setTop (mkF m (pc + 3) Ls (v.toList ++ rest))) t → Steps p.tables e below (T.setTop (mkF m pc Ls st)) t := by
  subst has
  obtain ⟨v, _, ⟨T', L', k', n'⟩, -, X', ⟨L, hQ, q1, q2, q3⟩, stp⟩ := X.specialBack hx (y := y) hy1 hown (mvT hZ w1) (mvT hZ w2) (mvT hZ w5) hy (backOf (W := W) M hZ w5 w6 hf hl) (g := mkF m pc Ls st) rfl hsz (Steps.refl _) (a := a) (argsL := argsL) (rest := rest) hlen hst (by show 2 * 0 + _ ≤ _; rw [Nat.mul_zero, Nat.zero_add]; exact hW) hd (fun _ _ => ⟨rfl, eT, hc, hs⟩)
  dsimp only [Pt.U, Pt.locs, Pt.cells, Pt.slots] at X' q1 q2 q3 stp hQ
  subst q1 q2 q3
  exact ⟨v, T', L, X', hQ, fun t k => stp.trans k⟩
theorem callSt (X : Stand p l e R s m args below meth c T locs cells slots) (hx : p.tables.exec = Jvm.exec) (hZ : Z.Warmed39 s.vm) {own : String} {index : Nat} {y : MethodName} {bytes : ByteArray} {maxL : Nat} {ret : Option FieldType} {rm : Room} {as' : Array Value} {Q : Option Value → Heap → List Loc → Prop} (M : Ctr l Z [] y bytes maxL ret as' h rm Q) (eT : T.heap = h)
    (hown : s.vm.findClass own = some m.cls) (w1 : (Cond.methodLink own index y).before a0 Z = true) (w2 : (Cond.static y).before a0 Z = true) (w5 : (Cond.code y bytes maxL ret).before a0 Z = true) (w6 : (Cond.initialized y.cls).before a0 Z = true)
    (hy : y.cls ≠ "java/lang/invoke/MethodHandle" ∧ y.cls ≠ "java/lang/invoke/VarHandle") {pc : Nat} {Ls : Array Slot} {st : List Value} (hd : decode c.code pc = .ok (.invokestatic index, 3)) (W : Nat) (hf : rm.frames + 1 ≤ R.frames) (hl : W + (maxL + 11) + rm.locals ≤ R.locals) (hc : cells + rm.cells ≤ R.cells) (hs : slots + rm.slots ≤ R.slots)
    (hsz : Ls.size = c.maxLocals) (argsL rest : List Value) (has : argsL.toArray = as') (hlen : ∀ sig, parseMethodDescriptor y.desc = some sig → argsL.length = sig.parameters.length) (hst : st = argsL.reverse ++ rest) (hW : (rest.map fun v => v.category).sum ≤ W) :
    ∃ v T' L, Stand p l e R s m args below meth c T' (locs ++ L) (cells + rm.cells) (slots + rm.slots) ∧ Q v T'.heap L ∧ ∀ t, Steps p.tables e below (T'.setTop (mkF m (pc + 3) Ls (v.toList ++ rest))) t → Steps p.tables e below (T.setTop (mkF m pc Ls st)) t := by
  subst has
  obtain ⟨v, _, ⟨T', L', k', n'⟩, -, X', ⟨L, hQ, q1, q2, q3⟩, stp⟩ := Jvm.LawKit.callS X hx (y := y) hown (mvT hZ w1) (mvT hZ w2) (mvT hZ w6) (mvT hZ w5) hy (backOf (W := W) M hZ w5 w6 hf hl) (g := mkF m pc Ls st) rfl hsz (argsL := argsL) (rest := rest) hlen hst (by show 2 * 0 + _ ≤ _; rw [Nat.mul_zero, Nat.zero_add]; exact hW) hd (fun _ _ => ⟨rfl, eT, hc, hs⟩)
  dsimp only [Pt.U, Pt.locs, Pt.cells, Pt.slots] at X' q1 q2 q3 stp hQ
  subst q1 q2 q3
  exact ⟨v, T', L, X', hQ, stp⟩
theorem callVi (X : Stand p l e R s m args below meth c T locs cells slots) (hx : p.tables.exec = Jvm.exec) (hZ : Z.Warmed39 s.vm) {own C : String} {index : Nat} {y z : MethodName} {bytes : ByteArray} {maxL : Nat} {ret : Option FieldType} {rm : Room} {as' : Array Value} {Q : Option Value → Heap → List Loc → Prop} (M : Ctr l Z [] z bytes maxL ret as' h rm Q) (eT : T.heap = h)
    (hown : s.vm.findClass own = some m.cls) (w1 : (Cond.methodLink own index y).before a0 Z = true) (w2 : (Cond.declares y).before a0 Z = true) (w3 : (Cond.selects C y z).before a0 Z = true) (hnf : NotFace s y) (w4 : (Cond.instanceMethod z).before a0 Z = true) (w5 : (Cond.code z bytes maxL ret).before a0 Z = true) (w6 : (Cond.initialized z.cls).before a0 Z = true)
    (hy : y.cls ≠ "java/lang/invoke/MethodHandle" ∧ y.cls ≠ "java/lang/invoke/VarHandle") {pc : Nat} {Ls : Array Slot} {st : List Value} (hd : decode c.code pc = .ok (.invokevirtual index, 3)) (W : Nat) (hf : rm.frames + 1 ≤ R.frames) (hl : W + (maxL + 11) + rm.locals ≤ R.locals) (hc : cells + rm.cells ≤ R.cells) (hs : slots + rm.slots ≤ R.slots)
    (hsz : Ls.size = c.maxLocals) (a : Addr) (E : Exa Z h a C) (argsL rest : List Value) (has : (.ref a :: argsL).toArray = as') (hlen : ∀ sig, parseMethodDescriptor y.desc = some sig → argsL.length = sig.parameters.length) (hst : st = argsL.reverse ++ .ref a :: rest) (hW : (rest.map fun v => v.category).sum ≤ W) :
    ∃ v T' L, Stand p l e R s m args below meth c T' (locs ++ L) (cells + rm.cells) (slots + rm.slots) ∧ Q v T'.heap L ∧ ∀ t, Steps p.tables e below (T'.setTop (mkF m (pc + 3) Ls (v.toList ++ rest))) t → Steps p.tables e below (T.setTop (mkF m pc Ls st)) t := by
  subst has
  obtain ⟨cq, kq, qa, qb, qc⟩ := isOf hZ eT E
  obtain ⟨v, _, ⟨T', L', k', n'⟩, -, X', ⟨L, hQ, q1, q2, q3⟩, stp⟩ := X.virtualBack hx (y := y) (z := z) hown (mvT hZ w1) (mvT hZ w2) hnf (mvT hZ w3) (mvT hZ w4) hy (backOf (W := W) M hZ w5 w6 hf hl) qa qc (g := mkF m pc Ls st) rfl hsz (Steps.refl _) (argsL := argsL) (rest := rest) hlen hst (by show 2 * 0 + _ ≤ _; rw [Nat.mul_zero, Nat.zero_add]; exact hW) hd (fun _ _ => ⟨rfl, eT, hc, hs⟩)
  dsimp only [Pt.U, Pt.locs, Pt.cells, Pt.slots] at X' q1 q2 q3 stp hQ
  subst q1 q2 q3
  exact ⟨v, T', L, X', hQ, fun t k => stp.trans k⟩
theorem callSpW {vm0 : Vm} {k0 : Nat} (X : Stand p l e R (s.setVm vm0) m args below meth c T locs cells slots) (hx : p.tables.exec = Jvm.exec) (hZ : Z.Warmed39 vm0) (hS : s.Since vm0 k0) (hk : k0 ≤ h.size) {own : String} {index : Nat} {y : MethodName} {bytes : ByteArray} {maxL : Nat} {rm : Room} {as' : Array Value} {Q : Option Value → Heap → List Loc → Prop} (M : CtrW l Z [] y bytes maxL none as' h rm Q) (eT : T.heap = h)
    (hown : vm0.findClass own = some m.cls) (hy1 : y.name = "<init>") (w1 : (Cond.methodLink own index y).before a0 Z = true) (w2 : (Cond.instanceMethod y).before a0 Z = true) (w5 : (Cond.code y bytes maxL none).before a0 Z = true) (w6 : (Cond.initialized y.cls).before a0 Z = true)
    (hy : y.cls ≠ "java/lang/invoke/MethodHandle" ∧ y.cls ≠ "java/lang/invoke/VarHandle") {pc : Nat} {Ls : Array Slot} {st : List Value} (hd : decode c.code pc = .ok (.invokespecial index, 3)) (W : Nat) (hf : rm.frames + 1 ≤ R.frames) (hl : W + (maxL + 11) + rm.locals ≤ R.locals) (hc : cells + rm.cells ≤ R.cells) (hs : slots + rm.slots ≤ R.slots)
    (hsz : Ls.size = c.maxLocals) (a : Addr) (argsL rest : List Value) (has : (.ref a :: argsL).toArray = as') (hlen : ∀ sig, parseMethodDescriptor y.desc = some sig → argsL.length = sig.parameters.length) (hst : st = argsL.reverse ++ .ref a :: rest) (hW : (rest.map fun v => v.category).sum ≤ W) :
    ∃ v T' L, Stand p l e R (s.setVm T'.vm) m args below meth c T' (locs ++ L) (cells + rm.cells) (slots + rm.slots) ∧ Q v T'.heap L ∧ s.Since T'.vm T'.heap.size ∧ Z.Warmed39 T'.vm ∧ T'.vm.findClass own = some m.cls ∧ ∀ t, Steps p.tables e below (T'.setTop (mkF m (pc + 3) Ls (v.toList ++ rest))) t → Steps p.tables e below (T.setTop (mkF m pc Ls st)) t := by
  subst has
  obtain ⟨v, _, ⟨T', L', k', n'⟩, -, X', hS', hgr, ⟨L, hQ, q1, q2, q3⟩, stp⟩ := X.specialBackS hx (y := y) hy1 hown (mvT (s := (s.setVm vm0)) hZ w1) (mvT (s := (s.setVm vm0)) hZ w2) (mvT (s := (s.setVm vm0)) hZ w5) hy (backOfS (s := (s.setVm vm0)) (W := W) M hZ w5 w6 hf hl) (g := mkF m pc Ls st) rfl hsz (Steps.refl _) (a := a) (argsL := argsL) (rest := rest) hlen hst (by show 2 * 0 + _ ≤ _; rw [Nat.mul_zero, Nat.zero_add]; exact hW) hd (fun _ _ => ⟨rfl, eT, hc, hs⟩)
  dsimp only [Pt.U, Pt.locs, Pt.cells, Pt.slots] at X' q1 q2 q3 stp hQ hS' hgr
  subst q1 q2 q3
  exact ⟨v, T', L, X', hQ, hS.trans hS' (Nat.le_trans hk (by rw [← eT]; exact hgr)), State.Warmed39.trans (t := s.setVm vm0) hZ hS'.1, by rw [hS'.1.alike.findClass]; exact hown, fun t k => stp.trans k⟩
theorem callStW {vm0 : Vm} {k0 : Nat} (X : Stand p l e R (s.setVm vm0) m args below meth c T locs cells slots) (hx : p.tables.exec = Jvm.exec) (hZ : Z.Warmed39 vm0) (hS : s.Since vm0 k0) (hk : k0 ≤ h.size) {own : String} {index : Nat} {y : MethodName} {bytes : ByteArray} {maxL : Nat} {ret : Option FieldType} {rm : Room} {as' : Array Value} {Q : Option Value → Heap → List Loc → Prop} (M : CtrW l Z [] y bytes maxL ret as' h rm Q) (eT : T.heap = h)
    (hown : vm0.findClass own = some m.cls) (w1 : (Cond.methodLink own index y).before a0 Z = true) (w2 : (Cond.static y).before a0 Z = true) (w5 : (Cond.code y bytes maxL ret).before a0 Z = true) (w6 : (Cond.initialized y.cls).before a0 Z = true)
    (hy : y.cls ≠ "java/lang/invoke/MethodHandle" ∧ y.cls ≠ "java/lang/invoke/VarHandle") {pc : Nat} {Ls : Array Slot} {st : List Value} (hd : decode c.code pc = .ok (.invokestatic index, 3)) (W : Nat) (hf : rm.frames + 1 ≤ R.frames) (hl : W + (maxL + 11) + rm.locals ≤ R.locals) (hc : cells + rm.cells ≤ R.cells) (hs : slots + rm.slots ≤ R.slots)
    (hsz : Ls.size = c.maxLocals) (argsL rest : List Value) (has : argsL.toArray = as') (hlen : ∀ sig, parseMethodDescriptor y.desc = some sig → argsL.length = sig.parameters.length) (hst : st = argsL.reverse ++ rest) (hW : (rest.map fun v => v.category).sum ≤ W) :
    ∃ v T' L, Stand p l e R (s.setVm T'.vm) m args below meth c T' (locs ++ L) (cells + rm.cells) (slots + rm.slots) ∧ Q v T'.heap L ∧ s.Since T'.vm T'.heap.size ∧ Z.Warmed39 T'.vm ∧ T'.vm.findClass own = some m.cls ∧ ∀ t, Steps p.tables e below (T'.setTop (mkF m (pc + 3) Ls (v.toList ++ rest))) t → Steps p.tables e below (T.setTop (mkF m pc Ls st)) t := by
  subst has
  obtain ⟨v, _, ⟨T', L', k', n'⟩, -, X', hS', hgr, ⟨L, hQ, q1, q2, q3⟩, stp⟩ := callSS X hx (y := y) hown (mvT (s := (s.setVm vm0)) hZ w1) (mvT (s := (s.setVm vm0)) hZ w2) (mvT (s := (s.setVm vm0)) hZ w6) (mvT (s := (s.setVm vm0)) hZ w5) hy (backOfS (s := (s.setVm vm0)) (W := W) M hZ w5 w6 hf hl) (g := mkF m pc Ls st) rfl hsz (argsL := argsL) (rest := rest) hlen hst (by show 2 * 0 + _ ≤ _; rw [Nat.mul_zero, Nat.zero_add]; exact hW) hd (fun _ _ => ⟨rfl, eT, hc, hs⟩)
  dsimp only [Pt.U, Pt.locs, Pt.cells, Pt.slots] at X' q1 q2 q3 stp hQ hS' hgr
  subst q1 q2 q3
  exact ⟨v, T', L, X', hQ, hS.trans hS' (Nat.le_trans hk (by rw [← eT]; exact hgr)), State.Warmed39.trans (t := s.setVm vm0) hZ hS'.1, by rw [hS'.1.alike.findClass]; exact hown, fun t k => stp.trans k⟩
end OwnCalls
def Olds (Z : State) (ro0 : Addr) (ro1 : Addr) (ro2 : Addr) (ro3 : Addr) (ww4 : Int32) (ww5 : Value) (kk_ro1 : ClassId) (kk_ro2 : ClassId) (kk_ro3 : ClassId) : Prop := Sta Z Z.heap "java/util/ImmutableCollections" "EMPTY_LIST" "Ljava/util/ImmutableCollections$ListN;" (.ref ro0) ∧ Exa Z Z.heap ro0 "java/util/ImmutableCollections$ListN" ∧ Fld Z Z.heap ro0 "java/util/ImmutableCollections$ListN" "elements" "[Ljava/lang/Object;" (.ref ro1) ∧ Exa Z Z.heap ro1 "[Ljava/lang/Object;" ∧ Sta Z Z.heap "java/util/ArrayList" "EMPTY_ELEMENTDATA" "[Ljava/lang/Object;" (.ref ro2) ∧ Exa Z Z.heap ro2 "[Ljava/lang/Object;" ∧ Sta Z Z.heap "java/util/ArrayList" "DEFAULTCAPACITY_EMPTY_ELEMENTDATA" "[Ljava/lang/Object;" (.ref ro3) ∧ Exa Z Z.heap ro3 "[Ljava/lang/Object;" ∧ Sta Z Z.heap "java/lang/String" "COMPACT_STRINGS" "Z" (.int ww4) ∧ Sta Z Z.heap "jdk/internal/util/Preconditions" "SIOOBE_FORMATTER" "Ljava/util/function/BiFunction;" ww5 ∧ Fld Z Z.heap ro0 "java/util/ImmutableCollections$ListN" "allowNulls" "Z" (.int (0 : Int32)) ∧ Arv Z Z.heap ro1 kk_ro1 (.object "java/lang/Object") (0 : Int32) [] .null ∧ Arv Z Z.heap ro2 kk_ro2 (.object "java/lang/Object") (0 : Int32) [] .null ∧ Arv Z Z.heap ro3 kk_ro3 (.object "java/lang/Object") (0 : Int32) [] .null ∧ ¬ (ww4 = (0 : Int32)) ∧ ww5.isRef = true
theorem own_mod3 (x : Int32) : (x &&& 2147483647) % 3 = 0 ∨ (x &&& 2147483647) % 3 = 1 ∨ (x &&& 2147483647) % 3 = 2 := by
  have h := own_rem (n := 3) (own_pos x) (by decide)
  simp only [← Int32.toInt_inj]
  have h10 : (3 : Int32).toInt = 3 := rfl
  rw [h10] at h
  generalize ((x &&& 2147483647) % 3).toInt = t at h
  show t = 0 ∨ t = 1 ∨ t = 2
  omega
theorem wd_93 {Z : State} {a0 : Array Value} (hw : ∀ d ∈ tables_1, d.before a0 Z = true) : (Jvm.Cond.initialized "java/util/ArrayList").before a0 Z = true := hw _ (List.mem_of_getElem? (i := 93) rfl)
theorem wd_0 {Z : State} {a0 : Array Value} (hw : ∀ d ∈ tables_1, d.before a0 Z = true) : (Jvm.Cond.constant "com/example/harpocrates/harpocrates/data/TaxonomyLeafPinLaw" (7 : Nat) (2147483647 : Int32)).before a0 Z = true := hw _ (List.mem_of_getElem? (i := 0) rfl)
theorem wd_1 {Z : State} {a0 : Array Value} (hw : ∀ d ∈ tables_1, d.before a0 Z = true) : (Jvm.Cond.classLink "com/example/harpocrates/harpocrates/data/TaxonomyLeafPinLaw" (8 : Nat) "java/lang/String").before a0 Z = true := hw _ (List.mem_of_getElem? (i := 1) rfl)
theorem wd_2 {Z : State} {a0 : Array Value} (hw : ∀ d ∈ tables_1, d.before a0 Z = true) : (Jvm.Cond.instantiable "java/lang/String" (4 : Nat)).before a0 Z = true := hw _ (List.mem_of_getElem? (i := 2) rfl)
theorem wd_3 {Z : State} {a0 : Array Value} (hw : ∀ d ∈ tables_1, d.before a0 Z = true) : (Jvm.Cond.initialized "java/lang/String").before a0 Z = true := hw _ (List.mem_of_getElem? (i := 3) rfl)
theorem wd_28 {Z : State} {a0 : Array Value} (hw : ∀ d ∈ tables_1, d.before a0 Z = true) : (Jvm.Cond.laysFinal "java/lang/String" "java/lang/String" "coder" "B").before a0 Z = true := hw _ (List.mem_of_getElem? (i := 28) rfl)
theorem wd_30 {Z : State} {a0 : Array Value} (hw : ∀ d ∈ tables_1, d.before a0 Z = true) : (Jvm.Cond.laysFinal "java/lang/String" "java/lang/String" "value" "[B").before a0 Z = true := hw _ (List.mem_of_getElem? (i := 30) rfl)
theorem wd_4 {Z : State} {a0 : Array Value} (hw : ∀ d ∈ tables_1, d.before a0 Z = true) : (Jvm.Cond.arrayClass Jvm.ClassFile.FieldType.char).before a0 Z = true := hw _ (List.mem_of_getElem? (i := 4) rfl)
theorem wd_5 {Z : State} {a0 : Array Value} (hw : ∀ d ∈ tables_1, d.before a0 Z = true) : (Jvm.Cond.methodLink "com/example/harpocrates/harpocrates/data/TaxonomyLeafPinLaw" (10 : Nat) ({ cls := "java/lang/String", name := "<init>", desc := "([C)V" } : Jvm.MethodName)).before a0 Z = true := hw _ (List.mem_of_getElem? (i := 5) rfl)
theorem d0_0 : decode jdk_42_method_3_code 0 = .ok (.aload_n 0, 1) := by decide +kernel
theorem d0_1 : decode jdk_42_method_3_code 1 = .ok (.aload_n 1, 1) := by decide +kernel
theorem d0_2 : decode jdk_42_method_3_code 2 = .ok (.iconst 0, 1) := by decide +kernel
theorem d0_3 : decode jdk_42_method_3_code 3 = .ok (.aload_n 1, 1) := by decide +kernel
theorem d0_4 : decode jdk_42_method_3_code 4 = .ok (.arraylength, 1) := by decide +kernel
theorem d0_5 : decode jdk_42_method_3_code 5 = .ok (.aconst_null, 1) := by decide +kernel
theorem d0_6 : decode jdk_42_method_3_code 6 = .ok (.invokespecial 27, 3) := by decide +kernel
theorem wd_8 {Z : State} {a0 : Array Value} (hw : ∀ d ∈ tables_1, d.before a0 Z = true) : (Jvm.Cond.methodLink "java/lang/String" (27 : Nat) ({ cls := "java/lang/String", name := "<init>", desc := "([CIILjava/lang/Void;)V" } : Jvm.MethodName)).before a0 Z = true := hw _ (List.mem_of_getElem? (i := 8) rfl)
theorem d1_0 : decode jdk_42_method_149_code 0 = .ok (.aload_n 0, 1) := by decide +kernel
theorem d1_1 : decode jdk_42_method_149_code 1 = .ok (.invokespecial 1, 3) := by decide +kernel
theorem wd_12 {Z : State} {a0 : Array Value} (hw : ∀ d ∈ tables_1, d.before a0 Z = true) : (Jvm.Cond.methodLink "java/lang/String" (1 : Nat) ({ cls := "java/lang/Object", name := "<init>", desc := "()V" } : Jvm.MethodName)).before a0 Z = true := hw _ (List.mem_of_getElem? (i := 12) rfl)
theorem wd_13 {Z : State} {a0 : Array Value} (hw : ∀ d ∈ tables_1, d.before a0 Z = true) : (Jvm.Cond.instanceMethod ({ cls := "java/lang/Object", name := "<init>", desc := "()V" } : Jvm.MethodName)).before a0 Z = true := hw _ (List.mem_of_getElem? (i := 13) rfl)
theorem wd_14 {Z : State} {a0 : Array Value} (hw : ∀ d ∈ tables_1, d.before a0 Z = true) : (Jvm.Cond.code ({ cls := "java/lang/Object", name := "<init>", desc := "()V" } : Jvm.MethodName) object_method_1_code (1 : Nat) (Option.none : Option Jvm.ClassFile.FieldType)).before a0 Z = true := hw _ (List.mem_of_getElem? (i := 14) rfl)
theorem d1_4 : decode jdk_42_method_149_code 4 = .ok (.iload_n 3, 1) := by decide +kernel
theorem d1_5 : decode jdk_42_method_149_code 5 = .ok (.ifCond .ne 22, 3) := by decide +kernel
theorem d1_27 : decode jdk_42_method_149_code 27 = .ok (.getstatic 38, 3) := by decide +kernel
theorem wd_15 {Z : State} {a0 : Array Value} (hw : ∀ d ∈ tables_1, d.before a0 Z = true) : (Jvm.Cond.fieldLink "java/lang/String" (38 : Nat) "java/lang/String" "COMPACT_STRINGS" "Z").before a0 Z = true := hw _ (List.mem_of_getElem? (i := 15) rfl)
theorem d1_30 : decode jdk_42_method_149_code 30 = .ok (.ifCond .eq 28, 3) := by decide +kernel
theorem d1_33 : decode jdk_42_method_149_code 33 = .ok (.aload_n 1, 1) := by decide +kernel
theorem d1_34 : decode jdk_42_method_149_code 34 = .ok (.iload_n 2, 1) := by decide +kernel
theorem d1_35 : decode jdk_42_method_149_code 35 = .ok (.iload_n 3, 1) := by decide +kernel
theorem d1_36 : decode jdk_42_method_149_code 36 = .ok (.invokestatic 177, 3) := by decide +kernel
theorem wd_16 {Z : State} {a0 : Array Value} (hw : ∀ d ∈ tables_1, d.before a0 Z = true) : (Jvm.Cond.methodLink "java/lang/String" (177 : Nat) ({ cls := "java/lang/StringUTF16", name := "compress", desc := "([CII)[B" } : Jvm.MethodName)).before a0 Z = true := hw _ (List.mem_of_getElem? (i := 16) rfl)
theorem d2_0 : decode jdk_52_method_16_code 0 = .ok (.iload_n 2, 1) := by decide +kernel
theorem d2_1 : decode jdk_52_method_16_code 1 = .ok (.newarray .byte, 2) := by decide +kernel
theorem wd_20 {Z : State} {a0 : Array Value} (hw : ∀ d ∈ tables_1, d.before a0 Z = true) : (Jvm.Cond.arrayClass Jvm.ClassFile.FieldType.byte).before a0 Z = true := hw _ (List.mem_of_getElem? (i := 20) rfl)
theorem d2_3 : decode jdk_52_method_16_code 3 = .ok (.astore_n 3, 1) := by decide +kernel
theorem d2_4 : decode jdk_52_method_16_code 4 = .ok (.aload_n 0, 1) := by decide +kernel
theorem d2_5 : decode jdk_52_method_16_code 5 = .ok (.iload_n 1, 1) := by decide +kernel
theorem d2_6 : decode jdk_52_method_16_code 6 = .ok (.aload_n 3, 1) := by decide +kernel
theorem d2_7 : decode jdk_52_method_16_code 7 = .ok (.iconst 0, 1) := by decide +kernel
theorem d2_8 : decode jdk_52_method_16_code 8 = .ok (.iload_n 2, 1) := by decide +kernel
theorem d2_9 : decode jdk_52_method_16_code 9 = .ok (.invokestatic 115, 3) := by decide +kernel
theorem wd_21 {Z : State} {a0 : Array Value} (hw : ∀ d ∈ tables_1, d.before a0 Z = true) : (Jvm.Cond.methodLink "java/lang/StringUTF16" (115 : Nat) ({ cls := "java/lang/StringUTF16", name := "compress", desc := "([CI[BII)I" } : Jvm.MethodName)).before a0 Z = true := hw _ (List.mem_of_getElem? (i := 21) rfl)
theorem d3_0 : decode jdk_52_method_21_code 0 = .ok (.iconst 0, 1) := by decide +kernel
theorem d3_1 : decode jdk_52_method_21_code 1 = .ok (.istore 5, 2) := by decide +kernel
theorem d3_3 : decode jdk_52_method_21_code 3 = .ok (.iload 5, 2) := by decide +kernel
theorem d3_5 : decode jdk_52_method_21_code 5 = .ok (.iload 4, 2) := by decide +kernel
theorem d3_7 : decode jdk_52_method_21_code 7 = .ok (.if_icmp .ge 37, 3) := by decide +kernel
theorem d3_10 : decode jdk_52_method_21_code 10 = .ok (.aload_n 0, 1) := by decide +kernel
theorem d3_11 : decode jdk_52_method_21_code 11 = .ok (.iload_n 1, 1) := by decide +kernel
theorem d3_12 : decode jdk_52_method_21_code 12 = .ok (.caload, 1) := by decide +kernel
theorem d3_13 : decode jdk_52_method_21_code 13 = .ok (.istore 6, 2) := by decide +kernel
theorem d3_15 : decode jdk_52_method_21_code 15 = .ok (.iload 6, 2) := by decide +kernel
theorem d3_17 : decode jdk_52_method_21_code 17 = .ok (.sipush 255, 3) := by decide +kernel
theorem d3_20 : decode jdk_52_method_21_code 20 = .ok (.if_icmp .le 6, 3) := by decide +kernel
theorem d3_26 : decode jdk_52_method_21_code 26 = .ok (.aload_n 2, 1) := by decide +kernel
theorem d3_27 : decode jdk_52_method_21_code 27 = .ok (.iload_n 3, 1) := by decide +kernel
theorem d3_28 : decode jdk_52_method_21_code 28 = .ok (.iload 6, 2) := by decide +kernel
theorem d3_30 : decode jdk_52_method_21_code 30 = .ok (.i2b, 1) := by decide +kernel
theorem d3_31 : decode jdk_52_method_21_code 31 = .ok (.bastore, 1) := by decide +kernel
theorem d3_32 : decode jdk_52_method_21_code 32 = .ok (.iinc 1 1, 3) := by decide +kernel
theorem d3_35 : decode jdk_52_method_21_code 35 = .ok (.iinc 3 1, 3) := by decide +kernel
theorem d3_38 : decode jdk_52_method_21_code 38 = .ok (.iinc 5 1, 3) := by decide +kernel
theorem d3_41 : decode jdk_52_method_21_code 41 = .ok (.goto (-38), 3) := by decide +kernel
theorem d3_44 : decode jdk_52_method_21_code 44 = .ok (.iload 4, 2) := by decide +kernel
theorem d3_46 : decode jdk_52_method_21_code 46 = .ok (.ireturn, 1) := by decide +kernel
theorem pn_java_lang_StringUTF16 : plainName "java/lang/StringUTF16" = true := by first | (simp [plainName, overriddenIn]; done) | decide +kernel
set_option maxRecDepth 65536 in
set_option maxHeartbeats 4000000 in
theorem ef_m4_compress (m : MethodId) (x1 : Addr) (x2 : Addr) (kk3 : ClassId) (y4 : Int32) (kk5 : ClassId) : entryFrame m #[(.ref x1), (.int (0 : Int32)), (.ref x2), (.int (0 : Int32)), (.int (1 : Int32))] 7 = mkF m 0 #[.val (.ref x1), .val (.int (0 : Int32)), .val (.ref x2), .val (.int (0 : Int32)), .val (.int (1 : Int32)), .unset, .unset] [] := by first | rfl | (simp [entryFrame, mkF, argsToLocals, Value.category]; done)
set_option maxRecDepth 65536 in
set_option maxHeartbeats 40000000 in
theorem m4_compress (l : Launch) (Z : State) (a0 : Array Value) (hw : ∀ d ∈ tables_1, d.before a0 Z = true) (x1 : Addr) (x2 : Addr) (kk3 : ClassId) (y4 : Int32) (kk5 : ClassId) (h0 : Heap) (n0 : Nat) (Z0 : n0 ≤ h0.size) (O0 : Old Z n0 h0) (P1 : Arv Z h0 x1 kk3 .char (1 : Int32) [(.int y4)] (.int (0 : Int32))) (P2 : ¬ ((255 : Int32) < y4)) (P3 : Arv Z h0 x2 kk5 .byte (1 : Int32) [(.int (0 : Int32))] (.int (0 : Int32))) (P4 : n0 ≤ x2) :
    Ctr l Z [] (⟨"java/lang/StringUTF16", "compress", "([CI[BII)I"⟩ : MethodName) jdk_52_method_21_code 7 (some .int) #[(.ref x1), (.int (0 : Int32)), (.ref x2), (.int (0 : Int32)), (.int (1 : Int32))] h0 ({ frames := 0, cells := 0, slots := 0, locals := 0 } : Room) (fun v h L => v = some (.int (1 : Int32)) ∧ Fr n0 L ∧ Keep h0 h [x2] ∧ Arv Z h x2 kk5 .byte (1 : Int32) [(.int (nar .byte (y4.toInt8.toInt32)))] (.int (0 : Int32))) := by
  refine Ctr.of (plainFor_of_name pn_java_lang_StringUTF16) (fun m => ef_m4_compress m x1 x2 kk3 y4 kk5) ?_
  intro p e s m below meth c T0 hx hZ hby hml hown hnm hret hlk X0 e0
  have N0 := Fr.nil n0
  show Rch p e below _ (T0.setTop (mkF m 0 #[.val (.ref x1), .val (.int (0 : Int32)), .val (.ref x2), .val (.int (0 : Int32)), .val (.int (1 : Int32)), .unset, .unset] []))
  refine Rch.go (fun t k => XS.iconst X0.here hx rfl (hb hby d3_0) k) ?_
  show Rch p e below _ (T0.setTop (mkF m 1 #[.val (.ref x1), .val (.int (0 : Int32)), .val (.ref x2), .val (.int (0 : Int32)), .val (.int (1 : Int32)), .unset, .unset] [(.int (0 : Int32))]))
  refine Rch.go (fun t k => XS.istore X0.here hx rfl (hb hby d3_1) rfl  (l' := #[.val (.ref x1), .val (.int (0 : Int32)), .val (.ref x2), .val (.int (0 : Int32)), .val (.int (1 : Int32)), .val (.int (0 : Int32)), .unset]) rfl k) ?_
  show Rch p e below _ (T0.setTop (mkF m 3 #[.val (.ref x1), .val (.int (0 : Int32)), .val (.ref x2), .val (.int (0 : Int32)), .val (.int (1 : Int32)), .val (.int (0 : Int32)), .unset] []))
  refine Rch.go (fun t k => XS.iload X0.here hx rfl (hb hby d3_3) rfl  k) ?_
  show Rch p e below _ (T0.setTop (mkF m 5 #[.val (.ref x1), .val (.int (0 : Int32)), .val (.ref x2), .val (.int (0 : Int32)), .val (.int (1 : Int32)), .val (.int (0 : Int32)), .unset] [(.int (0 : Int32))]))
  refine Rch.go (fun t k => XS.iload X0.here hx rfl (hb hby d3_5) rfl  k) ?_
  show Rch p e below _ (T0.setTop (mkF m 7 #[.val (.ref x1), .val (.int (0 : Int32)), .val (.ref x2), .val (.int (0 : Int32)), .val (.int (1 : Int32)), .val (.int (0 : Int32)), .unset] [(.int (1 : Int32)), (.int (0 : Int32))]))
  refine Rch.go (fun t k => XS.icmpNo X0.here hx rfl (hb hby d3_7) rfl (by decide) k) ?_
  show Rch p e below _ (T0.setTop (mkF m 10 #[.val (.ref x1), .val (.int (0 : Int32)), .val (.ref x2), .val (.int (0 : Int32)), .val (.int (1 : Int32)), .val (.int (0 : Int32)), .unset] []))
  refine Rch.go (fun t k => XS.aloadN X0.here hx rfl (hb hby d3_10) rfl rfl k) ?_
  show Rch p e below _ (T0.setTop (mkF m 11 #[.val (.ref x1), .val (.int (0 : Int32)), .val (.ref x2), .val (.int (0 : Int32)), .val (.int (1 : Int32)), .val (.int (0 : Int32)), .unset] [(.ref x1)]))
  refine Rch.go (fun t k => XS.iloadN X0.here hx rfl (hb hby d3_11) rfl  k) ?_
  show Rch p e below _ (T0.setTop (mkF m 12 #[.val (.ref x1), .val (.int (0 : Int32)), .val (.ref x2), .val (.int (0 : Int32)), .val (.int (1 : Int32)), .val (.int (0 : Int32)), .unset] [(.int (0 : Int32)), (.ref x1)]))
  obtain ⟨c1, r1, q1, s1, u1, H1, G1⟩ := id P1
  refine Rch.go (fun t k => X0.caload hx (j := (0 : Int32)) (v := (.int y4)) (by rw [e0]; exact r1.1) (State.isArrayOf_alike hZ.alike r1.2.1) r1.2.2 (inb_of s1 (by decide)) (H1.at (inb_of s1 (by decide)) rfl) (g := (mkF m 12 #[.val (.ref x1), .val (.int (0 : Int32)), .val (.ref x2), .val (.int (0 : Int32)), .val (.int (1 : Int32)), .val (.int (0 : Int32)), .unset] [(.int (0 : Int32)), (.ref x1)])) rfl rfl (hb hby d3_12) t k) ?_
  show Rch p e below _ (T0.setTop (mkF m 13 #[.val (.ref x1), .val (.int (0 : Int32)), .val (.ref x2), .val (.int (0 : Int32)), .val (.int (1 : Int32)), .val (.int (0 : Int32)), .unset] [(.int y4)]))
  refine Rch.go (fun t k => XS.istore X0.here hx rfl (hb hby d3_13) rfl  (l' := #[.val (.ref x1), .val (.int (0 : Int32)), .val (.ref x2), .val (.int (0 : Int32)), .val (.int (1 : Int32)), .val (.int (0 : Int32)), .val (.int y4)]) rfl k) ?_
  show Rch p e below _ (T0.setTop (mkF m 15 #[.val (.ref x1), .val (.int (0 : Int32)), .val (.ref x2), .val (.int (0 : Int32)), .val (.int (1 : Int32)), .val (.int (0 : Int32)), .val (.int y4)] []))
  refine Rch.go (fun t k => XS.iload X0.here hx rfl (hb hby d3_15) rfl  k) ?_
  show Rch p e below _ (T0.setTop (mkF m 17 #[.val (.ref x1), .val (.int (0 : Int32)), .val (.ref x2), .val (.int (0 : Int32)), .val (.int (1 : Int32)), .val (.int (0 : Int32)), .val (.int y4)] [(.int y4)]))
  refine Rch.go (fun t k => XS.sipush X0.here hx rfl (hb hby d3_17) k) ?_
  show Rch p e below _ (T0.setTop (mkF m 20 #[.val (.ref x1), .val (.int (0 : Int32)), .val (.ref x2), .val (.int (0 : Int32)), .val (.int (1 : Int32)), .val (.int (0 : Int32)), .val (.int y4)] [(.int (255 : Int32)), (.int y4)]))
  refine Rch.go (fun t k => XS.icmpYes X0.here hx rfl (pc0 := 20) (pc' := 26) rfl (hb hby d3_20) rfl (XT.ii_le_t P2) (by decide) (by decide) k) ?_
  show Rch p e below _ (T0.setTop (mkF m 26 #[.val (.ref x1), .val (.int (0 : Int32)), .val (.ref x2), .val (.int (0 : Int32)), .val (.int (1 : Int32)), .val (.int (0 : Int32)), .val (.int y4)] []))
  refine Rch.go (fun t k => XS.aloadN X0.here hx rfl (hb hby d3_26) rfl rfl k) ?_
  show Rch p e below _ (T0.setTop (mkF m 27 #[.val (.ref x1), .val (.int (0 : Int32)), .val (.ref x2), .val (.int (0 : Int32)), .val (.int (1 : Int32)), .val (.int (0 : Int32)), .val (.int y4)] [(.ref x2)]))
  refine Rch.go (fun t k => XS.iloadN X0.here hx rfl (hb hby d3_27) rfl  k) ?_
  show Rch p e below _ (T0.setTop (mkF m 28 #[.val (.ref x1), .val (.int (0 : Int32)), .val (.ref x2), .val (.int (0 : Int32)), .val (.int (1 : Int32)), .val (.int (0 : Int32)), .val (.int y4)] [(.int (0 : Int32)), (.ref x2)]))
  refine Rch.go (fun t k => XS.iload X0.here hx rfl (hb hby d3_28) rfl  k) ?_
  show Rch p e below _ (T0.setTop (mkF m 30 #[.val (.ref x1), .val (.int (0 : Int32)), .val (.ref x2), .val (.int (0 : Int32)), .val (.int (1 : Int32)), .val (.int (0 : Int32)), .val (.int y4)] [(.int y4), (.int (0 : Int32)), (.ref x2)]))
  refine Rch.go (fun t k => XS.i2b X0.here hx rfl (hb hby d3_30) rfl k) ?_
  show Rch p e below _ (T0.setTop (mkF m 31 #[.val (.ref x1), .val (.int (0 : Int32)), .val (.ref x2), .val (.int (0 : Int32)), .val (.int (1 : Int32)), .val (.int (0 : Int32)), .val (.int y4)] [(.int (y4.toInt8.toInt32)), (.int (0 : Int32)), (.ref x2)]))
  obtain ⟨c2, r2, q2, s2, u2, H2, G2⟩ := id P3
  obtain ⟨T3, h3, X3, e3, W3, st3⟩ := stB X0 hx hZ e0 r2 (j := (0 : Int32)) (inb_of s2 (by decide)) (g := (mkF m 31 #[.val (.ref x1), .val (.int (0 : Int32)), .val (.ref x2), .val (.int (0 : Int32)), .val (.int (1 : Int32)), .val (.int (0 : Int32)), .val (.int y4)] [(.int (y4.toInt8.toInt32)), (.int (0 : Int32)), (.ref x2)])) rfl rfl (hb hby d3_31)
  refine Rch.go st3 ?_
  have V3 : Arv Z h3 x2 kk5 .byte (1 : Int32) [(.int (nar .byte (y4.toInt8.toInt32)))] (.int (0 : Int32)) := Arv.set r2 q2 s2 u2 H2 G2 (fits_nar_byte _) W3 0 rfl (Nat.le_of_ble_eq_true rfl)
  have z4 : n0 ≤ h3.size := (Nat.le_trans Z0 (Nat.le_of_eq W3.size.symm))
  have o5 := O0.wr W3 P4
  have N3 := Fr.snoc X3 N0 P4
  show Rch p e below _ (T3.setTop (mkF m 32 #[.val (.ref x1), .val (.int (0 : Int32)), .val (.ref x2), .val (.int (0 : Int32)), .val (.int (1 : Int32)), .val (.int (0 : Int32)), .val (.int y4)] []))
  refine Rch.go (fun t k => XS.iinc X3.here hx rfl (hb hby d3_32) rfl (l' := #[.val (.ref x1), .val (.int (1 : Int32)), .val (.ref x2), .val (.int (0 : Int32)), .val (.int (1 : Int32)), .val (.int (0 : Int32)), .val (.int y4)]) rfl k) ?_
  show Rch p e below _ (T3.setTop (mkF m 35 #[.val (.ref x1), .val (.int (1 : Int32)), .val (.ref x2), .val (.int (0 : Int32)), .val (.int (1 : Int32)), .val (.int (0 : Int32)), .val (.int y4)] []))
  refine Rch.go (fun t k => XS.iinc X3.here hx rfl (hb hby d3_35) rfl (l' := #[.val (.ref x1), .val (.int (1 : Int32)), .val (.ref x2), .val (.int (1 : Int32)), .val (.int (1 : Int32)), .val (.int (0 : Int32)), .val (.int y4)]) rfl k) ?_
  show Rch p e below _ (T3.setTop (mkF m 38 #[.val (.ref x1), .val (.int (1 : Int32)), .val (.ref x2), .val (.int (1 : Int32)), .val (.int (1 : Int32)), .val (.int (0 : Int32)), .val (.int y4)] []))
  refine Rch.go (fun t k => XS.iinc X3.here hx rfl (hb hby d3_38) rfl (l' := #[.val (.ref x1), .val (.int (1 : Int32)), .val (.ref x2), .val (.int (1 : Int32)), .val (.int (1 : Int32)), .val (.int (1 : Int32)), .val (.int y4)]) rfl k) ?_
  show Rch p e below _ (T3.setTop (mkF m 41 #[.val (.ref x1), .val (.int (1 : Int32)), .val (.ref x2), .val (.int (1 : Int32)), .val (.int (1 : Int32)), .val (.int (1 : Int32)), .val (.int y4)] []))
  refine Rch.go (fun t k => XS.goto X3.here hx rfl (pc0 := 41) (pc' := 3) rfl (hb hby d3_41) (by decide) (by decide) k) ?_
  show Rch p e below _ (T3.setTop (mkF m 3 #[.val (.ref x1), .val (.int (1 : Int32)), .val (.ref x2), .val (.int (1 : Int32)), .val (.int (1 : Int32)), .val (.int (1 : Int32)), .val (.int y4)] []))
  refine Rch.go (fun t k => XS.iload X3.here hx rfl (hb hby d3_3) rfl  k) ?_
  show Rch p e below _ (T3.setTop (mkF m 5 #[.val (.ref x1), .val (.int (1 : Int32)), .val (.ref x2), .val (.int (1 : Int32)), .val (.int (1 : Int32)), .val (.int (1 : Int32)), .val (.int y4)] [(.int (1 : Int32))]))
  refine Rch.go (fun t k => XS.iload X3.here hx rfl (hb hby d3_5) rfl  k) ?_
  show Rch p e below _ (T3.setTop (mkF m 7 #[.val (.ref x1), .val (.int (1 : Int32)), .val (.ref x2), .val (.int (1 : Int32)), .val (.int (1 : Int32)), .val (.int (1 : Int32)), .val (.int y4)] [(.int (1 : Int32)), (.int (1 : Int32))]))
  refine Rch.go (fun t k => XS.icmpYes X3.here hx rfl (pc0 := 7) (pc' := 44) rfl (hb hby d3_7) rfl (by decide) (by decide) (by decide) k) ?_
  show Rch p e below _ (T3.setTop (mkF m 44 #[.val (.ref x1), .val (.int (1 : Int32)), .val (.ref x2), .val (.int (1 : Int32)), .val (.int (1 : Int32)), .val (.int (1 : Int32)), .val (.int y4)] []))
  refine Rch.go (fun t k => XS.iload X3.here hx rfl (hb hby d3_44) rfl  k) ?_
  show Rch p e below _ (T3.setTop (mkF m 46 #[.val (.ref x1), .val (.int (1 : Int32)), .val (.ref x2), .val (.int (1 : Int32)), .val (.int (1 : Int32)), .val (.int (1 : Int32)), .val (.int y4)] [(.int (1 : Int32))]))
  refine Rch.val X3 hx (t := .int) hret hlk rfl (mayI (by simp)) (hb hby d3_46) (by decide) (by decide) ?_
  try rw [e3]
  exact ⟨rfl, N3, ((Keep.refl _ _).wr W3 (Or.inl (List.mem_of_getElem? (i := 0) rfl))), V3⟩
theorem wd_23 {Z : State} {a0 : Array Value} (hw : ∀ d ∈ tables_1, d.before a0 Z = true) : (Jvm.Cond.code ({ cls := "java/lang/StringUTF16", name := "compress", desc := "([CI[BII)I" } : Jvm.MethodName) jdk_52_method_21_code (7 : Nat) (Option.some Jvm.ClassFile.FieldType.int)).before a0 Z = true := hw _ (List.mem_of_getElem? (i := 23) rfl)
theorem wd_18 {Z : State} {a0 : Array Value} (hw : ∀ d ∈ tables_1, d.before a0 Z = true) : (Jvm.Cond.initialized "java/lang/StringUTF16").before a0 Z = true := hw _ (List.mem_of_getElem? (i := 18) rfl)
theorem pd_0 : parseMethodDescriptor "([CI[BII)I" = some ⟨[(.array .char), .int, (.array .byte), .int, .int], some .int⟩ := by decide +kernel
theorem wd_22 {Z : State} {a0 : Array Value} (hw : ∀ d ∈ tables_1, d.before a0 Z = true) : (Jvm.Cond.static ({ cls := "java/lang/StringUTF16", name := "compress", desc := "([CI[BII)I" } : Jvm.MethodName)).before a0 Z = true := hw _ (List.mem_of_getElem? (i := 22) rfl)
theorem d2_12 : decode jdk_52_method_16_code 12 = .ok (.istore 4, 2) := by decide +kernel
theorem d2_14 : decode jdk_52_method_16_code 14 = .ok (.iload 4, 2) := by decide +kernel
theorem d2_16 : decode jdk_52_method_16_code 16 = .ok (.iload_n 2, 1) := by decide +kernel
theorem d2_17 : decode jdk_52_method_16_code 17 = .ok (.if_icmp .eq 40, 3) := by decide +kernel
theorem d2_57 : decode jdk_52_method_16_code 57 = .ok (.aload_n 3, 1) := by decide +kernel
theorem d2_58 : decode jdk_52_method_16_code 58 = .ok (.areturn, 1) := by decide +kernel
set_option maxRecDepth 65536 in
set_option maxHeartbeats 4000000 in
theorem ef_m3_compress (m : MethodId) (x1 : Addr) (kk2 : ClassId) (y3 : Int32) : entryFrame m #[(.ref x1), (.int (0 : Int32)), (.int (1 : Int32))] 6 = mkF m 0 #[.val (.ref x1), .val (.int (0 : Int32)), .val (.int (1 : Int32)), .unset, .unset, .unset] [] := by first | rfl | (simp [entryFrame, mkF, argsToLocals, Value.category]; done)
set_option maxRecDepth 65536 in
set_option maxHeartbeats 40000000 in
theorem m3_compress (l : Launch) (Z : State) (a0 : Array Value) (hw : ∀ d ∈ tables_1, d.before a0 Z = true) (x1 : Addr) (kk2 : ClassId) (y3 : Int32) (h0 : Heap) (n0 : Nat) (Z0 : n0 ≤ h0.size) (O0 : Old Z n0 h0) (P1 : Arv Z h0 x1 kk2 .char (1 : Int32) [(.int y3)] (.int (0 : Int32))) (P2 : ¬ ((255 : Int32) < y3)) :
    Ctr l Z [] (⟨"java/lang/StringUTF16", "compress", "([CII)[B"⟩ : MethodName) jdk_52_method_16_code 6 (some (.array .byte)) #[(.ref x1), (.int (0 : Int32)), (.int (1 : Int32))] h0 ({ frames := 1, cells := 1, slots := 1, locals := 18 } : Room) (fun v h L => ∃ (b1 : Addr) (k1 : ClassId), v = some (.ref b1) ∧ Fr n0 L ∧ Keep h0 h [] ∧ h0.size ≤ b1 ∧ Exa Z h b1 "[B" ∧ Arv Z h b1 k1 .byte (1 : Int32) [(.int (nar .byte (y3.toInt8.toInt32)))] (.int (0 : Int32))) := by
  refine Ctr.of (plainFor_of_name pn_java_lang_StringUTF16) (fun m => ef_m3_compress m x1 kk2 y3) ?_
  intro p e s m below meth c T0 hx hZ hby hml hown hnm hret hlk X0 e0
  have N0 := Fr.nil n0
  show Rch p e below _ (T0.setTop (mkF m 0 #[.val (.ref x1), .val (.int (0 : Int32)), .val (.int (1 : Int32)), .unset, .unset, .unset] []))
  refine Rch.go (fun t k => XS.iloadN X0.here hx rfl (hb hby d2_0) rfl  k) ?_
  show Rch p e below _ (T0.setTop (mkF m 1 #[.val (.ref x1), .val (.int (0 : Int32)), .val (.int (1 : Int32)), .unset, .unset, .unset] [(.int (1 : Int32))]))
  obtain ⟨T1, h1, k1, X1, e1, E1, A1, B1, st1⟩ := newPE (aty := .byte) X0 hx hZ (wd_20 hw) e0 (g := (mkF m 1 #[.val (.ref x1), .val (.int (0 : Int32)), .val (.int (1 : Int32)), .unset, .unset, .unset] [(.int (1 : Int32))])) rfl (hb hby d2_1) rfl (by decide) (cap := 1) (by decide) (by decide) (by decide) (by decide) (ad := "[B") (by decide +kernel)
  obtain ⟨b1, g1⟩ : ∃ z, z = h0.size := ⟨_, rfl⟩
  rw [← g1] at A1 B1 st1
  refine Rch.go st1 ?_
  have z2 : n0 ≤ h1.size := (Nat.le_trans Z0 E1.1)
  have o3 := O0.ext E1
  have g_b1 : n0 ≤ b1 := Nat.le_trans Z0 (Nat.le_of_eq g1.symm)
  have V1 : Arv Z h1 b1 k1 .byte (1 : Int32) [(.int (0 : Int32))] (.int (0 : Int32)) := (Arv.new A1 (by decide)).pad (pad_rep [] (.int (0 : Int32)) 1)
  show Rch p e below _ (T1.setTop (mkF m 3 #[.val (.ref x1), .val (.int (0 : Int32)), .val (.int (1 : Int32)), .unset, .unset, .unset] [(.ref b1)]))
  refine Rch.go (fun t k => XS.astoreN X1.here hx rfl (hb hby d2_3) rfl rfl (l' := #[.val (.ref x1), .val (.int (0 : Int32)), .val (.int (1 : Int32)), .val (.ref b1), .unset, .unset]) rfl k) ?_
  show Rch p e below _ (T1.setTop (mkF m 4 #[.val (.ref x1), .val (.int (0 : Int32)), .val (.int (1 : Int32)), .val (.ref b1), .unset, .unset] []))
  refine Rch.go (fun t k => XS.aloadN X1.here hx rfl (hb hby d2_4) rfl rfl k) ?_
  show Rch p e below _ (T1.setTop (mkF m 5 #[.val (.ref x1), .val (.int (0 : Int32)), .val (.int (1 : Int32)), .val (.ref b1), .unset, .unset] [(.ref x1)]))
  refine Rch.go (fun t k => XS.iloadN X1.here hx rfl (hb hby d2_5) rfl  k) ?_
  show Rch p e below _ (T1.setTop (mkF m 6 #[.val (.ref x1), .val (.int (0 : Int32)), .val (.int (1 : Int32)), .val (.ref b1), .unset, .unset] [(.int (0 : Int32)), (.ref x1)]))
  refine Rch.go (fun t k => XS.aloadN X1.here hx rfl (hb hby d2_6) rfl rfl k) ?_
  show Rch p e below _ (T1.setTop (mkF m 7 #[.val (.ref x1), .val (.int (0 : Int32)), .val (.int (1 : Int32)), .val (.ref b1), .unset, .unset] [(.ref b1), (.int (0 : Int32)), (.ref x1)]))
  refine Rch.go (fun t k => XS.iconst X1.here hx rfl (hb hby d2_7) k) ?_
  show Rch p e below _ (T1.setTop (mkF m 8 #[.val (.ref x1), .val (.int (0 : Int32)), .val (.int (1 : Int32)), .val (.ref b1), .unset, .unset] [(.int (0 : Int32)), (.ref b1), (.int (0 : Int32)), (.ref x1)]))
  refine Rch.go (fun t k => XS.iloadN X1.here hx rfl (hb hby d2_8) rfl  k) ?_
  show Rch p e below _ (T1.setTop (mkF m 9 #[.val (.ref x1), .val (.int (0 : Int32)), .val (.int (1 : Int32)), .val (.ref b1), .unset, .unset] [(.int (1 : Int32)), (.int (0 : Int32)), (.ref b1), (.int (0 : Int32)), (.ref x1)]))
  have f4 := (P1.ext E1)
  obtain ⟨v5, T5, L5, X5, Q5, st5⟩ := callSt X1 hx hZ (m4_compress l Z a0 hw x1 b1 kk2 y3 k1 h1 n0 z2 o3 f4 P2 V1 g_b1) e1 hown (wd_21 hw) (wd_22 hw) (wd_23 hw) (wd_18 hw) (by decide) (hb hby d2_9) 0 (by decide) (by decide) (by decide) (by decide) (by rw [hml]; rfl) [(.ref x1), (.int (0 : Int32)), (.ref b1), (.int (0 : Int32)), (.int (1 : Int32))] [] rfl (lenOf pd_0 rfl) rfl (Nat.le_of_eq rfl) (Ls := #[.val (.ref x1), .val (.int (0 : Int32)), .val (.int (1 : Int32)), .val (.ref b1), .unset, .unset])
  obtain ⟨rfl, M5, K5, F5_0⟩ := Q5
  have N5 := Fr.app N0 M5
  refine Rch.go st5 ?_
  have z6 : n0 ≤ T5.heap.size := (Nat.le_trans z2 K5.1)
  have o7 := o3.keep K5 (allS g_b1 all0)
  show Rch p e below _ (T5.setTop (mkF m 12 #[.val (.ref x1), .val (.int (0 : Int32)), .val (.int (1 : Int32)), .val (.ref b1), .unset, .unset] [(.int (1 : Int32))]))
  refine Rch.go (fun t k => XS.istore X5.here hx rfl (hb hby d2_12) rfl  (l' := #[.val (.ref x1), .val (.int (0 : Int32)), .val (.int (1 : Int32)), .val (.ref b1), .val (.int (1 : Int32)), .unset]) rfl k) ?_
  show Rch p e below _ (T5.setTop (mkF m 14 #[.val (.ref x1), .val (.int (0 : Int32)), .val (.int (1 : Int32)), .val (.ref b1), .val (.int (1 : Int32)), .unset] []))
  refine Rch.go (fun t k => XS.iload X5.here hx rfl (hb hby d2_14) rfl  k) ?_
  show Rch p e below _ (T5.setTop (mkF m 16 #[.val (.ref x1), .val (.int (0 : Int32)), .val (.int (1 : Int32)), .val (.ref b1), .val (.int (1 : Int32)), .unset] [(.int (1 : Int32))]))
  refine Rch.go (fun t k => XS.iloadN X5.here hx rfl (hb hby d2_16) rfl  k) ?_
  show Rch p e below _ (T5.setTop (mkF m 17 #[.val (.ref x1), .val (.int (0 : Int32)), .val (.int (1 : Int32)), .val (.ref b1), .val (.int (1 : Int32)), .unset] [(.int (1 : Int32)), (.int (1 : Int32))]))
  refine Rch.go (fun t k => XS.icmpYes X5.here hx rfl (pc0 := 17) (pc' := 57) rfl (hb hby d2_17) rfl (by decide) (by decide) (by decide) k) ?_
  show Rch p e below _ (T5.setTop (mkF m 57 #[.val (.ref x1), .val (.int (0 : Int32)), .val (.int (1 : Int32)), .val (.ref b1), .val (.int (1 : Int32)), .unset] []))
  refine Rch.go (fun t k => XS.aloadN X5.here hx rfl (hb hby d2_57) rfl rfl k) ?_
  show Rch p e below _ (T5.setTop (mkF m 58 #[.val (.ref x1), .val (.int (0 : Int32)), .val (.int (1 : Int32)), .val (.ref b1), .val (.int (1 : Int32)), .unset] [(.ref b1)]))
  have f8 := (B1.keep K5)
  refine Rch.val X5 hx (t := (.array .byte)) hret hlk rfl (Or.inr (Or.inr (Or.inr (Or.inr ⟨rfl, rfl, rfl⟩)))) (hb hby d2_58) (by decide) (by decide) ?_
  exact ⟨b1, k1, rfl, N5, (((Keep.refl _ _).ext E1).trans K5 (allS (Or.inr (Nat.le_trans (Nat.le_refl _) (Nat.le_of_eq g1.symm))) all0)), (Nat.le_trans (Nat.le_refl _) (Nat.le_of_eq g1.symm)), f8, F5_0⟩
theorem wd_19 {Z : State} {a0 : Array Value} (hw : ∀ d ∈ tables_1, d.before a0 Z = true) : (Jvm.Cond.code ({ cls := "java/lang/StringUTF16", name := "compress", desc := "([CII)[B" } : Jvm.MethodName) jdk_52_method_16_code (6 : Nat) (Option.some (Jvm.ClassFile.FieldType.array Jvm.ClassFile.FieldType.byte))).before a0 Z = true := hw _ (List.mem_of_getElem? (i := 19) rfl)
theorem pd_1 : parseMethodDescriptor "([CII)[B" = some ⟨[(.array .char), .int, .int], some (.array .byte)⟩ := by decide +kernel
theorem wd_17 {Z : State} {a0 : Array Value} (hw : ∀ d ∈ tables_1, d.before a0 Z = true) : (Jvm.Cond.static ({ cls := "java/lang/StringUTF16", name := "compress", desc := "([CII)[B" } : Jvm.MethodName)).before a0 Z = true := hw _ (List.mem_of_getElem? (i := 17) rfl)
theorem d1_39 : decode jdk_42_method_149_code 39 = .ok (.astore 5, 2) := by decide +kernel
theorem d1_41 : decode jdk_42_method_149_code 41 = .ok (.aload_n 0, 1) := by decide +kernel
theorem d1_42 : decode jdk_42_method_149_code 42 = .ok (.aload 5, 2) := by decide +kernel
theorem d1_44 : decode jdk_42_method_149_code 44 = .ok (.iload_n 3, 1) := by decide +kernel
theorem d1_45 : decode jdk_42_method_149_code 45 = .ok (.invokestatic 47, 3) := by decide +kernel
theorem wd_24 {Z : State} {a0 : Array Value} (hw : ∀ d ∈ tables_1, d.before a0 Z = true) : (Jvm.Cond.methodLink "java/lang/String" (47 : Nat) ({ cls := "java/lang/StringUTF16", name := "coderFromArrayLen", desc := "([BI)B" } : Jvm.MethodName)).before a0 Z = true := hw _ (List.mem_of_getElem? (i := 24) rfl)
theorem d4_0 : decode jdk_52_method_15_code 0 = .ok (.iload_n 1, 1) := by decide +kernel
theorem d4_1 : decode jdk_52_method_15_code 1 = .ok (.aload_n 0, 1) := by decide +kernel
theorem d4_2 : decode jdk_52_method_15_code 2 = .ok (.arraylength, 1) := by decide +kernel
theorem d4_3 : decode jdk_52_method_15_code 3 = .ok (.isub, 1) := by decide +kernel
theorem d4_4 : decode jdk_52_method_15_code 4 = .ok (.bipush 31, 2) := by decide +kernel
theorem d4_6 : decode jdk_52_method_15_code 6 = .ok (.iushr, 1) := by decide +kernel
theorem d4_7 : decode jdk_52_method_15_code 7 = .ok (.i2b, 1) := by decide +kernel
theorem d4_8 : decode jdk_52_method_15_code 8 = .ok (.ireturn, 1) := by decide +kernel
set_option maxRecDepth 65536 in
set_option maxHeartbeats 4000000 in
theorem ef_m5_coderFromArrayLen (m : MethodId) (x1 : Addr) (kk2 : ClassId) (y3 : Int32) : entryFrame m #[(.ref x1), (.int (1 : Int32))] 2 = mkF m 0 #[.val (.ref x1), .val (.int (1 : Int32))] [] := by first | rfl | (simp [entryFrame, mkF, argsToLocals, Value.category]; done)
set_option maxRecDepth 65536 in
set_option maxHeartbeats 40000000 in
theorem m5_coderFromArrayLen (l : Launch) (Z : State) (a0 : Array Value) (hw : ∀ d ∈ tables_1, d.before a0 Z = true) (x1 : Addr) (kk2 : ClassId) (y3 : Int32) (h0 : Heap) (n0 : Nat) (Z0 : n0 ≤ h0.size) (O0 : Old Z n0 h0) (P1 : Arv Z h0 x1 kk2 .byte (1 : Int32) [(.int y3)] (.int (0 : Int32))) :
    Ctr l Z [] (⟨"java/lang/StringUTF16", "coderFromArrayLen", "([BI)B"⟩ : MethodName) jdk_52_method_15_code 2 (some .byte) #[(.ref x1), (.int (1 : Int32))] h0 ({ frames := 0, cells := 0, slots := 0, locals := 0 } : Room) (fun v h L => v = some (.int (0 : Int32)) ∧ Fr n0 L ∧ h = h0) := by
  refine Ctr.of (plainFor_of_name pn_java_lang_StringUTF16) (fun m => ef_m5_coderFromArrayLen m x1 kk2 y3) ?_
  intro p e s m below meth c T0 hx hZ hby hml hown hnm hret hlk X0 e0
  have N0 := Fr.nil n0
  show Rch p e below _ (T0.setTop (mkF m 0 #[.val (.ref x1), .val (.int (1 : Int32))] []))
  refine Rch.go (fun t k => XS.iloadN X0.here hx rfl (hb hby d4_0) rfl  k) ?_
  show Rch p e below _ (T0.setTop (mkF m 1 #[.val (.ref x1), .val (.int (1 : Int32))] [(.int (1 : Int32))]))
  refine Rch.go (fun t k => XS.aloadN X0.here hx rfl (hb hby d4_1) rfl rfl k) ?_
  show Rch p e below _ (T0.setTop (mkF m 2 #[.val (.ref x1), .val (.int (1 : Int32))] [(.ref x1), (.int (1 : Int32))]))
  obtain ⟨c1, r1, q1, s1, u1, H1, G1⟩ := id P1
  refine Rch.go (fun t k => X0.arraylength hx (by rw [e0]; exact r1.1) (State.isArrayOf_alike hZ.alike r1.2.1) (g := (mkF m 2 #[.val (.ref x1), .val (.int (1 : Int32))] [(.ref x1), (.int (1 : Int32))])) rfl rfl (hb hby d4_2) t (by rw [len_of s1 u1]; exact k)) ?_
  show Rch p e below _ (T0.setTop (mkF m 3 #[.val (.ref x1), .val (.int (1 : Int32))] [(.int (1 : Int32)), (.int (1 : Int32))]))
  refine Rch.go (fun t k => XS.isub X0.here hx rfl (hb hby d4_3) rfl k) ?_
  show Rch p e below _ (T0.setTop (mkF m 4 #[.val (.ref x1), .val (.int (1 : Int32))] [(.int (0 : Int32))]))
  refine Rch.go (fun t k => XS.bipush X0.here hx rfl (hb hby d4_4) k) ?_
  show Rch p e below _ (T0.setTop (mkF m 6 #[.val (.ref x1), .val (.int (1 : Int32))] [(.int (31 : Int32)), (.int (0 : Int32))]))
  refine Rch.go (fun t k => XS.iushr X0.here hx rfl (hb hby d4_6) rfl k) ?_
  show Rch p e below _ (T0.setTop (mkF m 7 #[.val (.ref x1), .val (.int (1 : Int32))] [(.int (0 : Int32))]))
  refine Rch.go (fun t k => XS.i2b X0.here hx rfl (hb hby d4_7) rfl k) ?_
  show Rch p e below _ (T0.setTop (mkF m 8 #[.val (.ref x1), .val (.int (1 : Int32))] [(.int (0 : Int32))]))
  refine Rch.val X0 hx (t := .byte) hret hlk rfl (mayI (by simp)) (hb hby d4_8) (by decide) (by decide) ?_
  try rw [e0]
  exact ⟨rfl, N0, rfl⟩
theorem wd_26 {Z : State} {a0 : Array Value} (hw : ∀ d ∈ tables_1, d.before a0 Z = true) : (Jvm.Cond.code ({ cls := "java/lang/StringUTF16", name := "coderFromArrayLen", desc := "([BI)B" } : Jvm.MethodName) jdk_52_method_15_code (2 : Nat) (Option.some Jvm.ClassFile.FieldType.byte)).before a0 Z = true := hw _ (List.mem_of_getElem? (i := 26) rfl)
theorem pd_2 : parseMethodDescriptor "([BI)B" = some ⟨[(.array .byte), .int], some .byte⟩ := by decide +kernel
theorem wd_25 {Z : State} {a0 : Array Value} (hw : ∀ d ∈ tables_1, d.before a0 Z = true) : (Jvm.Cond.static ({ cls := "java/lang/StringUTF16", name := "coderFromArrayLen", desc := "([BI)B" } : Jvm.MethodName)).before a0 Z = true := hw _ (List.mem_of_getElem? (i := 25) rfl)
theorem d1_48 : decode jdk_42_method_149_code 48 = .ok (.putfield 15, 3) := by decide +kernel
theorem wd_27 {Z : State} {a0 : Array Value} (hw : ∀ d ∈ tables_1, d.before a0 Z = true) : (Jvm.Cond.fieldLink "java/lang/String" (15 : Nat) "java/lang/String" "coder" "B").before a0 Z = true := hw _ (List.mem_of_getElem? (i := 27) rfl)
theorem d1_51 : decode jdk_42_method_149_code 51 = .ok (.aload_n 0, 1) := by decide +kernel
theorem d1_52 : decode jdk_42_method_149_code 52 = .ok (.aload 5, 2) := by decide +kernel
theorem d1_54 : decode jdk_42_method_149_code 54 = .ok (.putfield 9, 3) := by decide +kernel
theorem wd_29 {Z : State} {a0 : Array Value} (hw : ∀ d ∈ tables_1, d.before a0 Z = true) : (Jvm.Cond.fieldLink "java/lang/String" (9 : Nat) "java/lang/String" "value" "[B").before a0 Z = true := hw _ (List.mem_of_getElem? (i := 29) rfl)
theorem d1_57 : decode jdk_42_method_149_code 57 = .ok (.return_, 1) := by decide +kernel
theorem pn_java_lang_String : plainName "java/lang/String" = true := by first | (simp [plainName, overriddenIn]; done) | decide +kernel
set_option maxRecDepth 65536 in
set_option maxHeartbeats 4000000 in
theorem ef_m2_init (m : MethodId) (x1 : Addr) (x2 : Addr) (y3 : Int32) (kk4 : ClassId) (y5 : Int32) : entryFrame m #[(.ref x1), (.ref x2), (.int (0 : Int32)), (.int (1 : Int32)), .null] 6 = mkF m 0 #[.val (.ref x1), .val (.ref x2), .val (.int (0 : Int32)), .val (.int (1 : Int32)), .val .null, .unset] [] := by first | rfl | (simp [entryFrame, mkF, argsToLocals, Value.category]; done)
set_option maxRecDepth 65536 in
set_option maxHeartbeats 40000000 in
theorem m2_init (l : Launch) (Z : State) (a0 : Array Value) (hw : ∀ d ∈ tables_1, d.before a0 Z = true) (x1 : Addr) (x2 : Addr) (y3 : Int32) (kk4 : ClassId) (y5 : Int32) (h0 : Heap) (n0 : Nat) (Z0 : n0 ≤ h0.size) (O0 : Old Z n0 h0) (P1 : Sta Z Z.heap "java/lang/String" "COMPACT_STRINGS" "Z" (.int y3)) (P2 : ¬ (y3 = (0 : Int32))) (P3 : Arv Z h0 x2 kk4 .char (1 : Int32) [(.int y5)] (.int (0 : Int32))) (P4 : ¬ ((255 : Int32) < y5)) (P5 : Exa Z h0 x1 "java/lang/String") (P6 : Fld Z h0 x1 "java/lang/String" "coder" "B" (.int (0 : Int32))) (P7 : n0 ≤ x1) (P8 : Fld Z h0 x1 "java/lang/String" "value" "[B" .null) :
    Ctr l Z [] (⟨"java/lang/String", "<init>", "([CIILjava/lang/Void;)V"⟩ : MethodName) jdk_42_method_149_code 6 none #[(.ref x1), (.ref x2), (.int (0 : Int32)), (.int (1 : Int32)), .null] h0 ({ frames := 2, cells := 1, slots := 1, locals := 35 } : Room) (fun v h L => ∃ (b3_0 : Addr) (k3_0 : ClassId), v = none ∧ Fr n0 L ∧ Keep h0 h [x1] ∧ h0.size ≤ b3_0 ∧ Exa Z h b3_0 "[B" ∧ Arv Z h b3_0 k3_0 .byte (1 : Int32) [(.int (nar .byte (y5.toInt8.toInt32)))] (.int (0 : Int32)) ∧ Fld Z h x1 "java/lang/String" "coder" "B" (.int (0 : Int32)) ∧ Fld Z h x1 "java/lang/String" "value" "[B" (.ref b3_0)) := by
  refine Ctr.of (plainFor_of_name pn_java_lang_String) (fun m => ef_m2_init m x1 x2 y3 kk4 y5) ?_
  intro p e s m below meth c T0 hx hZ hby hml hown hnm hret hlk X0 e0
  have N0 := Fr.nil n0
  show Rch p e below _ (T0.setTop (mkF m 0 #[.val (.ref x1), .val (.ref x2), .val (.int (0 : Int32)), .val (.int (1 : Int32)), .val .null, .unset] []))
  refine Rch.go (fun t k => XS.aloadN X0.here hx rfl (hb hby d1_0) rfl rfl k) ?_
  show Rch p e below _ (T0.setTop (mkF m 1 #[.val (.ref x1), .val (.ref x2), .val (.int (0 : Int32)), .val (.int (1 : Int32)), .val .null, .unset] [(.ref x1)]))
  obtain ⟨T1, X1, e1, st1⟩ := initO X0 hx hZ hown (wd_12 hw) (wd_13 hw) (wd_14 hw) e0 (g := (mkF m 1 #[.val (.ref x1), .val (.ref x2), .val (.int (0 : Int32)), .val (.int (1 : Int32)), .val .null, .unset] [(.ref x1)])) rfl (by rw [hml]; rfl) rfl (hb hby d1_1) (by decide) (W := 0) (by show 2 * 0 + _ ≤ _; exact Nat.le_of_eq rfl) (by decide)
  refine Rch.go st1 ?_
  show Rch p e below _ (T1.setTop (mkF m 4 #[.val (.ref x1), .val (.ref x2), .val (.int (0 : Int32)), .val (.int (1 : Int32)), .val .null, .unset] []))
  refine Rch.go (fun t k => XS.iloadN X1.here hx rfl (hb hby d1_4) rfl  k) ?_
  show Rch p e below _ (T1.setTop (mkF m 5 #[.val (.ref x1), .val (.ref x2), .val (.int (0 : Int32)), .val (.int (1 : Int32)), .val .null, .unset] [(.int (1 : Int32))]))
  refine Rch.go (fun t k => XS.ifYes X1.here hx rfl (pc0 := 5) (pc' := 27) rfl (hb hby d1_5) rfl (by decide) (by decide) (by decide) k) ?_
  show Rch p e below _ (T1.setTop (mkF m 27 #[.val (.ref x1), .val (.ref x2), .val (.int (0 : Int32)), .val (.int (1 : Int32)), .val .null, .unset] []))
  obtain ⟨T2, X2, e2, st2⟩ := getS2 X1 hx hZ hown (host := "") (Or.inl (wd_15 hw)) Via.refl e1 (P1.ext O0.2) (g := (mkF m 27 #[.val (.ref x1), .val (.ref x2), .val (.int (0 : Int32)), .val (.int (1 : Int32)), .val .null, .unset] [])) rfl (hb hby d1_27)
  refine Rch.go st2 ?_
  show Rch p e below _ (T2.setTop (mkF m 30 #[.val (.ref x1), .val (.ref x2), .val (.int (0 : Int32)), .val (.int (1 : Int32)), .val .null, .unset] [(.int y3)]))
  refine Rch.go (fun t k => XS.ifNo X2.here hx rfl (hb hby d1_30) rfl (XT.i0_eq_f P2) k) ?_
  show Rch p e below _ (T2.setTop (mkF m 33 #[.val (.ref x1), .val (.ref x2), .val (.int (0 : Int32)), .val (.int (1 : Int32)), .val .null, .unset] []))
  refine Rch.go (fun t k => XS.aloadN X2.here hx rfl (hb hby d1_33) rfl rfl k) ?_
  show Rch p e below _ (T2.setTop (mkF m 34 #[.val (.ref x1), .val (.ref x2), .val (.int (0 : Int32)), .val (.int (1 : Int32)), .val .null, .unset] [(.ref x2)]))
  refine Rch.go (fun t k => XS.iloadN X2.here hx rfl (hb hby d1_34) rfl  k) ?_
  show Rch p e below _ (T2.setTop (mkF m 35 #[.val (.ref x1), .val (.ref x2), .val (.int (0 : Int32)), .val (.int (1 : Int32)), .val .null, .unset] [(.int (0 : Int32)), (.ref x2)]))
  refine Rch.go (fun t k => XS.iloadN X2.here hx rfl (hb hby d1_35) rfl  k) ?_
  show Rch p e below _ (T2.setTop (mkF m 36 #[.val (.ref x1), .val (.ref x2), .val (.int (0 : Int32)), .val (.int (1 : Int32)), .val .null, .unset] [(.int (1 : Int32)), (.int (0 : Int32)), (.ref x2)]))
  obtain ⟨v3, T3, L3, X3, Q3, st3⟩ := callSt X2 hx hZ (m3_compress l Z a0 hw x2 kk4 y5 h0 n0 Z0 O0 P3 P4) e2 hown (wd_16 hw) (wd_17 hw) (wd_19 hw) (wd_18 hw) (by decide) (hb hby d1_36) 0 (by decide) (by decide) (by decide) (by decide) (by rw [hml]; rfl) [(.ref x2), (.int (0 : Int32)), (.int (1 : Int32))] [] rfl (lenOf pd_1 rfl) rfl (Nat.le_of_eq rfl) (Ls := #[.val (.ref x1), .val (.ref x2), .val (.int (0 : Int32)), .val (.int (1 : Int32)), .val .null, .unset])
  obtain ⟨b3_0, k3_0, rfl, M3, K3, zz3_0, F3_0, F3_1⟩ := Q3
  have N3 := Fr.app N0 M3
  refine Rch.go st3 ?_
  have z4 : n0 ≤ T3.heap.size := (Nat.le_trans Z0 K3.1)
  have o5 := O0.keep K3 all0
  have g_b3_0 : n0 ≤ b3_0 := Nat.le_trans Z0 zz3_0
  show Rch p e below _ (T3.setTop (mkF m 39 #[.val (.ref x1), .val (.ref x2), .val (.int (0 : Int32)), .val (.int (1 : Int32)), .val .null, .unset] [(.ref b3_0)]))
  refine Rch.go (fun t k => XS.astore X3.here hx rfl (hb hby d1_39) rfl rfl (l' := #[.val (.ref x1), .val (.ref x2), .val (.int (0 : Int32)), .val (.int (1 : Int32)), .val .null, .val (.ref b3_0)]) rfl k) ?_
  show Rch p e below _ (T3.setTop (mkF m 41 #[.val (.ref x1), .val (.ref x2), .val (.int (0 : Int32)), .val (.int (1 : Int32)), .val .null, .val (.ref b3_0)] []))
  refine Rch.go (fun t k => XS.aloadN X3.here hx rfl (hb hby d1_41) rfl rfl k) ?_
  show Rch p e below _ (T3.setTop (mkF m 42 #[.val (.ref x1), .val (.ref x2), .val (.int (0 : Int32)), .val (.int (1 : Int32)), .val .null, .val (.ref b3_0)] [(.ref x1)]))
  refine Rch.go (fun t k => XS.aload X3.here hx rfl (hb hby d1_42) rfl rfl k) ?_
  show Rch p e below _ (T3.setTop (mkF m 44 #[.val (.ref x1), .val (.ref x2), .val (.int (0 : Int32)), .val (.int (1 : Int32)), .val .null, .val (.ref b3_0)] [(.ref b3_0), (.ref x1)]))
  refine Rch.go (fun t k => XS.iloadN X3.here hx rfl (hb hby d1_44) rfl  k) ?_
  show Rch p e below _ (T3.setTop (mkF m 45 #[.val (.ref x1), .val (.ref x2), .val (.int (0 : Int32)), .val (.int (1 : Int32)), .val .null, .val (.ref b3_0)] [(.int (1 : Int32)), (.ref b3_0), (.ref x1)]))
  obtain ⟨v6, T6, L6, X6, Q6, st6⟩ := callSt X3 hx hZ (m5_coderFromArrayLen l Z a0 hw b3_0 k3_0 (nar .byte (y5.toInt8.toInt32)) T3.heap n0 z4 o5 F3_1) rfl hown (wd_24 hw) (wd_25 hw) (wd_26 hw) (wd_18 hw) (by decide) (hb hby d1_45) 1 (by decide) (by decide) (by decide) (by decide) (by rw [hml]; rfl) [(.ref b3_0), (.int (1 : Int32))] [(.ref x1)] rfl (lenOf pd_2 rfl) rfl (Nat.le_of_eq rfl) (Ls := #[.val (.ref x1), .val (.ref x2), .val (.int (0 : Int32)), .val (.int (1 : Int32)), .val .null, .val (.ref b3_0)])
  obtain ⟨rfl, M6, e6⟩ := Q6
  have N6 := Fr.app N3 M6
  refine Rch.go st6 ?_
  show Rch p e below _ (T6.setTop (mkF m 48 #[.val (.ref x1), .val (.ref x2), .val (.int (0 : Int32)), .val (.int (1 : Int32)), .val .null, .val (.ref b3_0)] [(.int (0 : Int32)), (.ref x1)]))
  have f8 := (P6.keep K3 nin0)
  have f9 := (P5.keep K3)
  obtain ⟨T7, h7, X7, e7, W7, st7⟩ := putFN X6 hx hZ hown (wd_27 hw) Via.refl e6 f8 f9 (Or.inr ⟨(wd_28 hw), rfl, hnm⟩) (wd_2 hw) (ty := .byte) (v' := (.int (0 : Int32))) (by decide) rfl rfl (g := (mkF m 48 #[.val (.ref x1), .val (.ref x2), .val (.int (0 : Int32)), .val (.int (1 : Int32)), .val .null, .val (.ref b3_0)] [(.int (0 : Int32)), (.ref x1)])) rfl rfl (hb hby d1_48)
  refine Rch.go st7 ?_
  have z10 : n0 ≤ h7.size := (Nat.le_trans z4 (Nat.le_of_eq W7.size.symm))
  have o11 := o5.wr W7 P7
  have F7 := f8.same W7
  have N7 := Fr.snoc X7 N6 P7
  show Rch p e below _ (T7.setTop (mkF m 51 #[.val (.ref x1), .val (.ref x2), .val (.int (0 : Int32)), .val (.int (1 : Int32)), .val .null, .val (.ref b3_0)] []))
  refine Rch.go (fun t k => XS.aloadN X7.here hx rfl (hb hby d1_51) rfl rfl k) ?_
  show Rch p e below _ (T7.setTop (mkF m 52 #[.val (.ref x1), .val (.ref x2), .val (.int (0 : Int32)), .val (.int (1 : Int32)), .val .null, .val (.ref b3_0)] [(.ref x1)]))
  refine Rch.go (fun t k => XS.aload X7.here hx rfl (hb hby d1_52) rfl rfl k) ?_
  show Rch p e below _ (T7.setTop (mkF m 54 #[.val (.ref x1), .val (.ref x2), .val (.int (0 : Int32)), .val (.int (1 : Int32)), .val .null, .val (.ref b3_0)] [(.ref b3_0), (.ref x1)]))
  have f13 := ((P8.keep K3 nin0).other W7 (Or.inr (slot_ne (Or.inr (wd_30 hw)) (Or.inr (wd_28 hw)) (by decide) (t := (.array .byte)) (t' := .byte) (by decide) (by decide))))
  have f14 := (f9.wr W7)
  obtain ⟨T12, h12, X12, e12, W12, st12⟩ := putF X7 hx hZ hown (host := "") (Or.inl (wd_29 hw)) Via.refl e7 f13 f14 (Or.inr ⟨(wd_30 hw), rfl, hnm⟩) (wd_2 hw) (ty := (.array .byte)) (by decide) rfl rfl (g := (mkF m 54 #[.val (.ref x1), .val (.ref x2), .val (.int (0 : Int32)), .val (.int (1 : Int32)), .val .null, .val (.ref b3_0)] [(.ref b3_0), (.ref x1)])) rfl rfl (hb hby d1_54)
  refine Rch.go st12 ?_
  have z15 : n0 ≤ h12.size := (Nat.le_trans z10 (Nat.le_of_eq W12.size.symm))
  have o16 := o11.wr W12 P7
  have F12 := f13.same W12
  have N12 := Fr.snoc X12 N7 P7
  show Rch p e below _ (T12.setTop (mkF m 57 #[.val (.ref x1), .val (.ref x2), .val (.int (0 : Int32)), .val (.int (1 : Int32)), .val .null, .val (.ref b3_0)] []))
  have f17 := ((F3_0.wr W7).wr W12)
  have lt18 := P5.lt
  have ne19 : x1 ≠ b3_0 := Nat.ne_of_lt (Nat.lt_of_lt_of_le lt18 zz3_0)
  have f20 := ((F3_1.other W7 (Ne.symm ne19)).other W12 (Ne.symm ne19))
  have f21 := (F7.other W12 (Or.inr (slot_ne (Or.inr (wd_28 hw)) (Or.inr (wd_30 hw)) (by decide) (t := .byte) (t' := (.array .byte)) (by decide) (by decide))))
  refine Rch.void X12 hx hret hlk (hb hby d1_57) (by decide) (by decide) ?_
  try rw [e12]
  exact ⟨b3_0, k3_0, rfl, N12, ((((Keep.refl _ _).trans K3 all0).wr W7 (Or.inl (List.mem_of_getElem? (i := 0) rfl))).wr W12 (Or.inl (List.mem_of_getElem? (i := 0) rfl))), (Nat.le_trans (Nat.le_refl _) zz3_0), f17, f20, f21, F12⟩
theorem wd_11 {Z : State} {a0 : Array Value} (hw : ∀ d ∈ tables_1, d.before a0 Z = true) : (Jvm.Cond.code ({ cls := "java/lang/String", name := "<init>", desc := "([CIILjava/lang/Void;)V" } : Jvm.MethodName) jdk_42_method_149_code (6 : Nat) (Option.none : Option Jvm.ClassFile.FieldType)).before a0 Z = true := hw _ (List.mem_of_getElem? (i := 11) rfl)
theorem pd_3 : parseMethodDescriptor "([CIILjava/lang/Void;)V" = some ⟨[(.array .char), .int, .int, (.object "java/lang/Void")], none⟩ := by decide +kernel
theorem wd_9 {Z : State} {a0 : Array Value} (hw : ∀ d ∈ tables_1, d.before a0 Z = true) : (Jvm.Cond.instanceMethod ({ cls := "java/lang/String", name := "<init>", desc := "([CIILjava/lang/Void;)V" } : Jvm.MethodName)).before a0 Z = true := hw _ (List.mem_of_getElem? (i := 9) rfl)
theorem d0_9 : decode jdk_42_method_3_code 9 = .ok (.return_, 1) := by decide +kernel
set_option maxRecDepth 65536 in
set_option maxHeartbeats 4000000 in
theorem ef_m1_init (m : MethodId) (x1 : Addr) (x2 : Addr) (kk3 : ClassId) (y4 : Int32) (y5 : Int32) : entryFrame m #[(.ref x1), (.ref x2)] 2 = mkF m 0 #[.val (.ref x1), .val (.ref x2)] [] := by first | rfl | (simp [entryFrame, mkF, argsToLocals, Value.category]; done)
set_option maxRecDepth 65536 in
set_option maxHeartbeats 40000000 in
theorem m1_init (l : Launch) (Z : State) (a0 : Array Value) (hw : ∀ d ∈ tables_1, d.before a0 Z = true) (x1 : Addr) (x2 : Addr) (kk3 : ClassId) (y4 : Int32) (y5 : Int32) (h0 : Heap) (n0 : Nat) (Z0 : n0 ≤ h0.size) (O0 : Old Z n0 h0) (P1 : Arv Z h0 x2 kk3 .char (1 : Int32) [(.int y4)] (.int (0 : Int32))) (P2 : Sta Z Z.heap "java/lang/String" "COMPACT_STRINGS" "Z" (.int y5)) (P3 : ¬ (y5 = (0 : Int32))) (P4 : ¬ ((255 : Int32) < y4)) (P5 : Exa Z h0 x1 "java/lang/String") (P6 : Fld Z h0 x1 "java/lang/String" "coder" "B" (.int (0 : Int32))) (P7 : n0 ≤ x1) (P8 : Fld Z h0 x1 "java/lang/String" "value" "[B" .null) :
    Ctr l Z [] (⟨"java/lang/String", "<init>", "([C)V"⟩ : MethodName) jdk_42_method_3_code 2 none #[(.ref x1), (.ref x2)] h0 ({ frames := 3, cells := 1, slots := 1, locals := 52 } : Room) (fun v h L => ∃ (b2_0 : Addr) (k2_0 : ClassId), v = none ∧ Fr n0 L ∧ Keep h0 h [x1] ∧ h0.size ≤ b2_0 ∧ Exa Z h b2_0 "[B" ∧ Arv Z h b2_0 k2_0 .byte (1 : Int32) [(.int (nar .byte (y4.toInt8.toInt32)))] (.int (0 : Int32)) ∧ Fld Z h x1 "java/lang/String" "coder" "B" (.int (0 : Int32)) ∧ Fld Z h x1 "java/lang/String" "value" "[B" (.ref b2_0)) := by
  refine Ctr.of (plainFor_of_name pn_java_lang_String) (fun m => ef_m1_init m x1 x2 kk3 y4 y5) ?_
  intro p e s m below meth c T0 hx hZ hby hml hown hnm hret hlk X0 e0
  have N0 := Fr.nil n0
  show Rch p e below _ (T0.setTop (mkF m 0 #[.val (.ref x1), .val (.ref x2)] []))
  refine Rch.go (fun t k => XS.aloadN X0.here hx rfl (hb hby d0_0) rfl rfl k) ?_
  show Rch p e below _ (T0.setTop (mkF m 1 #[.val (.ref x1), .val (.ref x2)] [(.ref x1)]))
  refine Rch.go (fun t k => XS.aloadN X0.here hx rfl (hb hby d0_1) rfl rfl k) ?_
  show Rch p e below _ (T0.setTop (mkF m 2 #[.val (.ref x1), .val (.ref x2)] [(.ref x2), (.ref x1)]))
  refine Rch.go (fun t k => XS.iconst X0.here hx rfl (hb hby d0_2) k) ?_
  show Rch p e below _ (T0.setTop (mkF m 3 #[.val (.ref x1), .val (.ref x2)] [(.int (0 : Int32)), (.ref x2), (.ref x1)]))
  refine Rch.go (fun t k => XS.aloadN X0.here hx rfl (hb hby d0_3) rfl rfl k) ?_
  show Rch p e below _ (T0.setTop (mkF m 4 #[.val (.ref x1), .val (.ref x2)] [(.ref x2), (.int (0 : Int32)), (.ref x2), (.ref x1)]))
  obtain ⟨c1, r1, q1, s1, u1, H1, G1⟩ := id P1
  refine Rch.go (fun t k => X0.arraylength hx (by rw [e0]; exact r1.1) (State.isArrayOf_alike hZ.alike r1.2.1) (g := (mkF m 4 #[.val (.ref x1), .val (.ref x2)] [(.ref x2), (.int (0 : Int32)), (.ref x2), (.ref x1)])) rfl rfl (hb hby d0_4) t (by rw [len_of s1 u1]; exact k)) ?_
  show Rch p e below _ (T0.setTop (mkF m 5 #[.val (.ref x1), .val (.ref x2)] [(.int (1 : Int32)), (.int (0 : Int32)), (.ref x2), (.ref x1)]))
  refine Rch.go (fun t k => XS.aconstNull X0.here hx rfl (hb hby d0_5) k) ?_
  show Rch p e below _ (T0.setTop (mkF m 6 #[.val (.ref x1), .val (.ref x2)] [.null, (.int (1 : Int32)), (.int (0 : Int32)), (.ref x2), (.ref x1)]))
  obtain ⟨v2, T2, L2, X2, Q2, st2⟩ := callSp X0 hx hZ (m2_init l Z a0 hw x1 x2 y5 kk3 y4 h0 n0 Z0 O0 P2 P3 P1 P4 P5 P6 P7 P8) e0 hown rfl (wd_8 hw) (wd_9 hw) (wd_11 hw) (wd_3 hw) (by decide) (hb hby d0_6) 0 (by decide) (by decide) (by decide) (by decide) (by rw [hml]; rfl) x1 [(.ref x2), (.int (0 : Int32)), (.int (1 : Int32)), .null] [] rfl (lenOf pd_3 rfl) rfl (Nat.le_of_eq rfl) (Ls := #[.val (.ref x1), .val (.ref x2)])
  obtain ⟨b2_0, k2_0, rfl, M2, K2, zz2_0, F2_0, F2_1, F2_2, F2_3⟩ := Q2
  have N2 := Fr.app N0 M2
  refine Rch.go st2 ?_
  have z3 : n0 ≤ T2.heap.size := (Nat.le_trans Z0 K2.1)
  have o4 := O0.keep K2 (allS P7 all0)
  have g_b2_0 : n0 ≤ b2_0 := Nat.le_trans Z0 zz2_0
  show Rch p e below _ (T2.setTop (mkF m 9 #[.val (.ref x1), .val (.ref x2)] []))
  refine Rch.void X2 hx hret hlk (hb hby d0_9) (by decide) (by decide) ?_
  exact ⟨b2_0, k2_0, rfl, N2, ((Keep.refl _ _).trans K2 (allS (Or.inl (List.mem_of_getElem? (i := 0) rfl)) all0)), (Nat.le_trans (Nat.le_refl _) zz2_0), F2_0, F2_1, F2_2, F2_3⟩
theorem wd_7 {Z : State} {a0 : Array Value} (hw : ∀ d ∈ tables_1, d.before a0 Z = true) : (Jvm.Cond.code ({ cls := "java/lang/String", name := "<init>", desc := "([C)V" } : Jvm.MethodName) jdk_42_method_3_code (2 : Nat) (Option.none : Option Jvm.ClassFile.FieldType)).before a0 Z = true := hw _ (List.mem_of_getElem? (i := 7) rfl)
theorem pd_4 : parseMethodDescriptor "([C)V" = some ⟨[(.array .char)], none⟩ := by decide +kernel
theorem wd_6 {Z : State} {a0 : Array Value} (hw : ∀ d ∈ tables_1, d.before a0 Z = true) : (Jvm.Cond.instanceMethod ({ cls := "java/lang/String", name := "<init>", desc := "([C)V" } : Jvm.MethodName)).before a0 Z = true := hw _ (List.mem_of_getElem? (i := 6) rfl)
theorem wd_31 {Z : State} {a0 : Array Value} (hw : ∀ d ∈ tables_1, d.before a0 Z = true) : (Jvm.Cond.methodLink "com/example/harpocrates/harpocrates/data/TaxonomyLeafPinLaw" (13 : Nat) ({ cls := "com/example/harpocrates/harpocrates/data/Taxonomy", name := "leaf", desc := "(Ljava/lang/String;)Lcom/example/harpocrates/harpocrates/data/Taxonomy;" } : Jvm.MethodName)).before a0 Z = true := hw _ (List.mem_of_getElem? (i := 31) rfl)
theorem d5_0 : decode prog_9_method_2_code 0 = .ok (.new 35, 3) := by decide +kernel
theorem wd_35 {Z : State} {a0 : Array Value} (hw : ∀ d ∈ tables_1, d.before a0 Z = true) : (Jvm.Cond.classLink "com/example/harpocrates/harpocrates/data/Taxonomy" (35 : Nat) "com/example/harpocrates/harpocrates/data/Taxonomy").before a0 Z = true := hw _ (List.mem_of_getElem? (i := 35) rfl)
theorem wd_36 {Z : State} {a0 : Array Value} (hw : ∀ d ∈ tables_1, d.before a0 Z = true) : (Jvm.Cond.instantiable "com/example/harpocrates/harpocrates/data/Taxonomy" (2 : Nat)).before a0 Z = true := hw _ (List.mem_of_getElem? (i := 36) rfl)
theorem wd_33 {Z : State} {a0 : Array Value} (hw : ∀ d ∈ tables_1, d.before a0 Z = true) : (Jvm.Cond.initialized "com/example/harpocrates/harpocrates/data/Taxonomy").before a0 Z = true := hw _ (List.mem_of_getElem? (i := 33) rfl)
theorem wd_83 {Z : State} {a0 : Array Value} (hw : ∀ d ∈ tables_1, d.before a0 Z = true) : (Jvm.Cond.laysFinal "com/example/harpocrates/harpocrates/data/Taxonomy" "com/example/harpocrates/harpocrates/data/Taxonomy" "value" "Ljava/lang/String;").before a0 Z = true := hw _ (List.mem_of_getElem? (i := 83) rfl)
theorem wd_85 {Z : State} {a0 : Array Value} (hw : ∀ d ∈ tables_1, d.before a0 Z = true) : (Jvm.Cond.laysFinal "com/example/harpocrates/harpocrates/data/Taxonomy" "com/example/harpocrates/harpocrates/data/Taxonomy" "children" "Ljava/util/List;").before a0 Z = true := hw _ (List.mem_of_getElem? (i := 85) rfl)
theorem d5_3 : decode prog_9_method_2_code 3 = .ok (.dup, 1) := by decide +kernel
theorem d5_4 : decode prog_9_method_2_code 4 = .ok (.aload_n 0, 1) := by decide +kernel
theorem d5_5 : decode prog_9_method_2_code 5 = .ok (.invokestatic 43, 3) := by decide +kernel
theorem wd_37 {Z : State} {a0 : Array Value} (hw : ∀ d ∈ tables_1, d.before a0 Z = true) : (Jvm.Cond.methodLink "com/example/harpocrates/harpocrates/data/Taxonomy" (43 : Nat) ({ cls := "java/util/List", name := "of", desc := "()Ljava/util/List;" } : Jvm.MethodName)).before a0 Z = true := hw _ (List.mem_of_getElem? (i := 37) rfl)
theorem d6_0 : decode jdk_40_method_36_code 0 = .ok (.getstatic 90, 3) := by decide +kernel
theorem wd_41 {Z : State} {a0 : Array Value} (hw : ∀ d ∈ tables_1, d.before a0 Z = true) : (Jvm.Cond.fieldLink "java/util/List" (90 : Nat) "java/util/ImmutableCollections" "EMPTY_LIST" "Ljava/util/ImmutableCollections$ListN;").before a0 Z = true := hw _ (List.mem_of_getElem? (i := 41) rfl)
theorem d6_3 : decode jdk_40_method_36_code 3 = .ok (.areturn, 1) := by decide +kernel
theorem pn_java_util_List : plainName "java/util/List" = true := by first | (simp [plainName, overriddenIn]; done) | decide +kernel
set_option maxRecDepth 65536 in
set_option maxHeartbeats 4000000 in
theorem ef_m7_of (m : MethodId) (x1 : Addr) : entryFrame m #[] 0 = mkF m 0 #[] [] := by first | rfl | (simp [entryFrame, mkF, argsToLocals, Value.category]; done)
set_option maxRecDepth 65536 in
set_option maxHeartbeats 40000000 in
theorem m7_of (l : Launch) (Z : State) (a0 : Array Value) (hw : ∀ d ∈ tables_1, d.before a0 Z = true) (x1 : Addr) (h0 : Heap) (n0 : Nat) (Z0 : n0 ≤ h0.size) (O0 : Old Z n0 h0) (P1 : Sta Z Z.heap "java/util/ImmutableCollections" "EMPTY_LIST" "Ljava/util/ImmutableCollections$ListN;" (.ref x1)) :
    Ctr l Z [] (⟨"java/util/List", "of", "()Ljava/util/List;"⟩ : MethodName) jdk_40_method_36_code 0 (some (.object "java/util/List")) #[] h0 ({ frames := 0, cells := 0, slots := 0, locals := 0 } : Room) (fun v h L => v = some (.ref x1) ∧ Fr n0 L ∧ h = h0) := by
  refine Ctr.of (plainFor_of_name pn_java_util_List) (fun m => ef_m7_of m x1) ?_
  intro p e s m below meth c T0 hx hZ hby hml hown hnm hret hlk X0 e0
  have N0 := Fr.nil n0
  show Rch p e below _ (T0.setTop (mkF m 0 #[] []))
  obtain ⟨T1, X1, e1, st1⟩ := getS2 X0 hx hZ hown (host := "") (Or.inl (wd_41 hw)) Via.refl e0 (P1.ext O0.2) (g := (mkF m 0 #[] [])) rfl (hb hby d6_0)
  refine Rch.go st1 ?_
  show Rch p e below _ (T1.setTop (mkF m 3 #[] [(.ref x1)]))
  refine Rch.val X1 hx (t := (.object "java/util/List")) hret hlk rfl (Or.inr (Or.inr (Or.inr (Or.inr ⟨rfl, rfl, rfl⟩)))) (hb hby d6_3) (by decide) (by decide) ?_
  try rw [e1]
  exact ⟨rfl, N0, rfl⟩
theorem wd_40 {Z : State} {a0 : Array Value} (hw : ∀ d ∈ tables_1, d.before a0 Z = true) : (Jvm.Cond.code ({ cls := "java/util/List", name := "of", desc := "()Ljava/util/List;" } : Jvm.MethodName) jdk_40_method_36_code (0 : Nat) (Option.some (Jvm.ClassFile.FieldType.object "java/util/List"))).before a0 Z = true := hw _ (List.mem_of_getElem? (i := 40) rfl)
theorem wd_39 {Z : State} {a0 : Array Value} (hw : ∀ d ∈ tables_1, d.before a0 Z = true) : (Jvm.Cond.initialized "java/util/List").before a0 Z = true := hw _ (List.mem_of_getElem? (i := 39) rfl)
theorem pd_5 : parseMethodDescriptor "()Ljava/util/List;" = some ⟨[], some (.object "java/util/List")⟩ := by decide +kernel
theorem wd_38 {Z : State} {a0 : Array Value} (hw : ∀ d ∈ tables_1, d.before a0 Z = true) : (Jvm.Cond.static ({ cls := "java/util/List", name := "of", desc := "()Ljava/util/List;" } : Jvm.MethodName)).before a0 Z = true := hw _ (List.mem_of_getElem? (i := 38) rfl)
theorem d5_8 : decode prog_9_method_2_code 8 = .ok (.invokespecial 47, 3) := by decide +kernel
theorem wd_43 {Z : State} {a0 : Array Value} (hw : ∀ d ∈ tables_1, d.before a0 Z = true) : (Jvm.Cond.methodLink "com/example/harpocrates/harpocrates/data/Taxonomy" (47 : Nat) ({ cls := "com/example/harpocrates/harpocrates/data/Taxonomy", name := "<init>", desc := "(Ljava/lang/String;Ljava/util/List;)V" } : Jvm.MethodName)).before a0 Z = true := hw _ (List.mem_of_getElem? (i := 43) rfl)
theorem d7_0 : decode prog_9_method_1_code 0 = .ok (.aload_n 0, 1) := by decide +kernel
theorem d7_1 : decode prog_9_method_1_code 1 = .ok (.invokespecial 1, 3) := by decide +kernel
theorem wd_46 {Z : State} {a0 : Array Value} (hw : ∀ d ∈ tables_1, d.before a0 Z = true) : (Jvm.Cond.methodLink "com/example/harpocrates/harpocrates/data/Taxonomy" (1 : Nat) ({ cls := "java/lang/Record", name := "<init>", desc := "()V" } : Jvm.MethodName)).before a0 Z = true := hw _ (List.mem_of_getElem? (i := 46) rfl)
theorem d8_0 : decode jdk_30_method_1_code 0 = .ok (.aload_n 0, 1) := by decide +kernel
theorem d8_1 : decode jdk_30_method_1_code 1 = .ok (.invokespecial 1, 3) := by decide +kernel
theorem wd_51 {Z : State} {a0 : Array Value} (hw : ∀ d ∈ tables_1, d.before a0 Z = true) : (Jvm.Cond.methodLink "java/lang/Record" (1 : Nat) ({ cls := "java/lang/Object", name := "<init>", desc := "()V" } : Jvm.MethodName)).before a0 Z = true := hw _ (List.mem_of_getElem? (i := 51) rfl)
theorem d8_4 : decode jdk_30_method_1_code 4 = .ok (.return_, 1) := by decide +kernel
theorem pn_java_lang_Record : plainName "java/lang/Record" = true := by first | (simp [plainName, overriddenIn]; done) | decide +kernel
set_option maxRecDepth 65536 in
set_option maxHeartbeats 4000000 in
theorem ef_m9_init (m : MethodId) (x1 : Addr) : entryFrame m #[(.ref x1)] 1 = mkF m 0 #[.val (.ref x1)] [] := by first | rfl | (simp [entryFrame, mkF, argsToLocals, Value.category]; done)
set_option maxRecDepth 65536 in
set_option maxHeartbeats 40000000 in
theorem m9_init (l : Launch) (Z : State) (a0 : Array Value) (hw : ∀ d ∈ tables_1, d.before a0 Z = true) (x1 : Addr) (h0 : Heap) (n0 : Nat) (Z0 : n0 ≤ h0.size) (O0 : Old Z n0 h0) :
    Ctr l Z [] (⟨"java/lang/Record", "<init>", "()V"⟩ : MethodName) jdk_30_method_1_code 1 none #[(.ref x1)] h0 ({ frames := 1, cells := 0, slots := 0, locals := 12 } : Room) (fun v h L => v = none ∧ Fr n0 L ∧ h = h0) := by
  refine Ctr.of (plainFor_of_name pn_java_lang_Record) (fun m => ef_m9_init m x1) ?_
  intro p e s m below meth c T0 hx hZ hby hml hown hnm hret hlk X0 e0
  have N0 := Fr.nil n0
  show Rch p e below _ (T0.setTop (mkF m 0 #[.val (.ref x1)] []))
  refine Rch.go (fun t k => XS.aloadN X0.here hx rfl (hb hby d8_0) rfl rfl k) ?_
  show Rch p e below _ (T0.setTop (mkF m 1 #[.val (.ref x1)] [(.ref x1)]))
  obtain ⟨T1, X1, e1, st1⟩ := initO X0 hx hZ hown (wd_51 hw) (wd_13 hw) (wd_14 hw) e0 (g := (mkF m 1 #[.val (.ref x1)] [(.ref x1)])) rfl (by rw [hml]; rfl) rfl (hb hby d8_1) (by decide) (W := 0) (by show 2 * 0 + _ ≤ _; exact Nat.le_of_eq rfl) (by decide)
  refine Rch.go st1 ?_
  show Rch p e below _ (T1.setTop (mkF m 4 #[.val (.ref x1)] []))
  refine Rch.void X1 hx hret hlk (hb hby d8_4) (by decide) (by decide) ?_
  try rw [e1]
  exact ⟨rfl, N0, rfl⟩
theorem wd_50 {Z : State} {a0 : Array Value} (hw : ∀ d ∈ tables_1, d.before a0 Z = true) : (Jvm.Cond.code ({ cls := "java/lang/Record", name := "<init>", desc := "()V" } : Jvm.MethodName) jdk_30_method_1_code (1 : Nat) (Option.none : Option Jvm.ClassFile.FieldType)).before a0 Z = true := hw _ (List.mem_of_getElem? (i := 50) rfl)
theorem wd_49 {Z : State} {a0 : Array Value} (hw : ∀ d ∈ tables_1, d.before a0 Z = true) : (Jvm.Cond.initialized "java/lang/Record").before a0 Z = true := hw _ (List.mem_of_getElem? (i := 49) rfl)
theorem pd_6 : parseMethodDescriptor "()V" = some ⟨[], none⟩ := by decide +kernel
theorem wd_47 {Z : State} {a0 : Array Value} (hw : ∀ d ∈ tables_1, d.before a0 Z = true) : (Jvm.Cond.instanceMethod ({ cls := "java/lang/Record", name := "<init>", desc := "()V" } : Jvm.MethodName)).before a0 Z = true := hw _ (List.mem_of_getElem? (i := 47) rfl)
theorem d7_4 : decode prog_9_method_1_code 4 = .ok (.aload_n 1, 1) := by decide +kernel
theorem d7_5 : decode prog_9_method_1_code 5 = .ok (.ldc 7, 2) := by decide +kernel
theorem wd_52 {Z : State} {a0 : Array Value} (hw : ∀ d ∈ tables_1, d.before a0 Z = true) : (Jvm.Cond.stringLink "com/example/harpocrates/harpocrates/data/Taxonomy" (7 : Nat) "value").before a0 Z = true := hw _ (List.mem_of_getElem? (i := 52) rfl)
theorem d7_7 : decode prog_9_method_1_code 7 = .ok (.invokestatic 9, 3) := by decide +kernel
theorem wd_55 {Z : State} {a0 : Array Value} (hw : ∀ d ∈ tables_1, d.before a0 Z = true) : (Jvm.Cond.methodLink "com/example/harpocrates/harpocrates/data/Taxonomy" (9 : Nat) ({ cls := "java/util/Objects", name := "requireNonNull", desc := "(Ljava/lang/Object;Ljava/lang/String;)Ljava/lang/Object;" } : Jvm.MethodName)).before a0 Z = true := hw _ (List.mem_of_getElem? (i := 55) rfl)
theorem d9_0 : decode jdk_31_method_11_code 0 = .ok (.aload_n 0, 1) := by decide +kernel
theorem d9_1 : decode jdk_31_method_11_code 1 = .ok (.ifnonnull 12, 3) := by decide +kernel
theorem d9_13 : decode jdk_31_method_11_code 13 = .ok (.aload_n 0, 1) := by decide +kernel
theorem d9_14 : decode jdk_31_method_11_code 14 = .ok (.areturn, 1) := by decide +kernel
theorem pn_java_util_Objects : plainName "java/util/Objects" = true := by first | (simp [plainName, overriddenIn]; done) | decide +kernel
set_option maxRecDepth 65536 in
set_option maxHeartbeats 4000000 in
theorem ef_m10_requireNonNull (m : MethodId) (x1 : Addr) (x2 : Addr) : entryFrame m #[(.ref x1), (.ref x2)] 2 = mkF m 0 #[.val (.ref x1), .val (.ref x2)] [] := by first | rfl | (simp [entryFrame, mkF, argsToLocals, Value.category]; done)
set_option maxRecDepth 65536 in
set_option maxHeartbeats 40000000 in
theorem m10_requireNonNull (l : Launch) (Z : State) (a0 : Array Value) (hw : ∀ d ∈ tables_1, d.before a0 Z = true) (x1 : Addr) (x2 : Addr) (h0 : Heap) (n0 : Nat) (Z0 : n0 ≤ h0.size) (O0 : Old Z n0 h0) :
    Ctr l Z [] (⟨"java/util/Objects", "requireNonNull", "(Ljava/lang/Object;Ljava/lang/String;)Ljava/lang/Object;"⟩ : MethodName) jdk_31_method_11_code 2 (some (.object "java/lang/Object")) #[(.ref x1), (.ref x2)] h0 ({ frames := 0, cells := 0, slots := 0, locals := 0 } : Room) (fun v h L => v = some (.ref x1) ∧ Fr n0 L ∧ h = h0) := by
  refine Ctr.of (plainFor_of_name pn_java_util_Objects) (fun m => ef_m10_requireNonNull m x1 x2) ?_
  intro p e s m below meth c T0 hx hZ hby hml hown hnm hret hlk X0 e0
  have N0 := Fr.nil n0
  show Rch p e below _ (T0.setTop (mkF m 0 #[.val (.ref x1), .val (.ref x2)] []))
  refine Rch.go (fun t k => XS.aloadN X0.here hx rfl (hb hby d9_0) rfl rfl k) ?_
  show Rch p e below _ (T0.setTop (mkF m 1 #[.val (.ref x1), .val (.ref x2)] [(.ref x1)]))
  refine Rch.go (fun t k => XS.ifnonnullYes X0.here hx rfl (pc0 := 1) (pc' := 13) rfl (hb hby d9_1) rfl (by decide) (by decide) k) ?_
  show Rch p e below _ (T0.setTop (mkF m 13 #[.val (.ref x1), .val (.ref x2)] []))
  refine Rch.go (fun t k => XS.aloadN X0.here hx rfl (hb hby d9_13) rfl rfl k) ?_
  show Rch p e below _ (T0.setTop (mkF m 14 #[.val (.ref x1), .val (.ref x2)] [(.ref x1)]))
  refine Rch.val X0 hx (t := (.object "java/lang/Object")) hret hlk rfl (Or.inr (Or.inr (Or.inr (Or.inr ⟨rfl, rfl, rfl⟩)))) (hb hby d9_14) (by decide) (by decide) ?_
  try rw [e0]
  exact ⟨rfl, N0, rfl⟩
theorem wd_58 {Z : State} {a0 : Array Value} (hw : ∀ d ∈ tables_1, d.before a0 Z = true) : (Jvm.Cond.code ({ cls := "java/util/Objects", name := "requireNonNull", desc := "(Ljava/lang/Object;Ljava/lang/String;)Ljava/lang/Object;" } : Jvm.MethodName) jdk_31_method_11_code (2 : Nat) (Option.some (Jvm.ClassFile.FieldType.object "java/lang/Object"))).before a0 Z = true := hw _ (List.mem_of_getElem? (i := 58) rfl)
theorem wd_57 {Z : State} {a0 : Array Value} (hw : ∀ d ∈ tables_1, d.before a0 Z = true) : (Jvm.Cond.initialized "java/util/Objects").before a0 Z = true := hw _ (List.mem_of_getElem? (i := 57) rfl)
theorem pd_7 : parseMethodDescriptor "(Ljava/lang/Object;Ljava/lang/String;)Ljava/lang/Object;" = some ⟨[(.object "java/lang/Object"), (.object "java/lang/String")], some (.object "java/lang/Object")⟩ := by decide +kernel
theorem wd_56 {Z : State} {a0 : Array Value} (hw : ∀ d ∈ tables_1, d.before a0 Z = true) : (Jvm.Cond.static ({ cls := "java/util/Objects", name := "requireNonNull", desc := "(Ljava/lang/Object;Ljava/lang/String;)Ljava/lang/Object;" } : Jvm.MethodName)).before a0 Z = true := hw _ (List.mem_of_getElem? (i := 56) rfl)
theorem d7_10 : decode prog_9_method_1_code 10 = .ok (.pop, 1) := by decide +kernel
theorem d7_11 : decode prog_9_method_1_code 11 = .ok (.aload_n 1, 1) := by decide +kernel
theorem d7_12 : decode prog_9_method_1_code 12 = .ok (.invokevirtual 15, 3) := by decide +kernel
theorem wd_59 {Z : State} {a0 : Array Value} (hw : ∀ d ∈ tables_1, d.before a0 Z = true) : (Jvm.Cond.methodLink "com/example/harpocrates/harpocrates/data/Taxonomy" (15 : Nat) ({ cls := "java/lang/String", name := "isEmpty", desc := "()Z" } : Jvm.MethodName)).before a0 Z = true := hw _ (List.mem_of_getElem? (i := 59) rfl)
theorem d10_0 : decode jdk_42_method_55_code 0 = .ok (.aload_n 0, 1) := by decide +kernel
theorem d10_1 : decode jdk_42_method_55_code 1 = .ok (.getfield 9, 3) := by decide +kernel
theorem d10_4 : decode jdk_42_method_55_code 4 = .ok (.arraylength, 1) := by decide +kernel
theorem d10_5 : decode jdk_42_method_55_code 5 = .ok (.ifCond .ne 7, 3) := by decide +kernel
theorem d10_12 : decode jdk_42_method_55_code 12 = .ok (.iconst 0, 1) := by decide +kernel
theorem d10_13 : decode jdk_42_method_55_code 13 = .ok (.ireturn, 1) := by decide +kernel
set_option maxRecDepth 65536 in
set_option maxHeartbeats 4000000 in
theorem ef_m11_isEmpty (m : MethodId) (x1 : Addr) (x2 : Addr) (kk3 : ClassId) (y4 : Int32) : entryFrame m #[(.ref x1)] 1 = mkF m 0 #[.val (.ref x1)] [] := by first | rfl | (simp [entryFrame, mkF, argsToLocals, Value.category]; done)
set_option maxRecDepth 65536 in
set_option maxHeartbeats 40000000 in
theorem m11_isEmpty (l : Launch) (Z : State) (a0 : Array Value) (hw : ∀ d ∈ tables_1, d.before a0 Z = true) (x1 : Addr) (x2 : Addr) (kk3 : ClassId) (y4 : Int32) (h0 : Heap) (n0 : Nat) (Z0 : n0 ≤ h0.size) (O0 : Old Z n0 h0) (P1 : Fld Z h0 x1 "java/lang/String" "value" "[B" (.ref x2)) (P2 : Arv Z h0 x2 kk3 .byte (1 : Int32) [(.int y4)] (.int (0 : Int32))) :
    Ctr l Z [] (⟨"java/lang/String", "isEmpty", "()Z"⟩ : MethodName) jdk_42_method_55_code 1 (some .boolean) #[(.ref x1)] h0 ({ frames := 0, cells := 0, slots := 0, locals := 0 } : Room) (fun v h L => v = some (.int (0 : Int32)) ∧ Fr n0 L ∧ h = h0) := by
  refine Ctr.of (plainFor_of_name pn_java_lang_String) (fun m => ef_m11_isEmpty m x1 x2 kk3 y4) ?_
  intro p e s m below meth c T0 hx hZ hby hml hown hnm hret hlk X0 e0
  have N0 := Fr.nil n0
  show Rch p e below _ (T0.setTop (mkF m 0 #[.val (.ref x1)] []))
  refine Rch.go (fun t k => XS.aloadN X0.here hx rfl (hb hby d10_0) rfl rfl k) ?_
  show Rch p e below _ (T0.setTop (mkF m 1 #[.val (.ref x1)] [(.ref x1)]))
  obtain ⟨T1, X1, e1, st1⟩ := getF X0 hx hZ hown (host := "") (Or.inl (wd_29 hw)) Via.refl e0 P1 (g := (mkF m 1 #[.val (.ref x1)] [(.ref x1)])) rfl rfl (hb hby d10_1)
  refine Rch.go st1 ?_
  show Rch p e below _ (T1.setTop (mkF m 4 #[.val (.ref x1)] [(.ref x2)]))
  obtain ⟨c2, r2, q2, s2, u2, H2, G2⟩ := id P2
  refine Rch.go (fun t k => X1.arraylength hx (by rw [e1]; exact r2.1) (State.isArrayOf_alike hZ.alike r2.2.1) (g := (mkF m 4 #[.val (.ref x1)] [(.ref x2)])) rfl rfl (hb hby d10_4) t (by rw [len_of s2 u2]; exact k)) ?_
  show Rch p e below _ (T1.setTop (mkF m 5 #[.val (.ref x1)] [(.int (1 : Int32))]))
  refine Rch.go (fun t k => XS.ifYes X1.here hx rfl (pc0 := 5) (pc' := 12) rfl (hb hby d10_5) rfl (by decide) (by decide) (by decide) k) ?_
  show Rch p e below _ (T1.setTop (mkF m 12 #[.val (.ref x1)] []))
  refine Rch.go (fun t k => XS.iconst X1.here hx rfl (hb hby d10_12) k) ?_
  show Rch p e below _ (T1.setTop (mkF m 13 #[.val (.ref x1)] [(.int (0 : Int32))]))
  refine Rch.val X1 hx (t := .boolean) hret hlk rfl (mayI (by simp)) (hb hby d10_13) (by decide) (by decide) ?_
  try rw [e1]
  exact ⟨rfl, N0, rfl⟩
theorem wd_63 {Z : State} {a0 : Array Value} (hw : ∀ d ∈ tables_1, d.before a0 Z = true) : (Jvm.Cond.code ({ cls := "java/lang/String", name := "isEmpty", desc := "()Z" } : Jvm.MethodName) jdk_42_method_55_code (1 : Nat) (Option.some Jvm.ClassFile.FieldType.boolean)).before a0 Z = true := hw _ (List.mem_of_getElem? (i := 63) rfl)
theorem pd_8 : parseMethodDescriptor "()Z" = some ⟨[], some .boolean⟩ := by decide +kernel
theorem wd_62 {Z : State} {a0 : Array Value} (hw : ∀ d ∈ tables_1, d.before a0 Z = true) : (Jvm.Cond.selects "java/lang/String" ({ cls := "java/lang/String", name := "isEmpty", desc := "()Z" } : Jvm.MethodName) ({ cls := "java/lang/String", name := "isEmpty", desc := "()Z" } : Jvm.MethodName)).before a0 Z = true := hw _ (List.mem_of_getElem? (i := 62) rfl)
theorem wd_60 {Z : State} {a0 : Array Value} (hw : ∀ d ∈ tables_1, d.before a0 Z = true) : (Jvm.Cond.declares ({ cls := "java/lang/String", name := "isEmpty", desc := "()Z" } : Jvm.MethodName)).before a0 Z = true := hw _ (List.mem_of_getElem? (i := 60) rfl)
theorem wd_61 {Z : State} {a0 : Array Value} (hw : ∀ d ∈ tables_1, d.before a0 Z = true) : (Jvm.Cond.instanceMethod ({ cls := "java/lang/String", name := "isEmpty", desc := "()Z" } : Jvm.MethodName)).before a0 Z = true := hw _ (List.mem_of_getElem? (i := 61) rfl)
theorem d7_15 : decode prog_9_method_1_code 15 = .ok (.ifCond .eq 13, 3) := by decide +kernel
theorem d7_28 : decode prog_9_method_1_code 28 = .ok (.aload_n 2, 1) := by decide +kernel
theorem d7_29 : decode prog_9_method_1_code 29 = .ok (.invokestatic 28, 3) := by decide +kernel
theorem wd_64 {Z : State} {a0 : Array Value} (hw : ∀ d ∈ tables_1, d.before a0 Z = true) : (Jvm.Cond.methodLink "com/example/harpocrates/harpocrates/data/Taxonomy" (28 : Nat) ({ cls := "java/util/List", name := "copyOf", desc := "(Ljava/util/Collection;)Ljava/util/List;" } : Jvm.MethodName)).before a0 Z = true := hw _ (List.mem_of_getElem? (i := 64) rfl)
theorem d11_0 : decode jdk_40_method_48_code 0 = .ok (.aload_n 0, 1) := by decide +kernel
theorem d11_1 : decode jdk_40_method_48_code 1 = .ok (.invokestatic 112, 3) := by decide +kernel
theorem wd_67 {Z : State} {a0 : Array Value} (hw : ∀ d ∈ tables_1, d.before a0 Z = true) : (Jvm.Cond.methodLink "java/util/List" (112 : Nat) ({ cls := "java/util/ImmutableCollections", name := "listCopy", desc := "(Ljava/util/Collection;)Ljava/util/List;" } : Jvm.MethodName)).before a0 Z = true := hw _ (List.mem_of_getElem? (i := 67) rfl)
theorem d12_0 : decode jdk_56_method_3_code 0 = .ok (.aload_n 0, 1) := by decide +kernel
theorem d12_1 : decode jdk_56_method_3_code 1 = .ok (.instanceof 10, 3) := by decide +kernel
theorem wd_70 {Z : State} {a0 : Array Value} (hw : ∀ d ∈ tables_1, d.before a0 Z = true) : (Jvm.Cond.classLink "java/util/ImmutableCollections" (10 : Nat) "java/util/ImmutableCollections$List12").before a0 Z = true := hw _ (List.mem_of_getElem? (i := 70) rfl)
theorem d12_4 : decode jdk_56_method_3_code 4 = .ok (.ifCond .ne 22, 3) := by decide +kernel
theorem d12_26 : decode jdk_56_method_3_code 26 = .ok (.aload_n 0, 1) := by decide +kernel
theorem d12_27 : decode jdk_56_method_3_code 27 = .ok (.checkcast 18, 3) := by decide +kernel
theorem wd_80 {Z : State} {a0 : Array Value} (hw : ∀ d ∈ tables_1, d.before a0 Z = true) : (Jvm.Cond.classLink "java/util/ImmutableCollections" (18 : Nat) "java/util/List").before a0 Z = true := hw _ (List.mem_of_getElem? (i := 80) rfl)
theorem wd_81 {Z : State} {a0 : Array Value} (hw : ∀ d ∈ tables_1, d.before a0 Z = true) : (Jvm.Cond.castable "java/util/ImmutableCollections$ListN" "java/util/List").before a0 Z = true := hw _ (List.mem_of_getElem? (i := 81) rfl)
theorem d12_30 : decode jdk_56_method_3_code 30 = .ok (.areturn, 1) := by decide +kernel
theorem d12_7 : decode jdk_56_method_3_code 7 = .ok (.aload_n 0, 1) := by decide +kernel
theorem d12_8 : decode jdk_56_method_3_code 8 = .ok (.instanceof 12, 3) := by decide +kernel
theorem wd_76 {Z : State} {a0 : Array Value} (hw : ∀ d ∈ tables_1, d.before a0 Z = true) : (Jvm.Cond.classLink "java/util/ImmutableCollections" (12 : Nat) "java/util/ImmutableCollections$ListN").before a0 Z = true := hw _ (List.mem_of_getElem? (i := 76) rfl)
theorem d12_11 : decode jdk_56_method_3_code 11 = .ok (.ifCond .eq 20, 3) := by decide +kernel
theorem d12_14 : decode jdk_56_method_3_code 14 = .ok (.aload_n 0, 1) := by decide +kernel
theorem d12_15 : decode jdk_56_method_3_code 15 = .ok (.checkcast 12, 3) := by decide +kernel
theorem d12_18 : decode jdk_56_method_3_code 18 = .ok (.astore_n 1, 1) := by decide +kernel
theorem d12_19 : decode jdk_56_method_3_code 19 = .ok (.aload_n 1, 1) := by decide +kernel
theorem d12_20 : decode jdk_56_method_3_code 20 = .ok (.getfield 14, 3) := by decide +kernel
theorem wd_78 {Z : State} {a0 : Array Value} (hw : ∀ d ∈ tables_1, d.before a0 Z = true) : (Jvm.Cond.fieldLinkNest "java/util/ImmutableCollections" (14 : Nat) "java/util/ImmutableCollections$ListN" "allowNulls" "Z" "java/util/ImmutableCollections").before a0 Z = true := hw _ (List.mem_of_getElem? (i := 78) rfl)
theorem d12_23 : decode jdk_56_method_3_code 23 = .ok (.ifCond .ne 8, 3) := by decide +kernel
theorem pn_java_util_ImmutableCollections : plainName "java/util/ImmutableCollections" = true := by first | (simp [plainName, overriddenIn]; done) | decide +kernel
set_option maxRecDepth 65536 in
set_option maxHeartbeats 4000000 in
theorem ef_m13_listCopy (m : MethodId) (x1 : Addr) : entryFrame m #[(.ref x1)] 2 = mkF m 0 #[.val (.ref x1), .unset] [] := by first | rfl | (simp [entryFrame, mkF, argsToLocals, Value.category]; done)
set_option maxRecDepth 65536 in
set_option maxHeartbeats 40000000 in
theorem m13_listCopy (l : Launch) (Z : State) (a0 : Array Value) (hw : ∀ d ∈ tables_1, d.before a0 Z = true) (x1 : Addr) (h0 : Heap) (n0 : Nat) (Z0 : n0 ≤ h0.size) (O0 : Old Z n0 h0) (P1 : Exa Z Z.heap x1 "java/util/ImmutableCollections$ListN") (P2 : Fld Z Z.heap x1 "java/util/ImmutableCollections$ListN" "allowNulls" "Z" (.int (0 : Int32))) :
    Ctr l Z [] (⟨"java/util/ImmutableCollections", "listCopy", "(Ljava/util/Collection;)Ljava/util/List;"⟩ : MethodName) jdk_56_method_3_code 2 (some (.object "java/util/List")) #[(.ref x1)] h0 ({ frames := 0, cells := 0, slots := 0, locals := 0 } : Room) (fun v h L => v = some (.ref x1) ∧ Fr n0 L ∧ h = h0) := by
  refine Ctr.of (plainFor_of_name pn_java_util_ImmutableCollections) (fun m => ef_m13_listCopy m x1) ?_
  intro p e s m below meth c T0 hx hZ hby hml hown hnm hret hlk X0 e0
  have N0 := Fr.nil n0
  show Rch p e below _ (T0.setTop (mkF m 0 #[.val (.ref x1), .unset] []))
  refine Rch.go (fun t k => XS.aloadN X0.here hx rfl (hb hby d12_0) rfl rfl k) ?_
  show Rch p e below _ (T0.setTop (mkF m 1 #[.val (.ref x1), .unset] [(.ref x1)]))
  rcases own_instE X0 hx hZ hown (wd_70 hw) e0 (P1.ext O0.2) (g := (mkF m 1 #[.val (.ref x1), .unset] [(.ref x1)])) rfl rfl (hb hby d12_1) with ⟨-, T1, X1, e1, st1⟩ | ⟨T1, X1, e1, st1⟩
  · refine Rch.go st1 ?_
    show Rch p e below _ (T1.setTop (mkF m 4 #[.val (.ref x1), .unset] [(.int (1 : Int32))]))
    refine Rch.go (fun t k => XS.ifYes X1.here hx rfl (pc0 := 4) (pc' := 26) rfl (hb hby d12_4) rfl (by decide) (by decide) (by decide) k) ?_
    show Rch p e below _ (T1.setTop (mkF m 26 #[.val (.ref x1), .unset] []))
    refine Rch.go (fun t k => XS.aloadN X1.here hx rfl (hb hby d12_26) rfl rfl k) ?_
    show Rch p e below _ (T1.setTop (mkF m 27 #[.val (.ref x1), .unset] [(.ref x1)]))
    obtain ⟨T2, X2, e2, st2⟩ := castY X1 hx hZ hown (wd_80 hw) e1 (Ins.of_exa (P1.ext O0.2) (wd_81 hw)) (g := (mkF m 27 #[.val (.ref x1), .unset] [(.ref x1)])) rfl rfl (hb hby d12_27)
    refine Rch.go st2 ?_
    show Rch p e below _ (T2.setTop (mkF m 30 #[.val (.ref x1), .unset] [(.ref x1)]))
    refine Rch.val X2 hx (t := (.object "java/util/List")) hret hlk rfl (Or.inr (Or.inr (Or.inr (Or.inr ⟨rfl, rfl, rfl⟩)))) (hb hby d12_30) (by decide) (by decide) ?_
    try rw [e2]
    exact ⟨rfl, N0, rfl⟩
  · refine Rch.go st1 ?_
    show Rch p e below _ (T1.setTop (mkF m 4 #[.val (.ref x1), .unset] [(.int (0 : Int32))]))
    refine Rch.go (fun t k => XS.ifNo X1.here hx rfl (hb hby d12_4) rfl (by decide) k) ?_
    show Rch p e below _ (T1.setTop (mkF m 7 #[.val (.ref x1), .unset] []))
    refine Rch.go (fun t k => XS.aloadN X1.here hx rfl (hb hby d12_7) rfl rfl k) ?_
    show Rch p e below _ (T1.setTop (mkF m 8 #[.val (.ref x1), .unset] [(.ref x1)]))
    obtain ⟨T3, X3, e3, st3⟩ := instY X1 hx hZ hown (wd_76 hw) e1 (Ins.self (P1.ext O0.2)) (g := (mkF m 8 #[.val (.ref x1), .unset] [(.ref x1)])) rfl rfl (hb hby d12_8)
    refine Rch.go st3 ?_
    show Rch p e below _ (T3.setTop (mkF m 11 #[.val (.ref x1), .unset] [(.int (1 : Int32))]))
    refine Rch.go (fun t k => XS.ifNo X3.here hx rfl (hb hby d12_11) rfl (by decide) k) ?_
    show Rch p e below _ (T3.setTop (mkF m 14 #[.val (.ref x1), .unset] []))
    refine Rch.go (fun t k => XS.aloadN X3.here hx rfl (hb hby d12_14) rfl rfl k) ?_
    show Rch p e below _ (T3.setTop (mkF m 15 #[.val (.ref x1), .unset] [(.ref x1)]))
    obtain ⟨T4, X4, e4, st4⟩ := castY X3 hx hZ hown (wd_76 hw) e3 (Ins.self (P1.ext O0.2)) (g := (mkF m 15 #[.val (.ref x1), .unset] [(.ref x1)])) rfl rfl (hb hby d12_15)
    refine Rch.go st4 ?_
    show Rch p e below _ (T4.setTop (mkF m 18 #[.val (.ref x1), .unset] [(.ref x1)]))
    refine Rch.go (fun t k => XS.astoreN X4.here hx rfl (hb hby d12_18) rfl rfl (l' := #[.val (.ref x1), .val (.ref x1)]) rfl k) ?_
    show Rch p e below _ (T4.setTop (mkF m 19 #[.val (.ref x1), .val (.ref x1)] []))
    refine Rch.go (fun t k => XS.aloadN X4.here hx rfl (hb hby d12_19) rfl rfl k) ?_
    show Rch p e below _ (T4.setTop (mkF m 20 #[.val (.ref x1), .val (.ref x1)] [(.ref x1)]))
    obtain ⟨T5, X5, e5, st5⟩ := getF X4 hx hZ hown (Or.inr (wd_78 hw)) Via.refl e4 (P2.ext O0.2) (g := (mkF m 20 #[.val (.ref x1), .val (.ref x1)] [(.ref x1)])) rfl rfl (hb hby d12_20)
    refine Rch.go st5 ?_
    show Rch p e below _ (T5.setTop (mkF m 23 #[.val (.ref x1), .val (.ref x1)] [(.int (0 : Int32))]))
    refine Rch.go (fun t k => XS.ifNo X5.here hx rfl (hb hby d12_23) rfl (by decide) k) ?_
    show Rch p e below _ (T5.setTop (mkF m 26 #[.val (.ref x1), .val (.ref x1)] []))
    refine Rch.go (fun t k => XS.aloadN X5.here hx rfl (hb hby d12_26) rfl rfl k) ?_
    show Rch p e below _ (T5.setTop (mkF m 27 #[.val (.ref x1), .val (.ref x1)] [(.ref x1)]))
    obtain ⟨T6, X6, e6, st6⟩ := castY X5 hx hZ hown (wd_80 hw) e5 (Ins.of_exa (P1.ext O0.2) (wd_81 hw)) (g := (mkF m 27 #[.val (.ref x1), .val (.ref x1)] [(.ref x1)])) rfl rfl (hb hby d12_27)
    refine Rch.go st6 ?_
    show Rch p e below _ (T6.setTop (mkF m 30 #[.val (.ref x1), .val (.ref x1)] [(.ref x1)]))
    refine Rch.val X6 hx (t := (.object "java/util/List")) hret hlk rfl (Or.inr (Or.inr (Or.inr (Or.inr ⟨rfl, rfl, rfl⟩)))) (hb hby d12_30) (by decide) (by decide) ?_
    try rw [e6]
    exact ⟨rfl, N0, rfl⟩
theorem wd_69 {Z : State} {a0 : Array Value} (hw : ∀ d ∈ tables_1, d.before a0 Z = true) : (Jvm.Cond.code ({ cls := "java/util/ImmutableCollections", name := "listCopy", desc := "(Ljava/util/Collection;)Ljava/util/List;" } : Jvm.MethodName) jdk_56_method_3_code (2 : Nat) (Option.some (Jvm.ClassFile.FieldType.object "java/util/List"))).before a0 Z = true := hw _ (List.mem_of_getElem? (i := 69) rfl)
theorem wd_42 {Z : State} {a0 : Array Value} (hw : ∀ d ∈ tables_1, d.before a0 Z = true) : (Jvm.Cond.initialized "java/util/ImmutableCollections").before a0 Z = true := hw _ (List.mem_of_getElem? (i := 42) rfl)
theorem pd_9 : parseMethodDescriptor "(Ljava/util/Collection;)Ljava/util/List;" = some ⟨[(.object "java/util/Collection")], some (.object "java/util/List")⟩ := by decide +kernel
theorem wd_68 {Z : State} {a0 : Array Value} (hw : ∀ d ∈ tables_1, d.before a0 Z = true) : (Jvm.Cond.static ({ cls := "java/util/ImmutableCollections", name := "listCopy", desc := "(Ljava/util/Collection;)Ljava/util/List;" } : Jvm.MethodName)).before a0 Z = true := hw _ (List.mem_of_getElem? (i := 68) rfl)
theorem d11_4 : decode jdk_40_method_48_code 4 = .ok (.areturn, 1) := by decide +kernel
set_option maxRecDepth 65536 in
set_option maxHeartbeats 4000000 in
theorem ef_m12_copyOf (m : MethodId) (x1 : Addr) : entryFrame m #[(.ref x1)] 1 = mkF m 0 #[.val (.ref x1)] [] := by first | rfl | (simp [entryFrame, mkF, argsToLocals, Value.category]; done)
set_option maxRecDepth 65536 in
set_option maxHeartbeats 40000000 in
theorem m12_copyOf (l : Launch) (Z : State) (a0 : Array Value) (hw : ∀ d ∈ tables_1, d.before a0 Z = true) (x1 : Addr) (h0 : Heap) (n0 : Nat) (Z0 : n0 ≤ h0.size) (O0 : Old Z n0 h0) (P1 : Exa Z Z.heap x1 "java/util/ImmutableCollections$ListN") (P2 : Fld Z Z.heap x1 "java/util/ImmutableCollections$ListN" "allowNulls" "Z" (.int (0 : Int32))) :
    Ctr l Z [] (⟨"java/util/List", "copyOf", "(Ljava/util/Collection;)Ljava/util/List;"⟩ : MethodName) jdk_40_method_48_code 1 (some (.object "java/util/List")) #[(.ref x1)] h0 ({ frames := 1, cells := 0, slots := 0, locals := 13 } : Room) (fun v h L => v = some (.ref x1) ∧ Fr n0 L ∧ h = h0) := by
  refine Ctr.of (plainFor_of_name pn_java_util_List) (fun m => ef_m12_copyOf m x1) ?_
  intro p e s m below meth c T0 hx hZ hby hml hown hnm hret hlk X0 e0
  have N0 := Fr.nil n0
  show Rch p e below _ (T0.setTop (mkF m 0 #[.val (.ref x1)] []))
  refine Rch.go (fun t k => XS.aloadN X0.here hx rfl (hb hby d11_0) rfl rfl k) ?_
  show Rch p e below _ (T0.setTop (mkF m 1 #[.val (.ref x1)] [(.ref x1)]))
  obtain ⟨v1, T1, L1, X1, Q1, st1⟩ := callSt X0 hx hZ (m13_listCopy l Z a0 hw x1 h0 n0 Z0 O0 P1 P2) e0 hown (wd_67 hw) (wd_68 hw) (wd_69 hw) (wd_42 hw) (by decide) (hb hby d11_1) 0 (by decide) (by decide) (by decide) (by decide) (by rw [hml]; rfl) [(.ref x1)] [] rfl (lenOf pd_9 rfl) rfl (Nat.le_of_eq rfl) (Ls := #[.val (.ref x1)])
  obtain ⟨rfl, M1, e1⟩ := Q1
  have N1 := Fr.app N0 M1
  refine Rch.go st1 ?_
  show Rch p e below _ (T1.setTop (mkF m 4 #[.val (.ref x1)] [(.ref x1)]))
  refine Rch.val X1 hx (t := (.object "java/util/List")) hret hlk rfl (Or.inr (Or.inr (Or.inr (Or.inr ⟨rfl, rfl, rfl⟩)))) (hb hby d11_4) (by decide) (by decide) ?_
  try rw [e1]
  exact ⟨rfl, N1, rfl⟩
theorem wd_66 {Z : State} {a0 : Array Value} (hw : ∀ d ∈ tables_1, d.before a0 Z = true) : (Jvm.Cond.code ({ cls := "java/util/List", name := "copyOf", desc := "(Ljava/util/Collection;)Ljava/util/List;" } : Jvm.MethodName) jdk_40_method_48_code (1 : Nat) (Option.some (Jvm.ClassFile.FieldType.object "java/util/List"))).before a0 Z = true := hw _ (List.mem_of_getElem? (i := 66) rfl)
theorem wd_65 {Z : State} {a0 : Array Value} (hw : ∀ d ∈ tables_1, d.before a0 Z = true) : (Jvm.Cond.static ({ cls := "java/util/List", name := "copyOf", desc := "(Ljava/util/Collection;)Ljava/util/List;" } : Jvm.MethodName)).before a0 Z = true := hw _ (List.mem_of_getElem? (i := 65) rfl)
theorem d7_32 : decode prog_9_method_1_code 32 = .ok (.astore_n 2, 1) := by decide +kernel
theorem d7_33 : decode prog_9_method_1_code 33 = .ok (.aload_n 0, 1) := by decide +kernel
theorem d7_34 : decode prog_9_method_1_code 34 = .ok (.aload_n 1, 1) := by decide +kernel
theorem d7_35 : decode prog_9_method_1_code 35 = .ok (.putfield 34, 3) := by decide +kernel
theorem wd_82 {Z : State} {a0 : Array Value} (hw : ∀ d ∈ tables_1, d.before a0 Z = true) : (Jvm.Cond.fieldLink "com/example/harpocrates/harpocrates/data/Taxonomy" (34 : Nat) "com/example/harpocrates/harpocrates/data/Taxonomy" "value" "Ljava/lang/String;").before a0 Z = true := hw _ (List.mem_of_getElem? (i := 82) rfl)
theorem d7_38 : decode prog_9_method_1_code 38 = .ok (.aload_n 0, 1) := by decide +kernel
theorem d7_39 : decode prog_9_method_1_code 39 = .ok (.aload_n 2, 1) := by decide +kernel
theorem d7_40 : decode prog_9_method_1_code 40 = .ok (.putfield 39, 3) := by decide +kernel
theorem wd_84 {Z : State} {a0 : Array Value} (hw : ∀ d ∈ tables_1, d.before a0 Z = true) : (Jvm.Cond.fieldLink "com/example/harpocrates/harpocrates/data/Taxonomy" (39 : Nat) "com/example/harpocrates/harpocrates/data/Taxonomy" "children" "Ljava/util/List;").before a0 Z = true := hw _ (List.mem_of_getElem? (i := 84) rfl)
theorem d7_43 : decode prog_9_method_1_code 43 = .ok (.return_, 1) := by decide +kernel
theorem pn_com_example_harpocrates_harpocrates_data_Taxonomy : plainName "com/example/harpocrates/harpocrates/data/Taxonomy" = true := by first | (simp [plainName, overriddenIn]; done) | decide +kernel
set_option maxRecDepth 65536 in
set_option maxHeartbeats 4000000 in
theorem ef_m8_init (m : MethodId) (x1 : Addr) (x2 : Addr) (x3 : Addr) (x4 : Addr) (kk5 : ClassId) (y6 : Int32) : entryFrame m #[(.ref x1), (.ref x2), (.ref x3)] 3 = mkF m 0 #[.val (.ref x1), .val (.ref x2), .val (.ref x3)] [] := by first | rfl | (simp [entryFrame, mkF, argsToLocals, Value.category]; done)
set_option maxRecDepth 65536 in
set_option maxHeartbeats 40000000 in
theorem m8_init (l : Launch) (Z : State) (a0 : Array Value) (hw : ∀ d ∈ tables_1, d.before a0 Z = true) (x1 : Addr) (x2 : Addr) (x3 : Addr) (x4 : Addr) (kk5 : ClassId) (y6 : Int32) (h0 : Heap) (n0 : Nat) (Z0 : n0 ≤ h0.size) (O0 : Old Z n0 h0) (P1 : Exa Z h0 x2 "java/lang/String") (P2 : Fld Z h0 x2 "java/lang/String" "value" "[B" (.ref x4)) (P3 : Arv Z h0 x4 kk5 .byte (1 : Int32) [(.int y6)] (.int (0 : Int32))) (P4 : Exa Z Z.heap x3 "java/util/ImmutableCollections$ListN") (P5 : Fld Z Z.heap x3 "java/util/ImmutableCollections$ListN" "allowNulls" "Z" (.int (0 : Int32))) (P6 : Exa Z h0 x1 "com/example/harpocrates/harpocrates/data/Taxonomy") (P7 : Fld Z h0 x1 "com/example/harpocrates/harpocrates/data/Taxonomy" "value" "Ljava/lang/String;" .null) (P8 : n0 ≤ x1) (P9 : Fld Z h0 x1 "com/example/harpocrates/harpocrates/data/Taxonomy" "children" "Ljava/util/List;" .null) :
    CtrW l Z [] (⟨"com/example/harpocrates/harpocrates/data/Taxonomy", "<init>", "(Ljava/lang/String;Ljava/util/List;)V"⟩ : MethodName) prog_9_method_1_code 3 none #[(.ref x1), (.ref x2), (.ref x3)] h0 ({ frames := 2, cells := 2, slots := 24, locals := 25 } : Room) (fun v h L => v = none ∧ Fr n0 L ∧ Keep h0 h [x1] ∧ Fld Z h x1 "com/example/harpocrates/harpocrates/data/Taxonomy" "value" "Ljava/lang/String;" (.ref x2) ∧ Fld Z h x1 "com/example/harpocrates/harpocrates/data/Taxonomy" "children" "Ljava/util/List;" (.ref x3)) := by
  refine CtrW.of (plainFor_of_name pn_com_example_harpocrates_harpocrates_data_Taxonomy) (fun m => ef_m8_init m x1 x2 x3 x4 kk5 y6) ?_
  intro p e s vm0 m below meth c T0 hx hZ hby hml hown hnm hret hlk Y0 X0 e0
  have N0 := Fr.nil n0
  show Rch p e below _ (T0.setTop (mkF m 0 #[.val (.ref x1), .val (.ref x2), .val (.ref x3)] []))
  refine Rch.go (fun t k => XS.aloadN X0.here hx rfl (hb hby d7_0) rfl rfl k) ?_
  show Rch p e below _ (T0.setTop (mkF m 1 #[.val (.ref x1), .val (.ref x2), .val (.ref x3)] [(.ref x1)]))
  obtain ⟨v1, T1, L1, X1, Q1, st1⟩ := callSp X0 hx hZ (m9_init l Z a0 hw x1 h0 n0 Z0 O0 ) e0 hown rfl (wd_46 hw) (wd_47 hw) (wd_50 hw) (wd_49 hw) (by decide) (hb hby d7_1) 0 (by decide) (by decide) (by decide) (by decide) (by rw [hml]; rfl) x1 [] [] rfl (lenOf pd_6 rfl) rfl (Nat.le_of_eq rfl) (Ls := #[.val (.ref x1), .val (.ref x2), .val (.ref x3)])
  obtain ⟨rfl, M1, e1⟩ := Q1
  have N1 := Fr.app N0 M1
  refine Rch.go st1 ?_
  show Rch p e below _ (T1.setTop (mkF m 4 #[.val (.ref x1), .val (.ref x2), .val (.ref x3)] []))
  refine Rch.go (fun t k => XS.aloadN X1.here hx rfl (hb hby d7_4) rfl rfl k) ?_
  show Rch p e below _ (T1.setTop (mkF m 5 #[.val (.ref x1), .val (.ref x2), .val (.ref x3)] [(.ref x2)]))
  obtain ⟨b2, T2, h2, k2, X2, e2, E2, Y2, yk2, hZ2, hown2, st2⟩ := ldcS X1 hx hZ hown (wd_52 hw) (strW hw) e1 Y0 (Nat.le_refl _) (g := (mkF m 5 #[.val (.ref x1), .val (.ref x2), .val (.ref x3)] [(.ref x2)])) rfl (hb hby d7_5) (n := 20) (by decide) (by decide) (by decide) (by decide)
  refine Rch.go st2 ?_
  have z3 : n0 ≤ h2.size := (Nat.le_trans Z0 E2.1)
  have o4 := O0.ext E2
  show Rch p e below _ (T2.setTop (mkF m 7 #[.val (.ref x1), .val (.ref x2), .val (.ref x3)] [(.ref b2), (.ref x2)]))
  obtain ⟨v5, T5, L5, X5, Q5, st5⟩ := callSt X2 hx hZ2 (m10_requireNonNull l Z a0 hw x2 b2 h2 n0 z3 o4 ) e2 hown2 (wd_55 hw) (wd_56 hw) (wd_58 hw) (wd_57 hw) (by decide) (hb hby d7_7) 0 (by decide) (by decide) (by decide) (by decide) (by rw [hml]; rfl) [(.ref x2), (.ref b2)] [] rfl (lenOf pd_7 rfl) rfl (Nat.le_of_eq rfl) (Ls := #[.val (.ref x1), .val (.ref x2), .val (.ref x3)])
  obtain ⟨rfl, M5, e5⟩ := Q5
  have N5 := Fr.app N1 M5
  refine Rch.go st5 ?_
  show Rch p e below _ (T5.setTop (mkF m 10 #[.val (.ref x1), .val (.ref x2), .val (.ref x3)] [(.ref x2)]))
  refine Rch.go (fun t k => XS.pop X5.here hx rfl (hb hby d7_10) rfl rfl k) ?_
  show Rch p e below _ (T5.setTop (mkF m 11 #[.val (.ref x1), .val (.ref x2), .val (.ref x3)] []))
  refine Rch.go (fun t k => XS.aloadN X5.here hx rfl (hb hby d7_11) rfl rfl k) ?_
  show Rch p e below _ (T5.setTop (mkF m 12 #[.val (.ref x1), .val (.ref x2), .val (.ref x3)] [(.ref x2)]))
  have f6 := (P2.ext E2)
  have f7 := (P3.ext E2)
  have f9 := (P1.ext E2)
  obtain ⟨v8, T8, L8, X8, Q8, st8⟩ := callVi X5 hx hZ2 (m11_isEmpty l Z a0 hw x2 x4 kk5 y6 h2 n0 z3 o4 f6 f7) e5 hown2 (wd_59 hw) (wd_60 hw) (wd_62 hw) (notFace_of_selects (args := #[]) (mvT hZ2 (wd_62 hw))) (wd_61 hw) (wd_63 hw) (wd_3 hw) (by decide) (hb hby d7_12) 0 (by decide) (by decide) (by decide) (by decide) (by rw [hml]; rfl) x2 f9 [] [] rfl (lenOf pd_8 rfl) rfl (Nat.le_of_eq rfl) (Ls := #[.val (.ref x1), .val (.ref x2), .val (.ref x3)])
  obtain ⟨rfl, M8, e8⟩ := Q8
  have N8 := Fr.app N5 M8
  refine Rch.go st8 ?_
  show Rch p e below _ (T8.setTop (mkF m 15 #[.val (.ref x1), .val (.ref x2), .val (.ref x3)] [(.int (0 : Int32))]))
  refine Rch.go (fun t k => XS.ifYes X8.here hx rfl (pc0 := 15) (pc' := 28) rfl (hb hby d7_15) rfl (by decide) (by decide) (by decide) k) ?_
  show Rch p e below _ (T8.setTop (mkF m 28 #[.val (.ref x1), .val (.ref x2), .val (.ref x3)] []))
  refine Rch.go (fun t k => XS.aloadN X8.here hx rfl (hb hby d7_28) rfl rfl k) ?_
  show Rch p e below _ (T8.setTop (mkF m 29 #[.val (.ref x1), .val (.ref x2), .val (.ref x3)] [(.ref x3)]))
  obtain ⟨v10, T10, L10, X10, Q10, st10⟩ := callSt X8 hx hZ2 (m12_copyOf l Z a0 hw x3 h2 n0 z3 o4 P4 P5) e8 hown2 (wd_64 hw) (wd_65 hw) (wd_66 hw) (wd_39 hw) (by decide) (hb hby d7_29) 0 (by decide) (by decide) (by decide) (by decide) (by rw [hml]; rfl) [(.ref x3)] [] rfl (lenOf pd_9 rfl) rfl (Nat.le_of_eq rfl) (Ls := #[.val (.ref x1), .val (.ref x2), .val (.ref x3)])
  obtain ⟨rfl, M10, e10⟩ := Q10
  have N10 := Fr.app N8 M10
  refine Rch.go st10 ?_
  show Rch p e below _ (T10.setTop (mkF m 32 #[.val (.ref x1), .val (.ref x2), .val (.ref x3)] [(.ref x3)]))
  refine Rch.go (fun t k => XS.astoreN X10.here hx rfl (hb hby d7_32) rfl rfl (l' := #[.val (.ref x1), .val (.ref x2), .val (.ref x3)]) rfl k) ?_
  show Rch p e below _ (T10.setTop (mkF m 33 #[.val (.ref x1), .val (.ref x2), .val (.ref x3)] []))
  refine Rch.go (fun t k => XS.aloadN X10.here hx rfl (hb hby d7_33) rfl rfl k) ?_
  show Rch p e below _ (T10.setTop (mkF m 34 #[.val (.ref x1), .val (.ref x2), .val (.ref x3)] [(.ref x1)]))
  refine Rch.go (fun t k => XS.aloadN X10.here hx rfl (hb hby d7_34) rfl rfl k) ?_
  show Rch p e below _ (T10.setTop (mkF m 35 #[.val (.ref x1), .val (.ref x2), .val (.ref x3)] [(.ref x2), (.ref x1)]))
  have f12 := (P7.ext E2)
  have f13 := (P6.ext E2)
  obtain ⟨T11, h11, X11, e11, W11, st11⟩ := putF X10 hx hZ2 hown2 (host := "") (Or.inl (wd_82 hw)) Via.refl e10 f12 f13 (Or.inr ⟨(wd_83 hw), rfl, hnm⟩) (wd_36 hw) (ty := (.object "java/lang/String")) (by decide) rfl rfl (g := (mkF m 35 #[.val (.ref x1), .val (.ref x2), .val (.ref x3)] [(.ref x2), (.ref x1)])) rfl rfl (hb hby d7_35)
  refine Rch.go st11 ?_
  have z14 : n0 ≤ h11.size := (Nat.le_trans z3 (Nat.le_of_eq W11.size.symm))
  have o15 := o4.wr W11 P8
  have F11 := f12.same W11
  have N11 := Fr.snoc X11 N10 P8
  show Rch p e below _ (T11.setTop (mkF m 38 #[.val (.ref x1), .val (.ref x2), .val (.ref x3)] []))
  refine Rch.go (fun t k => XS.aloadN X11.here hx rfl (hb hby d7_38) rfl rfl k) ?_
  show Rch p e below _ (T11.setTop (mkF m 39 #[.val (.ref x1), .val (.ref x2), .val (.ref x3)] [(.ref x1)]))
  refine Rch.go (fun t k => XS.aloadN X11.here hx rfl (hb hby d7_39) rfl rfl k) ?_
  show Rch p e below _ (T11.setTop (mkF m 40 #[.val (.ref x1), .val (.ref x2), .val (.ref x3)] [(.ref x3), (.ref x1)]))
  have f17 := ((P9.ext E2).other W11 (Or.inr (slot_ne (Or.inr (wd_85 hw)) (Or.inr (wd_83 hw)) (by decide) (t := (.object "java/util/List")) (t' := (.object "java/lang/String")) (by decide) (by decide))))
  have f18 := (f13.wr W11)
  obtain ⟨T16, h16, X16, e16, W16, st16⟩ := putF X11 hx hZ2 hown2 (host := "") (Or.inl (wd_84 hw)) Via.refl e11 f17 f18 (Or.inr ⟨(wd_85 hw), rfl, hnm⟩) (wd_36 hw) (ty := (.object "java/util/List")) (by decide) rfl rfl (g := (mkF m 40 #[.val (.ref x1), .val (.ref x2), .val (.ref x3)] [(.ref x3), (.ref x1)])) rfl rfl (hb hby d7_40)
  refine Rch.go st16 ?_
  have z19 : n0 ≤ h16.size := (Nat.le_trans z14 (Nat.le_of_eq W16.size.symm))
  have o20 := o15.wr W16 P8
  have F16 := f17.same W16
  have N16 := Fr.snoc X16 N11 P8
  show Rch p e below _ (T16.setTop (mkF m 43 #[.val (.ref x1), .val (.ref x2), .val (.ref x3)] []))
  have f21 := (F11.other W16 (Or.inr (slot_ne (Or.inr (wd_83 hw)) (Or.inr (wd_85 hw)) (by decide) (t := (.object "java/lang/String")) (t' := (.object "java/util/List")) (by decide) (by decide))))
  refine Rch.voidW X16 hx Y2 e16 (Nat.le_trans (Nat.le_trans yk2 (Nat.le_of_eq W11.size.symm)) (Nat.le_of_eq W16.size.symm)) hret hlk (hb hby d7_43) (by decide) (by decide) ?_
  exact ⟨rfl, N16, ((((Keep.refl _ _).ext E2).wr W11 (Or.inl (List.mem_of_getElem? (i := 0) rfl))).wr W16 (Or.inl (List.mem_of_getElem? (i := 0) rfl))), f21, F16⟩
theorem wd_45 {Z : State} {a0 : Array Value} (hw : ∀ d ∈ tables_1, d.before a0 Z = true) : (Jvm.Cond.code ({ cls := "com/example/harpocrates/harpocrates/data/Taxonomy", name := "<init>", desc := "(Ljava/lang/String;Ljava/util/List;)V" } : Jvm.MethodName) prog_9_method_1_code (3 : Nat) (Option.none : Option Jvm.ClassFile.FieldType)).before a0 Z = true := hw _ (List.mem_of_getElem? (i := 45) rfl)
theorem pd_10 : parseMethodDescriptor "(Ljava/lang/String;Ljava/util/List;)V" = some ⟨[(.object "java/lang/String"), (.object "java/util/List")], none⟩ := by decide +kernel
theorem wd_44 {Z : State} {a0 : Array Value} (hw : ∀ d ∈ tables_1, d.before a0 Z = true) : (Jvm.Cond.instanceMethod ({ cls := "com/example/harpocrates/harpocrates/data/Taxonomy", name := "<init>", desc := "(Ljava/lang/String;Ljava/util/List;)V" } : Jvm.MethodName)).before a0 Z = true := hw _ (List.mem_of_getElem? (i := 44) rfl)
theorem d5_11 : decode prog_9_method_2_code 11 = .ok (.areturn, 1) := by decide +kernel
set_option maxRecDepth 65536 in
set_option maxHeartbeats 4000000 in
theorem ef_m6_leaf (m : MethodId) (x1 : Addr) (x2 : Addr) (x3 : Addr) (kk4 : ClassId) (y5 : Int32) : entryFrame m #[(.ref x1)] 1 = mkF m 0 #[.val (.ref x1)] [] := by first | rfl | (simp [entryFrame, mkF, argsToLocals, Value.category]; done)
set_option maxRecDepth 65536 in
set_option maxHeartbeats 40000000 in
theorem m6_leaf (l : Launch) (Z : State) (a0 : Array Value) (hw : ∀ d ∈ tables_1, d.before a0 Z = true) (x1 : Addr) (x2 : Addr) (x3 : Addr) (kk4 : ClassId) (y5 : Int32) (h0 : Heap) (n0 : Nat) (Z0 : n0 ≤ h0.size) (O0 : Old Z n0 h0) (P1 : Sta Z Z.heap "java/util/ImmutableCollections" "EMPTY_LIST" "Ljava/util/ImmutableCollections$ListN;" (.ref x2)) (P2 : Exa Z h0 x1 "java/lang/String") (P3 : Fld Z h0 x1 "java/lang/String" "value" "[B" (.ref x3)) (P4 : Arv Z h0 x3 kk4 .byte (1 : Int32) [(.int y5)] (.int (0 : Int32))) (P5 : Exa Z Z.heap x2 "java/util/ImmutableCollections$ListN") (P6 : Fld Z Z.heap x2 "java/util/ImmutableCollections$ListN" "allowNulls" "Z" (.int (0 : Int32))) :
    CtrW l Z [] (⟨"com/example/harpocrates/harpocrates/data/Taxonomy", "leaf", "(Ljava/lang/String;)Lcom/example/harpocrates/harpocrates/data/Taxonomy;"⟩ : MethodName) prog_9_method_2_code 1 (some (.object "com/example/harpocrates/harpocrates/data/Taxonomy")) #[(.ref x1)] h0 ({ frames := 3, cells := 3, slots := 26, locals := 40 } : Room) (fun v h L => ∃ (b1 : Addr), v = some (.ref b1) ∧ Fr n0 L ∧ Keep h0 h [] ∧ h0.size ≤ b1 ∧ Exa Z h b1 "com/example/harpocrates/harpocrates/data/Taxonomy" ∧ Fld Z h b1 "com/example/harpocrates/harpocrates/data/Taxonomy" "value" "Ljava/lang/String;" (.ref x1) ∧ Fld Z h b1 "com/example/harpocrates/harpocrates/data/Taxonomy" "children" "Ljava/util/List;" (.ref x2)) := by
  refine CtrW.of (plainFor_of_name pn_com_example_harpocrates_harpocrates_data_Taxonomy) (fun m => ef_m6_leaf m x1 x2 x3 kk4 y5) ?_
  intro p e s vm0 m below meth c T0 hx hZ hby hml hown hnm hret hlk Y0 X0 e0
  have N0 := Fr.nil n0
  show Rch p e below _ (T0.setTop (mkF m 0 #[.val (.ref x1)] []))
  obtain ⟨T1, h1, X1, e1, E1, A1, D1, -, st1⟩ := newO X0 hx hZ hown (wd_35 hw) (wd_36 hw) (wd_33 hw) e0 (g := (mkF m 0 #[.val (.ref x1)] [])) rfl (hb hby d5_0) (by decide) (by decide)
  obtain ⟨b1, g1⟩ : ∃ z, z = h0.size := ⟨_, rfl⟩
  rw [← g1] at A1 D1 st1
  refine Rch.go st1 ?_
  have z2 : n0 ≤ h1.size := (Nat.le_trans Z0 E1.1)
  have o3 := O0.ext E1
  have g_b1 : n0 ≤ b1 := Nat.le_trans Z0 (Nat.le_of_eq g1.symm)
  have F1_value : Fld Z h1 b1 "com/example/harpocrates/harpocrates/data/Taxonomy" "value" "Ljava/lang/String;" .null := (D1 (Or.inr (wd_83 hw)) (ty := (.object "java/lang/String")) (by decide))
  have F1_children : Fld Z h1 b1 "com/example/harpocrates/harpocrates/data/Taxonomy" "children" "Ljava/util/List;" .null := (D1 (Or.inr (wd_85 hw)) (ty := (.object "java/util/List")) (by decide))
  show Rch p e below _ (T1.setTop (mkF m 3 #[.val (.ref x1)] [(.ref b1)]))
  refine Rch.go (fun t k => XS.dup X1.here hx rfl (hb hby d5_3) rfl rfl k) ?_
  show Rch p e below _ (T1.setTop (mkF m 4 #[.val (.ref x1)] [(.ref b1), (.ref b1)]))
  refine Rch.go (fun t k => XS.aloadN X1.here hx rfl (hb hby d5_4) rfl rfl k) ?_
  show Rch p e below _ (T1.setTop (mkF m 5 #[.val (.ref x1)] [(.ref x1), (.ref b1), (.ref b1)]))
  obtain ⟨v4, T4, L4, X4, Q4, st4⟩ := callSt X1 hx hZ (m7_of l Z a0 hw x2 h1 n0 z2 o3 P1) e1 hown (wd_37 hw) (wd_38 hw) (wd_40 hw) (wd_39 hw) (by decide) (hb hby d5_5) 3 (by decide) (by decide) (by decide) (by decide) (by rw [hml]; rfl) [] [(.ref x1), (.ref b1), (.ref b1)] rfl (lenOf pd_5 rfl) rfl (Nat.le_of_eq rfl) (Ls := #[.val (.ref x1)])
  obtain ⟨rfl, M4, e4⟩ := Q4
  have N4 := Fr.app N0 M4
  refine Rch.go st4 ?_
  show Rch p e below _ (T4.setTop (mkF m 8 #[.val (.ref x1)] [(.ref x2), (.ref x1), (.ref b1), (.ref b1)]))
  have f5 := (P2.ext E1)
  have f6 := (P3.ext E1)
  have f7 := (P4.ext E1)
  obtain ⟨v8, T8, L8, X8, Q8, Y8, hZ8, hown8, st8⟩ := callSpW X4 hx hZ Y0 (Nat.le_trans (Nat.le_refl _) E1.1) (m8_init l Z a0 hw b1 x1 x2 x3 kk4 y5 h1 n0 z2 o3 f5 f6 f7 P5 P6 A1 F1_value g_b1 F1_children) e4 hown rfl (wd_43 hw) (wd_44 hw) (wd_45 hw) (wd_33 hw) (by decide) (hb hby d5_8) 1 (by decide) (by decide) (by decide) (by decide) (by rw [hml]; rfl) b1 [(.ref x1), (.ref x2)] [(.ref b1)] rfl (lenOf pd_10 rfl) rfl (Nat.le_of_eq rfl) (Ls := #[.val (.ref x1)])
  obtain ⟨rfl, M8, K8, F8_0, F8_1⟩ := Q8
  have N8 := Fr.app N4 M8
  refine Rch.go st8 ?_
  have z9 : n0 ≤ T8.heap.size := (Nat.le_trans z2 K8.1)
  have o10 := o3.keep K8 (allS g_b1 all0)
  show Rch p e below _ (T8.setTop (mkF m 11 #[.val (.ref x1)] [(.ref b1)]))
  have f11 := (A1.keep K8)
  refine Rch.valW X8 hx Y8 rfl (Nat.le_refl _) (t := (.object "com/example/harpocrates/harpocrates/data/Taxonomy")) hret hlk rfl (Or.inr (Or.inr (Or.inr (Or.inr ⟨rfl, rfl, rfl⟩)))) (hb hby d5_11) (by decide) (by decide) ?_
  exact ⟨b1, rfl, N8, (((Keep.refl _ _).ext E1).trans K8 (allS (Or.inr (Nat.le_trans (Nat.le_refl _) (Nat.le_of_eq g1.symm))) all0)), (Nat.le_trans (Nat.le_refl _) (Nat.le_of_eq g1.symm)), f11, F8_0, F8_1⟩
theorem wd_34 {Z : State} {a0 : Array Value} (hw : ∀ d ∈ tables_1, d.before a0 Z = true) : (Jvm.Cond.code ({ cls := "com/example/harpocrates/harpocrates/data/Taxonomy", name := "leaf", desc := "(Ljava/lang/String;)Lcom/example/harpocrates/harpocrates/data/Taxonomy;" } : Jvm.MethodName) prog_9_method_2_code (1 : Nat) (Option.some (Jvm.ClassFile.FieldType.object "com/example/harpocrates/harpocrates/data/Taxonomy"))).before a0 Z = true := hw _ (List.mem_of_getElem? (i := 34) rfl)
theorem pd_11 : parseMethodDescriptor "(Ljava/lang/String;)Lcom/example/harpocrates/harpocrates/data/Taxonomy;" = some ⟨[(.object "java/lang/String")], some (.object "com/example/harpocrates/harpocrates/data/Taxonomy")⟩ := by decide +kernel
theorem wd_32 {Z : State} {a0 : Array Value} (hw : ∀ d ∈ tables_1, d.before a0 Z = true) : (Jvm.Cond.static ({ cls := "com/example/harpocrates/harpocrates/data/Taxonomy", name := "leaf", desc := "(Ljava/lang/String;)Lcom/example/harpocrates/harpocrates/data/Taxonomy;" } : Jvm.MethodName)).before a0 Z = true := hw _ (List.mem_of_getElem? (i := 32) rfl)
theorem wd_86 {Z : State} {a0 : Array Value} (hw : ∀ d ∈ tables_1, d.before a0 Z = true) : (Jvm.Cond.methodLink "com/example/harpocrates/harpocrates/data/TaxonomyLeafPinLaw" (19 : Nat) ({ cls := "com/example/harpocrates/harpocrates/data/Taxonomy", name := "leaves", desc := "()Ljava/util/List;" } : Jvm.MethodName)).before a0 Z = true := hw _ (List.mem_of_getElem? (i := 86) rfl)
theorem d13_0 : decode prog_9_method_4_code 0 = .ok (.new 51, 3) := by decide +kernel
theorem wd_91 {Z : State} {a0 : Array Value} (hw : ∀ d ∈ tables_1, d.before a0 Z = true) : (Jvm.Cond.classLink "com/example/harpocrates/harpocrates/data/Taxonomy" (51 : Nat) "java/util/ArrayList").before a0 Z = true := hw _ (List.mem_of_getElem? (i := 91) rfl)
theorem wd_92 {Z : State} {a0 : Array Value} (hw : ∀ d ∈ tables_1, d.before a0 Z = true) : (Jvm.Cond.instantiable "java/util/ArrayList" (3 : Nat)).before a0 Z = true := hw _ (List.mem_of_getElem? (i := 92) rfl)
theorem wd_111 {Z : State} {a0 : Array Value} (hw : ∀ d ∈ tables_1, d.before a0 Z = true) : (Jvm.Cond.lays "java/util/ArrayList" "java/util/AbstractList" "modCount" "I").before a0 Z = true := hw _ (List.mem_of_getElem? (i := 111) rfl)
theorem wd_114 {Z : State} {a0 : Array Value} (hw : ∀ d ∈ tables_1, d.before a0 Z = true) : (Jvm.Cond.lays "java/util/ArrayList" "java/util/ArrayList" "elementData" "[Ljava/lang/Object;").before a0 Z = true := hw _ (List.mem_of_getElem? (i := 114) rfl)
theorem wd_146 {Z : State} {a0 : Array Value} (hw : ∀ d ∈ tables_1, d.before a0 Z = true) : (Jvm.Cond.lays "java/util/ArrayList" "java/util/ArrayList" "size" "I").before a0 Z = true := hw _ (List.mem_of_getElem? (i := 146) rfl)
theorem d13_3 : decode prog_9_method_4_code 3 = .ok (.dup, 1) := by decide +kernel
theorem d13_4 : decode prog_9_method_4_code 4 = .ok (.invokespecial 53, 3) := by decide +kernel
theorem wd_94 {Z : State} {a0 : Array Value} (hw : ∀ d ∈ tables_1, d.before a0 Z = true) : (Jvm.Cond.methodLink "com/example/harpocrates/harpocrates/data/Taxonomy" (53 : Nat) ({ cls := "java/util/ArrayList", name := "<init>", desc := "()V" } : Jvm.MethodName)).before a0 Z = true := hw _ (List.mem_of_getElem? (i := 94) rfl)
theorem d14_0 : decode jdk_38_method_2_code 0 = .ok (.aload_n 0, 1) := by decide +kernel
theorem d14_1 : decode jdk_38_method_2_code 1 = .ok (.invokespecial 1, 3) := by decide +kernel
theorem wd_97 {Z : State} {a0 : Array Value} (hw : ∀ d ∈ tables_1, d.before a0 Z = true) : (Jvm.Cond.methodLink "java/util/ArrayList" (1 : Nat) ({ cls := "java/util/AbstractList", name := "<init>", desc := "()V" } : Jvm.MethodName)).before a0 Z = true := hw _ (List.mem_of_getElem? (i := 97) rfl)
theorem d15_0 : decode jdk_39_method_1_code 0 = .ok (.aload_n 0, 1) := by decide +kernel
theorem d15_1 : decode jdk_39_method_1_code 1 = .ok (.invokespecial 1, 3) := by decide +kernel
theorem wd_103 {Z : State} {a0 : Array Value} (hw : ∀ d ∈ tables_1, d.before a0 Z = true) : (Jvm.Cond.methodLink "java/util/AbstractList" (1 : Nat) ({ cls := "java/util/AbstractCollection", name := "<init>", desc := "()V" } : Jvm.MethodName)).before a0 Z = true := hw _ (List.mem_of_getElem? (i := 103) rfl)
theorem d16_0 : decode jdk_22_method_1_code 0 = .ok (.aload_n 0, 1) := by decide +kernel
theorem d16_1 : decode jdk_22_method_1_code 1 = .ok (.invokespecial 1, 3) := by decide +kernel
theorem wd_109 {Z : State} {a0 : Array Value} (hw : ∀ d ∈ tables_1, d.before a0 Z = true) : (Jvm.Cond.methodLink "java/util/AbstractCollection" (1 : Nat) ({ cls := "java/lang/Object", name := "<init>", desc := "()V" } : Jvm.MethodName)).before a0 Z = true := hw _ (List.mem_of_getElem? (i := 109) rfl)
theorem d16_4 : decode jdk_22_method_1_code 4 = .ok (.return_, 1) := by decide +kernel
theorem pn_java_util_AbstractCollection : plainName "java/util/AbstractCollection" = true := by first | (simp [plainName, overriddenIn]; done) | decide +kernel
set_option maxRecDepth 65536 in
set_option maxHeartbeats 4000000 in
theorem ef_m17_init (m : MethodId) (x1 : Addr) : entryFrame m #[(.ref x1)] 1 = mkF m 0 #[.val (.ref x1)] [] := by first | rfl | (simp [entryFrame, mkF, argsToLocals, Value.category]; done)
set_option maxRecDepth 65536 in
set_option maxHeartbeats 40000000 in
theorem m17_init (l : Launch) (Z : State) (a0 : Array Value) (hw : ∀ d ∈ tables_1, d.before a0 Z = true) (x1 : Addr) (h0 : Heap) (n0 : Nat) (Z0 : n0 ≤ h0.size) (O0 : Old Z n0 h0) :
    Ctr l Z [] (⟨"java/util/AbstractCollection", "<init>", "()V"⟩ : MethodName) jdk_22_method_1_code 1 none #[(.ref x1)] h0 ({ frames := 1, cells := 0, slots := 0, locals := 12 } : Room) (fun v h L => v = none ∧ Fr n0 L ∧ h = h0) := by
  refine Ctr.of (plainFor_of_name pn_java_util_AbstractCollection) (fun m => ef_m17_init m x1) ?_
  intro p e s m below meth c T0 hx hZ hby hml hown hnm hret hlk X0 e0
  have N0 := Fr.nil n0
  show Rch p e below _ (T0.setTop (mkF m 0 #[.val (.ref x1)] []))
  refine Rch.go (fun t k => XS.aloadN X0.here hx rfl (hb hby d16_0) rfl rfl k) ?_
  show Rch p e below _ (T0.setTop (mkF m 1 #[.val (.ref x1)] [(.ref x1)]))
  obtain ⟨T1, X1, e1, st1⟩ := initO X0 hx hZ hown (wd_109 hw) (wd_13 hw) (wd_14 hw) e0 (g := (mkF m 1 #[.val (.ref x1)] [(.ref x1)])) rfl (by rw [hml]; rfl) rfl (hb hby d16_1) (by decide) (W := 0) (by show 2 * 0 + _ ≤ _; exact Nat.le_of_eq rfl) (by decide)
  refine Rch.go st1 ?_
  show Rch p e below _ (T1.setTop (mkF m 4 #[.val (.ref x1)] []))
  refine Rch.void X1 hx hret hlk (hb hby d16_4) (by decide) (by decide) ?_
  try rw [e1]
  exact ⟨rfl, N0, rfl⟩
theorem wd_108 {Z : State} {a0 : Array Value} (hw : ∀ d ∈ tables_1, d.before a0 Z = true) : (Jvm.Cond.code ({ cls := "java/util/AbstractCollection", name := "<init>", desc := "()V" } : Jvm.MethodName) jdk_22_method_1_code (1 : Nat) (Option.none : Option Jvm.ClassFile.FieldType)).before a0 Z = true := hw _ (List.mem_of_getElem? (i := 108) rfl)
theorem wd_107 {Z : State} {a0 : Array Value} (hw : ∀ d ∈ tables_1, d.before a0 Z = true) : (Jvm.Cond.initialized "java/util/AbstractCollection").before a0 Z = true := hw _ (List.mem_of_getElem? (i := 107) rfl)
theorem wd_104 {Z : State} {a0 : Array Value} (hw : ∀ d ∈ tables_1, d.before a0 Z = true) : (Jvm.Cond.instanceMethod ({ cls := "java/util/AbstractCollection", name := "<init>", desc := "()V" } : Jvm.MethodName)).before a0 Z = true := hw _ (List.mem_of_getElem? (i := 104) rfl)
theorem d15_4 : decode jdk_39_method_1_code 4 = .ok (.aload_n 0, 1) := by decide +kernel
theorem d15_5 : decode jdk_39_method_1_code 5 = .ok (.iconst 0, 1) := by decide +kernel
theorem d15_6 : decode jdk_39_method_1_code 6 = .ok (.putfield 7, 3) := by decide +kernel
theorem wd_110 {Z : State} {a0 : Array Value} (hw : ∀ d ∈ tables_1, d.before a0 Z = true) : (Jvm.Cond.fieldLink "java/util/AbstractList" (7 : Nat) "java/util/AbstractList" "modCount" "I").before a0 Z = true := hw _ (List.mem_of_getElem? (i := 110) rfl)
theorem d15_9 : decode jdk_39_method_1_code 9 = .ok (.return_, 1) := by decide +kernel
theorem pn_java_util_AbstractList : plainName "java/util/AbstractList" = true := by first | (simp [plainName, overriddenIn]; done) | decide +kernel
set_option maxRecDepth 65536 in
set_option maxHeartbeats 4000000 in
theorem ef_m16_init (m : MethodId) (x1 : Addr) : entryFrame m #[(.ref x1)] 1 = mkF m 0 #[.val (.ref x1)] [] := by first | rfl | (simp [entryFrame, mkF, argsToLocals, Value.category]; done)
set_option maxRecDepth 65536 in
set_option maxHeartbeats 40000000 in
theorem m16_init (l : Launch) (Z : State) (a0 : Array Value) (hw : ∀ d ∈ tables_1, d.before a0 Z = true) (x1 : Addr) (h0 : Heap) (n0 : Nat) (Z0 : n0 ≤ h0.size) (O0 : Old Z n0 h0) (P1 : Exa Z h0 x1 "java/util/ArrayList") (P2 : Fld Z h0 x1 "java/util/AbstractList" "modCount" "I" (.int (0 : Int32))) (P3 : n0 ≤ x1) (P4 : Fld Z h0 x1 "java/util/ArrayList" "elementData" "[Ljava/lang/Object;" .null) (P5 : Fld Z h0 x1 "java/util/ArrayList" "size" "I" (.int (0 : Int32))) :
    Ctr l Z [] (⟨"java/util/AbstractList", "<init>", "()V"⟩ : MethodName) jdk_39_method_1_code 1 none #[(.ref x1)] h0 ({ frames := 2, cells := 0, slots := 0, locals := 24 } : Room) (fun v h L => v = none ∧ Fr n0 L ∧ Keep h0 h [x1] ∧ Fld Z h x1 "java/util/AbstractList" "modCount" "I" (.int (0 : Int32)) ∧ Fld Z h x1 "java/util/ArrayList" "elementData" "[Ljava/lang/Object;" .null ∧ Fld Z h x1 "java/util/ArrayList" "size" "I" (.int (0 : Int32))) := by
  refine Ctr.of (plainFor_of_name pn_java_util_AbstractList) (fun m => ef_m16_init m x1) ?_
  intro p e s m below meth c T0 hx hZ hby hml hown hnm hret hlk X0 e0
  have N0 := Fr.nil n0
  show Rch p e below _ (T0.setTop (mkF m 0 #[.val (.ref x1)] []))
  refine Rch.go (fun t k => XS.aloadN X0.here hx rfl (hb hby d15_0) rfl rfl k) ?_
  show Rch p e below _ (T0.setTop (mkF m 1 #[.val (.ref x1)] [(.ref x1)]))
  obtain ⟨v1, T1, L1, X1, Q1, st1⟩ := callSp X0 hx hZ (m17_init l Z a0 hw x1 h0 n0 Z0 O0 ) e0 hown rfl (wd_103 hw) (wd_104 hw) (wd_108 hw) (wd_107 hw) (by decide) (hb hby d15_1) 0 (by decide) (by decide) (by decide) (by decide) (by rw [hml]; rfl) x1 [] [] rfl (lenOf pd_6 rfl) rfl (Nat.le_of_eq rfl) (Ls := #[.val (.ref x1)])
  obtain ⟨rfl, M1, e1⟩ := Q1
  have N1 := Fr.app N0 M1
  refine Rch.go st1 ?_
  show Rch p e below _ (T1.setTop (mkF m 4 #[.val (.ref x1)] []))
  refine Rch.go (fun t k => XS.aloadN X1.here hx rfl (hb hby d15_4) rfl rfl k) ?_
  show Rch p e below _ (T1.setTop (mkF m 5 #[.val (.ref x1)] [(.ref x1)]))
  refine Rch.go (fun t k => XS.iconst X1.here hx rfl (hb hby d15_5) k) ?_
  show Rch p e below _ (T1.setTop (mkF m 6 #[.val (.ref x1)] [(.int (0 : Int32)), (.ref x1)]))
  obtain ⟨T2, h2, X2, e2, W2, st2⟩ := putF X1 hx hZ hown (host := "") (Or.inl (wd_110 hw)) Via.refl e1 P2 P1 (Or.inl (wd_111 hw)) (wd_92 hw) (ty := .int) (by decide) rfl rfl (g := (mkF m 6 #[.val (.ref x1)] [(.int (0 : Int32)), (.ref x1)])) rfl rfl (hb hby d15_6)
  refine Rch.go st2 ?_
  have z3 : n0 ≤ h2.size := (Nat.le_trans Z0 (Nat.le_of_eq W2.size.symm))
  have o4 := O0.wr W2 P3
  have F2 := P2.same W2
  have N2 := Fr.snoc X2 N1 P3
  show Rch p e below _ (T2.setTop (mkF m 9 #[.val (.ref x1)] []))
  have f5 := (P4.other W2 (Or.inr (slot_ne (Or.inl (wd_114 hw)) (Or.inl (wd_111 hw)) (by decide) (t := (.array (.object "java/lang/Object"))) (t' := .int) (by decide) (by decide))))
  have f6 := (P5.other W2 (Or.inr (slot_ne (Or.inl (wd_146 hw)) (Or.inl (wd_111 hw)) (by decide) (t := .int) (t' := .int) (by decide) (by decide))))
  refine Rch.void X2 hx hret hlk (hb hby d15_9) (by decide) (by decide) ?_
  try rw [e2]
  exact ⟨rfl, N2, ((Keep.refl _ _).wr W2 (Or.inl (List.mem_of_getElem? (i := 0) rfl))), F2, f5, f6⟩
theorem wd_102 {Z : State} {a0 : Array Value} (hw : ∀ d ∈ tables_1, d.before a0 Z = true) : (Jvm.Cond.code ({ cls := "java/util/AbstractList", name := "<init>", desc := "()V" } : Jvm.MethodName) jdk_39_method_1_code (1 : Nat) (Option.none : Option Jvm.ClassFile.FieldType)).before a0 Z = true := hw _ (List.mem_of_getElem? (i := 102) rfl)
theorem wd_101 {Z : State} {a0 : Array Value} (hw : ∀ d ∈ tables_1, d.before a0 Z = true) : (Jvm.Cond.initialized "java/util/AbstractList").before a0 Z = true := hw _ (List.mem_of_getElem? (i := 101) rfl)
theorem wd_98 {Z : State} {a0 : Array Value} (hw : ∀ d ∈ tables_1, d.before a0 Z = true) : (Jvm.Cond.instanceMethod ({ cls := "java/util/AbstractList", name := "<init>", desc := "()V" } : Jvm.MethodName)).before a0 Z = true := hw _ (List.mem_of_getElem? (i := 98) rfl)
theorem d14_4 : decode jdk_38_method_2_code 4 = .ok (.aload_n 0, 1) := by decide +kernel
theorem d14_5 : decode jdk_38_method_2_code 5 = .ok (.getstatic 39, 3) := by decide +kernel
theorem wd_112 {Z : State} {a0 : Array Value} (hw : ∀ d ∈ tables_1, d.before a0 Z = true) : (Jvm.Cond.fieldLink "java/util/ArrayList" (39 : Nat) "java/util/ArrayList" "DEFAULTCAPACITY_EMPTY_ELEMENTDATA" "[Ljava/lang/Object;").before a0 Z = true := hw _ (List.mem_of_getElem? (i := 112) rfl)
theorem d14_8 : decode jdk_38_method_2_code 8 = .ok (.putfield 9, 3) := by decide +kernel
theorem wd_113 {Z : State} {a0 : Array Value} (hw : ∀ d ∈ tables_1, d.before a0 Z = true) : (Jvm.Cond.fieldLink "java/util/ArrayList" (9 : Nat) "java/util/ArrayList" "elementData" "[Ljava/lang/Object;").before a0 Z = true := hw _ (List.mem_of_getElem? (i := 113) rfl)
theorem d14_11 : decode jdk_38_method_2_code 11 = .ok (.return_, 1) := by decide +kernel
theorem pn_java_util_ArrayList : plainName "java/util/ArrayList" = true := by first | (simp [plainName, overriddenIn]; done) | decide +kernel
set_option maxRecDepth 65536 in
set_option maxHeartbeats 4000000 in
theorem ef_m15_init (m : MethodId) (x1 : Addr) (x2 : Addr) : entryFrame m #[(.ref x1)] 1 = mkF m 0 #[.val (.ref x1)] [] := by first | rfl | (simp [entryFrame, mkF, argsToLocals, Value.category]; done)
set_option maxRecDepth 65536 in
set_option maxHeartbeats 40000000 in
theorem m15_init (l : Launch) (Z : State) (a0 : Array Value) (hw : ∀ d ∈ tables_1, d.before a0 Z = true) (x1 : Addr) (x2 : Addr) (h0 : Heap) (n0 : Nat) (Z0 : n0 ≤ h0.size) (O0 : Old Z n0 h0) (P1 : Exa Z h0 x1 "java/util/ArrayList") (P2 : Fld Z h0 x1 "java/util/AbstractList" "modCount" "I" (.int (0 : Int32))) (P3 : n0 ≤ x1) (P4 : Fld Z h0 x1 "java/util/ArrayList" "elementData" "[Ljava/lang/Object;" .null) (P5 : Fld Z h0 x1 "java/util/ArrayList" "size" "I" (.int (0 : Int32))) (P6 : Sta Z Z.heap "java/util/ArrayList" "DEFAULTCAPACITY_EMPTY_ELEMENTDATA" "[Ljava/lang/Object;" (.ref x2)) :
    Ctr l Z [] (⟨"java/util/ArrayList", "<init>", "()V"⟩ : MethodName) jdk_38_method_2_code 1 none #[(.ref x1)] h0 ({ frames := 3, cells := 0, slots := 0, locals := 36 } : Room) (fun v h L => v = none ∧ Fr n0 L ∧ Keep h0 h [x1] ∧ Fld Z h x1 "java/util/AbstractList" "modCount" "I" (.int (0 : Int32)) ∧ Fld Z h x1 "java/util/ArrayList" "elementData" "[Ljava/lang/Object;" (.ref x2) ∧ Fld Z h x1 "java/util/ArrayList" "size" "I" (.int (0 : Int32))) := by
  refine Ctr.of (plainFor_of_name pn_java_util_ArrayList) (fun m => ef_m15_init m x1 x2) ?_
  intro p e s m below meth c T0 hx hZ hby hml hown hnm hret hlk X0 e0
  have N0 := Fr.nil n0
  show Rch p e below _ (T0.setTop (mkF m 0 #[.val (.ref x1)] []))
  refine Rch.go (fun t k => XS.aloadN X0.here hx rfl (hb hby d14_0) rfl rfl k) ?_
  show Rch p e below _ (T0.setTop (mkF m 1 #[.val (.ref x1)] [(.ref x1)]))
  obtain ⟨v1, T1, L1, X1, Q1, st1⟩ := callSp X0 hx hZ (m16_init l Z a0 hw x1 h0 n0 Z0 O0 P1 P2 P3 P4 P5) e0 hown rfl (wd_97 hw) (wd_98 hw) (wd_102 hw) (wd_101 hw) (by decide) (hb hby d14_1) 0 (by decide) (by decide) (by decide) (by decide) (by rw [hml]; rfl) x1 [] [] rfl (lenOf pd_6 rfl) rfl (Nat.le_of_eq rfl) (Ls := #[.val (.ref x1)])
  obtain ⟨rfl, M1, K1, F1_0, F1_1, F1_2⟩ := Q1
  have N1 := Fr.app N0 M1
  refine Rch.go st1 ?_
  have z2 : n0 ≤ T1.heap.size := (Nat.le_trans Z0 K1.1)
  have o3 := O0.keep K1 (allS P3 all0)
  show Rch p e below _ (T1.setTop (mkF m 4 #[.val (.ref x1)] []))
  refine Rch.go (fun t k => XS.aloadN X1.here hx rfl (hb hby d14_4) rfl rfl k) ?_
  show Rch p e below _ (T1.setTop (mkF m 5 #[.val (.ref x1)] [(.ref x1)]))
  obtain ⟨T4, X4, e4, st4⟩ := getS2 X1 hx hZ hown (host := "") (Or.inl (wd_112 hw)) Via.refl rfl (P6.ext o3.2) (g := (mkF m 5 #[.val (.ref x1)] [(.ref x1)])) rfl (hb hby d14_5)
  refine Rch.go st4 ?_
  show Rch p e below _ (T4.setTop (mkF m 8 #[.val (.ref x1)] [(.ref x2), (.ref x1)]))
  have f6 := (P1.keep K1)
  obtain ⟨T5, h5, X5, e5, W5, st5⟩ := putF X4 hx hZ hown (host := "") (Or.inl (wd_113 hw)) Via.refl e4 F1_1 f6 (Or.inl (wd_114 hw)) (wd_92 hw) (ty := (.array (.object "java/lang/Object"))) (by decide) rfl rfl (g := (mkF m 8 #[.val (.ref x1)] [(.ref x2), (.ref x1)])) rfl rfl (hb hby d14_8)
  refine Rch.go st5 ?_
  have z7 : n0 ≤ h5.size := (Nat.le_trans z2 (Nat.le_of_eq W5.size.symm))
  have o8 := o3.wr W5 P3
  have F5 := F1_1.same W5
  have N5 := Fr.snoc X5 N1 P3
  show Rch p e below _ (T5.setTop (mkF m 11 #[.val (.ref x1)] []))
  have f9 := (F1_0.other W5 (Or.inr (slot_ne (Or.inl (wd_111 hw)) (Or.inl (wd_114 hw)) (by decide) (t := .int) (t' := (.array (.object "java/lang/Object"))) (by decide) (by decide))))
  have f10 := (F1_2.other W5 (Or.inr (slot_ne (Or.inl (wd_146 hw)) (Or.inl (wd_114 hw)) (by decide) (t := .int) (t' := (.array (.object "java/lang/Object"))) (by decide) (by decide))))
  refine Rch.void X5 hx hret hlk (hb hby d14_11) (by decide) (by decide) ?_
  try rw [e5]
  exact ⟨rfl, N5, (((Keep.refl _ _).trans K1 (allS (Or.inl (List.mem_of_getElem? (i := 0) rfl)) all0)).wr W5 (Or.inl (List.mem_of_getElem? (i := 0) rfl))), f9, F5, f10⟩
theorem wd_96 {Z : State} {a0 : Array Value} (hw : ∀ d ∈ tables_1, d.before a0 Z = true) : (Jvm.Cond.code ({ cls := "java/util/ArrayList", name := "<init>", desc := "()V" } : Jvm.MethodName) jdk_38_method_2_code (1 : Nat) (Option.none : Option Jvm.ClassFile.FieldType)).before a0 Z = true := hw _ (List.mem_of_getElem? (i := 96) rfl)
theorem wd_95 {Z : State} {a0 : Array Value} (hw : ∀ d ∈ tables_1, d.before a0 Z = true) : (Jvm.Cond.instanceMethod ({ cls := "java/util/ArrayList", name := "<init>", desc := "()V" } : Jvm.MethodName)).before a0 Z = true := hw _ (List.mem_of_getElem? (i := 95) rfl)
theorem d13_7 : decode prog_9_method_4_code 7 = .ok (.astore_n 1, 1) := by decide +kernel
theorem d13_8 : decode prog_9_method_4_code 8 = .ok (.aload_n 0, 1) := by decide +kernel
theorem d13_9 : decode prog_9_method_4_code 9 = .ok (.aload_n 1, 1) := by decide +kernel
theorem d13_10 : decode prog_9_method_4_code 10 = .ok (.invokestatic 54, 3) := by decide +kernel
theorem wd_115 {Z : State} {a0 : Array Value} (hw : ∀ d ∈ tables_1, d.before a0 Z = true) : (Jvm.Cond.methodLink "com/example/harpocrates/harpocrates/data/Taxonomy" (54 : Nat) ({ cls := "com/example/harpocrates/harpocrates/data/Taxonomy", name := "addLeaves", desc := "(Lcom/example/harpocrates/harpocrates/data/Taxonomy;Ljava/util/List;)V" } : Jvm.MethodName)).before a0 Z = true := hw _ (List.mem_of_getElem? (i := 115) rfl)
theorem d17_0 : decode prog_9_method_7_code 0 = .ok (.aload_n 0, 1) := by decide +kernel
theorem d17_1 : decode prog_9_method_7_code 1 = .ok (.invokevirtual 87, 3) := by decide +kernel
theorem wd_118 {Z : State} {a0 : Array Value} (hw : ∀ d ∈ tables_1, d.before a0 Z = true) : (Jvm.Cond.methodLink "com/example/harpocrates/harpocrates/data/Taxonomy" (87 : Nat) ({ cls := "com/example/harpocrates/harpocrates/data/Taxonomy", name := "isLeaf", desc := "()Z" } : Jvm.MethodName)).before a0 Z = true := hw _ (List.mem_of_getElem? (i := 118) rfl)
theorem d18_0 : decode prog_9_method_3_code 0 = .ok (.aload_n 0, 1) := by decide +kernel
theorem d18_1 : decode prog_9_method_3_code 1 = .ok (.getfield 39, 3) := by decide +kernel
theorem d18_4 : decode prog_9_method_3_code 4 = .ok (.invokeinterface 50 1, 5) := by decide +kernel
theorem wd_123 {Z : State} {a0 : Array Value} (hw : ∀ d ∈ tables_1, d.before a0 Z = true) : (Jvm.Cond.methodLink "com/example/harpocrates/harpocrates/data/Taxonomy" (50 : Nat) ({ cls := "java/util/List", name := "isEmpty", desc := "()Z" } : Jvm.MethodName)).before a0 Z = true := hw _ (List.mem_of_getElem? (i := 123) rfl)
theorem d19_0 : decode jdk_45_method_2_code 0 = .ok (.aload_n 0, 1) := by decide +kernel
theorem d19_1 : decode jdk_45_method_2_code 1 = .ok (.getfield 7, 3) := by decide +kernel
theorem wd_132 {Z : State} {a0 : Array Value} (hw : ∀ d ∈ tables_1, d.before a0 Z = true) : (Jvm.Cond.fieldLink "java/util/ImmutableCollections$ListN" (7 : Nat) "java/util/ImmutableCollections$ListN" "elements" "[Ljava/lang/Object;").before a0 Z = true := hw _ (List.mem_of_getElem? (i := 132) rfl)
theorem d19_4 : decode jdk_45_method_2_code 4 = .ok (.arraylength, 1) := by decide +kernel
theorem d19_5 : decode jdk_45_method_2_code 5 = .ok (.ifCond .ne 7, 3) := by decide +kernel
theorem d19_8 : decode jdk_45_method_2_code 8 = .ok (.iconst 1, 1) := by decide +kernel
theorem d19_9 : decode jdk_45_method_2_code 9 = .ok (.goto 4, 3) := by decide +kernel
theorem d19_13 : decode jdk_45_method_2_code 13 = .ok (.ireturn, 1) := by decide +kernel
theorem pn_java_util_ImmutableCollections_ListN : plainName "java/util/ImmutableCollections$ListN" = true := by first | (simp [plainName, overriddenIn]; done) | decide +kernel
set_option maxRecDepth 65536 in
set_option maxHeartbeats 4000000 in
theorem ef_m20_isEmpty (m : MethodId) (x1 : Addr) (x2 : Addr) (kk3 : ClassId) : entryFrame m #[(.ref x1)] 1 = mkF m 0 #[.val (.ref x1)] [] := by first | rfl | (simp [entryFrame, mkF, argsToLocals, Value.category]; done)
set_option maxRecDepth 65536 in
set_option maxHeartbeats 40000000 in
theorem m20_isEmpty (l : Launch) (Z : State) (a0 : Array Value) (hw : ∀ d ∈ tables_1, d.before a0 Z = true) (x1 : Addr) (x2 : Addr) (kk3 : ClassId) (h0 : Heap) (n0 : Nat) (Z0 : n0 ≤ h0.size) (O0 : Old Z n0 h0) (P1 : Fld Z Z.heap x1 "java/util/ImmutableCollections$ListN" "elements" "[Ljava/lang/Object;" (.ref x2)) (P2 : Arv Z Z.heap x2 kk3 (.object "java/lang/Object") (0 : Int32) [] .null) :
    Ctr l Z [] (⟨"java/util/ImmutableCollections$ListN", "isEmpty", "()Z"⟩ : MethodName) jdk_45_method_2_code 1 (some .boolean) #[(.ref x1)] h0 ({ frames := 0, cells := 0, slots := 0, locals := 0 } : Room) (fun v h L => v = some (.int (1 : Int32)) ∧ Fr n0 L ∧ h = h0) := by
  refine Ctr.of (plainFor_of_name pn_java_util_ImmutableCollections_ListN) (fun m => ef_m20_isEmpty m x1 x2 kk3) ?_
  intro p e s m below meth c T0 hx hZ hby hml hown hnm hret hlk X0 e0
  have N0 := Fr.nil n0
  show Rch p e below _ (T0.setTop (mkF m 0 #[.val (.ref x1)] []))
  refine Rch.go (fun t k => XS.aloadN X0.here hx rfl (hb hby d19_0) rfl rfl k) ?_
  show Rch p e below _ (T0.setTop (mkF m 1 #[.val (.ref x1)] [(.ref x1)]))
  obtain ⟨T1, X1, e1, st1⟩ := getF X0 hx hZ hown (host := "") (Or.inl (wd_132 hw)) Via.refl e0 (P1.ext O0.2) (g := (mkF m 1 #[.val (.ref x1)] [(.ref x1)])) rfl rfl (hb hby d19_1)
  refine Rch.go st1 ?_
  show Rch p e below _ (T1.setTop (mkF m 4 #[.val (.ref x1)] [(.ref x2)]))
  obtain ⟨c2, r2, q2, s2, u2, H2, G2⟩ := id (P2.ext O0.2)
  refine Rch.go (fun t k => X1.arraylength hx (by rw [e1]; exact r2.1) (State.isArrayOf_alike hZ.alike r2.2.1) (g := (mkF m 4 #[.val (.ref x1)] [(.ref x2)])) rfl rfl (hb hby d19_4) t (by rw [len_of s2 u2]; exact k)) ?_
  show Rch p e below _ (T1.setTop (mkF m 5 #[.val (.ref x1)] [(.int (0 : Int32))]))
  refine Rch.go (fun t k => XS.ifNo X1.here hx rfl (hb hby d19_5) rfl (by decide) k) ?_
  show Rch p e below _ (T1.setTop (mkF m 8 #[.val (.ref x1)] []))
  refine Rch.go (fun t k => XS.iconst X1.here hx rfl (hb hby d19_8) k) ?_
  show Rch p e below _ (T1.setTop (mkF m 9 #[.val (.ref x1)] [(.int (1 : Int32))]))
  refine Rch.go (fun t k => XS.goto X1.here hx rfl (pc0 := 9) (pc' := 13) rfl (hb hby d19_9) (by decide) (by decide) k) ?_
  show Rch p e below _ (T1.setTop (mkF m 13 #[.val (.ref x1)] [(.int (1 : Int32))]))
  refine Rch.val X1 hx (t := .boolean) hret hlk rfl (mayI (by simp)) (hb hby d19_13) (by decide) (by decide) ?_
  try rw [e1]
  exact ⟨rfl, N0, rfl⟩
theorem wd_131 {Z : State} {a0 : Array Value} (hw : ∀ d ∈ tables_1, d.before a0 Z = true) : (Jvm.Cond.code ({ cls := "java/util/ImmutableCollections$ListN", name := "isEmpty", desc := "()Z" } : Jvm.MethodName) jdk_45_method_2_code (1 : Nat) (Option.some Jvm.ClassFile.FieldType.boolean)).before a0 Z = true := hw _ (List.mem_of_getElem? (i := 131) rfl)
theorem wd_130 {Z : State} {a0 : Array Value} (hw : ∀ d ∈ tables_1, d.before a0 Z = true) : (Jvm.Cond.initialized "java/util/ImmutableCollections$ListN").before a0 Z = true := hw _ (List.mem_of_getElem? (i := 130) rfl)
theorem wd_124 {Z : State} {a0 : Array Value} (hw : ∀ d ∈ tables_1, d.before a0 Z = true) : (Jvm.Cond.declares ({ cls := "java/util/List", name := "isEmpty", desc := "()Z" } : Jvm.MethodName)).before a0 Z = true := hw _ (List.mem_of_getElem? (i := 124) rfl)
theorem wd_125 {Z : State} {a0 : Array Value} (hw : ∀ d ∈ tables_1, d.before a0 Z = true) : (Jvm.Cond.interfaceMethod "java/util/List" "java/util/List" "isEmpty" "()Z").before a0 Z = true := hw _ (List.mem_of_getElem? (i := 125) rfl)
theorem wd_126 {Z : State} {a0 : Array Value} (hw : ∀ d ∈ tables_1, d.before a0 Z = true) : (Jvm.Cond.selects "java/util/ImmutableCollections$ListN" ({ cls := "java/util/List", name := "isEmpty", desc := "()Z" } : Jvm.MethodName) ({ cls := "java/util/ImmutableCollections$ListN", name := "isEmpty", desc := "()Z" } : Jvm.MethodName)).before a0 Z = true := hw _ (List.mem_of_getElem? (i := 126) rfl)
theorem wd_127 {Z : State} {a0 : Array Value} (hw : ∀ d ∈ tables_1, d.before a0 Z = true) : (Jvm.Cond.instanceMethod ({ cls := "java/util/ImmutableCollections$ListN", name := "isEmpty", desc := "()Z" } : Jvm.MethodName)).before a0 Z = true := hw _ (List.mem_of_getElem? (i := 127) rfl)
theorem wd_128 {Z : State} {a0 : Array Value} (hw : ∀ d ∈ tables_1, d.before a0 Z = true) : (Jvm.Cond.publicMethod ({ cls := "java/util/ImmutableCollections$ListN", name := "isEmpty", desc := "()Z" } : Jvm.MethodName)).before a0 Z = true := hw _ (List.mem_of_getElem? (i := 128) rfl)
theorem wd_129 {Z : State} {a0 : Array Value} (hw : ∀ d ∈ tables_1, d.before a0 Z = true) : (Jvm.Cond.unhidden "java/util/ImmutableCollections$ListN" "isEmpty" "()Z").before a0 Z = true := hw _ (List.mem_of_getElem? (i := 129) rfl)
theorem d18_9 : decode prog_9_method_3_code 9 = .ok (.ireturn, 1) := by decide +kernel
set_option maxRecDepth 65536 in
set_option maxHeartbeats 4000000 in
theorem ef_m19_isLeaf (m : MethodId) (x1 : Addr) (x2 : Addr) (x3 : Addr) (kk4 : ClassId) : entryFrame m #[(.ref x1)] 1 = mkF m 0 #[.val (.ref x1)] [] := by first | rfl | (simp [entryFrame, mkF, argsToLocals, Value.category]; done)
set_option maxRecDepth 65536 in
set_option maxHeartbeats 40000000 in
theorem m19_isLeaf (l : Launch) (Z : State) (a0 : Array Value) (hw : ∀ d ∈ tables_1, d.before a0 Z = true) (x1 : Addr) (x2 : Addr) (x3 : Addr) (kk4 : ClassId) (h0 : Heap) (n0 : Nat) (Z0 : n0 ≤ h0.size) (O0 : Old Z n0 h0) (P1 : Fld Z h0 x1 "com/example/harpocrates/harpocrates/data/Taxonomy" "children" "Ljava/util/List;" (.ref x2)) (P2 : Exa Z Z.heap x2 "java/util/ImmutableCollections$ListN") (P3 : Fld Z Z.heap x2 "java/util/ImmutableCollections$ListN" "elements" "[Ljava/lang/Object;" (.ref x3)) (P4 : Arv Z Z.heap x3 kk4 (.object "java/lang/Object") (0 : Int32) [] .null) :
    Ctr l Z [] (⟨"com/example/harpocrates/harpocrates/data/Taxonomy", "isLeaf", "()Z"⟩ : MethodName) prog_9_method_3_code 1 (some .boolean) #[(.ref x1)] h0 ({ frames := 1, cells := 0, slots := 0, locals := 12 } : Room) (fun v h L => v = some (.int (1 : Int32)) ∧ Fr n0 L ∧ h = h0) := by
  refine Ctr.of (plainFor_of_name pn_com_example_harpocrates_harpocrates_data_Taxonomy) (fun m => ef_m19_isLeaf m x1 x2 x3 kk4) ?_
  intro p e s m below meth c T0 hx hZ hby hml hown hnm hret hlk X0 e0
  have N0 := Fr.nil n0
  show Rch p e below _ (T0.setTop (mkF m 0 #[.val (.ref x1)] []))
  refine Rch.go (fun t k => XS.aloadN X0.here hx rfl (hb hby d18_0) rfl rfl k) ?_
  show Rch p e below _ (T0.setTop (mkF m 1 #[.val (.ref x1)] [(.ref x1)]))
  obtain ⟨T1, X1, e1, st1⟩ := getF X0 hx hZ hown (host := "") (Or.inl (wd_84 hw)) Via.refl e0 P1 (g := (mkF m 1 #[.val (.ref x1)] [(.ref x1)])) rfl rfl (hb hby d18_1)
  refine Rch.go st1 ?_
  show Rch p e below _ (T1.setTop (mkF m 4 #[.val (.ref x1)] [(.ref x2)]))
  obtain ⟨v2, T2, L2, X2, Q2, st2⟩ := callIf X1 hx hZ (m20_isEmpty l Z a0 hw x2 x3 kk4 h0 n0 Z0 O0 P3 P4) e1 hown (wd_123 hw) (wd_124 hw) (wd_125 hw) (wd_126 hw) (wd_127 hw) (wd_128 hw) (wd_129 hw) (wd_81 hw) (wd_131 hw) (wd_130 hw) (by decide) (hb hby d18_4) 0 (by decide) (by decide) (by decide) (by decide) (by rw [hml]; rfl) x2 (P2.ext O0.2) [] [] rfl (lenOf pd_8 rfl) rfl (Nat.le_of_eq rfl) (Ls := #[.val (.ref x1)])
  obtain ⟨rfl, M2, e2⟩ := Q2
  have N2 := Fr.app N0 M2
  refine Rch.go st2 ?_
  show Rch p e below _ (T2.setTop (mkF m 9 #[.val (.ref x1)] [(.int (1 : Int32))]))
  refine Rch.val X2 hx (t := .boolean) hret hlk rfl (mayI (by simp)) (hb hby d18_9) (by decide) (by decide) ?_
  try rw [e2]
  exact ⟨rfl, N2, rfl⟩
theorem wd_122 {Z : State} {a0 : Array Value} (hw : ∀ d ∈ tables_1, d.before a0 Z = true) : (Jvm.Cond.code ({ cls := "com/example/harpocrates/harpocrates/data/Taxonomy", name := "isLeaf", desc := "()Z" } : Jvm.MethodName) prog_9_method_3_code (1 : Nat) (Option.some Jvm.ClassFile.FieldType.boolean)).before a0 Z = true := hw _ (List.mem_of_getElem? (i := 122) rfl)
theorem wd_121 {Z : State} {a0 : Array Value} (hw : ∀ d ∈ tables_1, d.before a0 Z = true) : (Jvm.Cond.selects "com/example/harpocrates/harpocrates/data/Taxonomy" ({ cls := "com/example/harpocrates/harpocrates/data/Taxonomy", name := "isLeaf", desc := "()Z" } : Jvm.MethodName) ({ cls := "com/example/harpocrates/harpocrates/data/Taxonomy", name := "isLeaf", desc := "()Z" } : Jvm.MethodName)).before a0 Z = true := hw _ (List.mem_of_getElem? (i := 121) rfl)
theorem wd_119 {Z : State} {a0 : Array Value} (hw : ∀ d ∈ tables_1, d.before a0 Z = true) : (Jvm.Cond.declares ({ cls := "com/example/harpocrates/harpocrates/data/Taxonomy", name := "isLeaf", desc := "()Z" } : Jvm.MethodName)).before a0 Z = true := hw _ (List.mem_of_getElem? (i := 119) rfl)
theorem wd_120 {Z : State} {a0 : Array Value} (hw : ∀ d ∈ tables_1, d.before a0 Z = true) : (Jvm.Cond.instanceMethod ({ cls := "com/example/harpocrates/harpocrates/data/Taxonomy", name := "isLeaf", desc := "()Z" } : Jvm.MethodName)).before a0 Z = true := hw _ (List.mem_of_getElem? (i := 120) rfl)
theorem d17_4 : decode prog_9_method_7_code 4 = .ok (.ifCond .eq 17, 3) := by decide +kernel
theorem d17_7 : decode prog_9_method_7_code 7 = .ok (.aload_n 1, 1) := by decide +kernel
theorem d17_8 : decode prog_9_method_7_code 8 = .ok (.aload_n 0, 1) := by decide +kernel
theorem d17_9 : decode prog_9_method_7_code 9 = .ok (.getfield 34, 3) := by decide +kernel
theorem d17_12 : decode prog_9_method_7_code 12 = .ok (.invokeinterface 90 2, 5) := by decide +kernel
theorem wd_134 {Z : State} {a0 : Array Value} (hw : ∀ d ∈ tables_1, d.before a0 Z = true) : (Jvm.Cond.methodLink "com/example/harpocrates/harpocrates/data/Taxonomy" (90 : Nat) ({ cls := "java/util/List", name := "add", desc := "(Ljava/lang/Object;)Z" } : Jvm.MethodName)).before a0 Z = true := hw _ (List.mem_of_getElem? (i := 134) rfl)
theorem d20_0 : decode jdk_38_method_25_code 0 = .ok (.aload_n 0, 1) := by decide +kernel
theorem d20_1 : decode jdk_38_method_25_code 1 = .ok (.dup, 1) := by decide +kernel
theorem d20_2 : decode jdk_38_method_25_code 2 = .ok (.getfield 63, 3) := by decide +kernel
theorem wd_143 {Z : State} {a0 : Array Value} (hw : ∀ d ∈ tables_1, d.before a0 Z = true) : (Jvm.Cond.fieldLink "java/util/ArrayList" (63 : Nat) "java/util/ArrayList" "modCount" "I").before a0 Z = true := hw _ (List.mem_of_getElem? (i := 143) rfl)
theorem wd_144 {Z : State} {a0 : Array Value} (hw : ∀ d ∈ tables_1, d.before a0 Z = true) : (Jvm.Cond.sameField "java/util/ArrayList" "java/util/AbstractList" "modCount" "I").before a0 Z = true := hw _ (List.mem_of_getElem? (i := 144) rfl)
theorem d20_5 : decode jdk_38_method_25_code 5 = .ok (.iconst 1, 1) := by decide +kernel
theorem d20_6 : decode jdk_38_method_25_code 6 = .ok (.iadd, 1) := by decide +kernel
theorem d20_7 : decode jdk_38_method_25_code 7 = .ok (.putfield 63, 3) := by decide +kernel
theorem d20_10 : decode jdk_38_method_25_code 10 = .ok (.aload_n 0, 1) := by decide +kernel
theorem d20_11 : decode jdk_38_method_25_code 11 = .ok (.aload_n 1, 1) := by decide +kernel
theorem d20_12 : decode jdk_38_method_25_code 12 = .ok (.aload_n 0, 1) := by decide +kernel
theorem d20_13 : decode jdk_38_method_25_code 13 = .ok (.getfield 9, 3) := by decide +kernel
theorem d20_16 : decode jdk_38_method_25_code 16 = .ok (.aload_n 0, 1) := by decide +kernel
theorem d20_17 : decode jdk_38_method_25_code 17 = .ok (.getfield 48, 3) := by decide +kernel
theorem wd_145 {Z : State} {a0 : Array Value} (hw : ∀ d ∈ tables_1, d.before a0 Z = true) : (Jvm.Cond.fieldLink "java/util/ArrayList" (48 : Nat) "java/util/ArrayList" "size" "I").before a0 Z = true := hw _ (List.mem_of_getElem? (i := 145) rfl)
theorem d20_20 : decode jdk_38_method_25_code 20 = .ok (.invokevirtual 131, 3) := by decide +kernel
theorem wd_147 {Z : State} {a0 : Array Value} (hw : ∀ d ∈ tables_1, d.before a0 Z = true) : (Jvm.Cond.methodLink "java/util/ArrayList" (131 : Nat) ({ cls := "java/util/ArrayList", name := "add", desc := "(Ljava/lang/Object;[Ljava/lang/Object;I)V" } : Jvm.MethodName)).before a0 Z = true := hw _ (List.mem_of_getElem? (i := 147) rfl)
theorem d21_0 : decode jdk_38_method_24_code 0 = .ok (.iload_n 3, 1) := by decide +kernel
theorem d21_1 : decode jdk_38_method_24_code 1 = .ok (.aload_n 2, 1) := by decide +kernel
theorem d21_2 : decode jdk_38_method_24_code 2 = .ok (.arraylength, 1) := by decide +kernel
theorem d21_3 : decode jdk_38_method_24_code 3 = .ok (.if_icmp .ne 8, 3) := by decide +kernel
theorem d21_6 : decode jdk_38_method_24_code 6 = .ok (.aload_n 0, 1) := by decide +kernel
theorem d21_7 : decode jdk_38_method_24_code 7 = .ok (.invokevirtual 129, 3) := by decide +kernel
theorem wd_152 {Z : State} {a0 : Array Value} (hw : ∀ d ∈ tables_1, d.before a0 Z = true) : (Jvm.Cond.methodLink "java/util/ArrayList" (129 : Nat) ({ cls := "java/util/ArrayList", name := "grow", desc := "()[Ljava/lang/Object;" } : Jvm.MethodName)).before a0 Z = true := hw _ (List.mem_of_getElem? (i := 152) rfl)
theorem d22_0 : decode jdk_38_method_7_code 0 = .ok (.aload_n 0, 1) := by decide +kernel
theorem d22_1 : decode jdk_38_method_7_code 1 = .ok (.aload_n 0, 1) := by decide +kernel
theorem d22_2 : decode jdk_38_method_7_code 2 = .ok (.getfield 48, 3) := by decide +kernel
theorem d22_5 : decode jdk_38_method_7_code 5 = .ok (.iconst 1, 1) := by decide +kernel
theorem d22_6 : decode jdk_38_method_7_code 6 = .ok (.iadd, 1) := by decide +kernel
theorem d22_7 : decode jdk_38_method_7_code 7 = .ok (.invokevirtual 69, 3) := by decide +kernel
theorem wd_157 {Z : State} {a0 : Array Value} (hw : ∀ d ∈ tables_1, d.before a0 Z = true) : (Jvm.Cond.methodLink "java/util/ArrayList" (69 : Nat) ({ cls := "java/util/ArrayList", name := "grow", desc := "(I)[Ljava/lang/Object;" } : Jvm.MethodName)).before a0 Z = true := hw _ (List.mem_of_getElem? (i := 157) rfl)
theorem d23_0 : decode jdk_38_method_6_code 0 = .ok (.aload_n 0, 1) := by decide +kernel
theorem d23_1 : decode jdk_38_method_6_code 1 = .ok (.getfield 9, 3) := by decide +kernel
theorem d23_4 : decode jdk_38_method_6_code 4 = .ok (.arraylength, 1) := by decide +kernel
theorem d23_5 : decode jdk_38_method_6_code 5 = .ok (.istore_n 2, 1) := by decide +kernel
theorem d23_6 : decode jdk_38_method_6_code 6 = .ok (.iload_n 2, 1) := by decide +kernel
theorem d23_7 : decode jdk_38_method_6_code 7 = .ok (.ifCond .gt 13, 3) := by decide +kernel
theorem d23_10 : decode jdk_38_method_6_code 10 = .ok (.aload_n 0, 1) := by decide +kernel
theorem d23_11 : decode jdk_38_method_6_code 11 = .ok (.getfield 9, 3) := by decide +kernel
theorem d23_14 : decode jdk_38_method_6_code 14 = .ok (.getstatic 39, 3) := by decide +kernel
theorem d23_17 : decode jdk_38_method_6_code 17 = .ok (.if_acmp .eq 28, 3) := by decide +kernel
theorem d23_45 : decode jdk_38_method_6_code 45 = .ok (.aload_n 0, 1) := by decide +kernel
theorem d23_46 : decode jdk_38_method_6_code 46 = .ok (.bipush 10, 2) := by decide +kernel
theorem d23_48 : decode jdk_38_method_6_code 48 = .ok (.iload_n 1, 1) := by decide +kernel
theorem d23_49 : decode jdk_38_method_6_code 49 = .ok (.invokestatic 79, 3) := by decide +kernel
theorem wd_162 {Z : State} {a0 : Array Value} (hw : ∀ d ∈ tables_1, d.before a0 Z = true) : (Jvm.Cond.methodLink "java/util/ArrayList" (79 : Nat) ({ cls := "java/lang/Math", name := "max", desc := "(II)I" } : Jvm.MethodName)).before a0 Z = true := hw _ (List.mem_of_getElem? (i := 162) rfl)
theorem d24_0 : decode jdk_29_method_65_code 0 = .ok (.iload_n 0, 1) := by decide +kernel
theorem d24_1 : decode jdk_29_method_65_code 1 = .ok (.iload_n 1, 1) := by decide +kernel
theorem d24_2 : decode jdk_29_method_65_code 2 = .ok (.if_icmp .lt 7, 3) := by decide +kernel
theorem d24_5 : decode jdk_29_method_65_code 5 = .ok (.iload_n 0, 1) := by decide +kernel
theorem d24_6 : decode jdk_29_method_65_code 6 = .ok (.goto 4, 3) := by decide +kernel
theorem d24_10 : decode jdk_29_method_65_code 10 = .ok (.ireturn, 1) := by decide +kernel
theorem pn_java_lang_Math_24 : plainFor (⟨"java/lang/Math", "max", "(II)I"⟩ : MethodName) = true := by decide +kernel
set_option maxRecDepth 65536 in
set_option maxHeartbeats 4000000 in
theorem ef_m25_max (m : MethodId) : entryFrame m #[(.int (10 : Int32)), (.int (1 : Int32))] 2 = mkF m 0 #[.val (.int (10 : Int32)), .val (.int (1 : Int32))] [] := by first | rfl | (simp [entryFrame, mkF, argsToLocals, Value.category]; done)
set_option maxRecDepth 65536 in
set_option maxHeartbeats 40000000 in
theorem m25_max (l : Launch) (Z : State) (a0 : Array Value) (hw : ∀ d ∈ tables_1, d.before a0 Z = true)  (h0 : Heap) (n0 : Nat) (Z0 : n0 ≤ h0.size) (O0 : Old Z n0 h0) :
    Ctr l Z [] (⟨"java/lang/Math", "max", "(II)I"⟩ : MethodName) jdk_29_method_65_code 2 (some .int) #[(.int (10 : Int32)), (.int (1 : Int32))] h0 ({ frames := 0, cells := 0, slots := 0, locals := 0 } : Room) (fun v h L => v = some (.int (10 : Int32)) ∧ Fr n0 L ∧ h = h0) := by
  refine Ctr.of pn_java_lang_Math_24 (fun m => ef_m25_max m ) ?_
  intro p e s m below meth c T0 hx hZ hby hml hown hnm hret hlk X0 e0
  have N0 := Fr.nil n0
  show Rch p e below _ (T0.setTop (mkF m 0 #[.val (.int (10 : Int32)), .val (.int (1 : Int32))] []))
  refine Rch.go (fun t k => XS.iloadN X0.here hx rfl (hb hby d24_0) rfl  k) ?_
  show Rch p e below _ (T0.setTop (mkF m 1 #[.val (.int (10 : Int32)), .val (.int (1 : Int32))] [(.int (10 : Int32))]))
  refine Rch.go (fun t k => XS.iloadN X0.here hx rfl (hb hby d24_1) rfl  k) ?_
  show Rch p e below _ (T0.setTop (mkF m 2 #[.val (.int (10 : Int32)), .val (.int (1 : Int32))] [(.int (1 : Int32)), (.int (10 : Int32))]))
  refine Rch.go (fun t k => XS.icmpNo X0.here hx rfl (hb hby d24_2) rfl (by decide) k) ?_
  show Rch p e below _ (T0.setTop (mkF m 5 #[.val (.int (10 : Int32)), .val (.int (1 : Int32))] []))
  refine Rch.go (fun t k => XS.iloadN X0.here hx rfl (hb hby d24_5) rfl  k) ?_
  show Rch p e below _ (T0.setTop (mkF m 6 #[.val (.int (10 : Int32)), .val (.int (1 : Int32))] [(.int (10 : Int32))]))
  refine Rch.go (fun t k => XS.goto X0.here hx rfl (pc0 := 6) (pc' := 10) rfl (hb hby d24_6) (by decide) (by decide) k) ?_
  show Rch p e below _ (T0.setTop (mkF m 10 #[.val (.int (10 : Int32)), .val (.int (1 : Int32))] [(.int (10 : Int32))]))
  refine Rch.val X0 hx (t := .int) hret hlk rfl (mayI (by simp)) (hb hby d24_10) (by decide) (by decide) ?_
  try rw [e0]
  exact ⟨rfl, N0, rfl⟩
theorem wd_165 {Z : State} {a0 : Array Value} (hw : ∀ d ∈ tables_1, d.before a0 Z = true) : (Jvm.Cond.code ({ cls := "java/lang/Math", name := "max", desc := "(II)I" } : Jvm.MethodName) jdk_29_method_65_code (2 : Nat) (Option.some Jvm.ClassFile.FieldType.int)).before a0 Z = true := hw _ (List.mem_of_getElem? (i := 165) rfl)
theorem wd_164 {Z : State} {a0 : Array Value} (hw : ∀ d ∈ tables_1, d.before a0 Z = true) : (Jvm.Cond.initialized "java/lang/Math").before a0 Z = true := hw _ (List.mem_of_getElem? (i := 164) rfl)
theorem pd_12 : parseMethodDescriptor "(II)I" = some ⟨[.int, .int], some .int⟩ := by decide +kernel
theorem wd_163 {Z : State} {a0 : Array Value} (hw : ∀ d ∈ tables_1, d.before a0 Z = true) : (Jvm.Cond.static ({ cls := "java/lang/Math", name := "max", desc := "(II)I" } : Jvm.MethodName)).before a0 Z = true := hw _ (List.mem_of_getElem? (i := 163) rfl)
theorem d23_52 : decode jdk_38_method_6_code 52 = .ok (.anewarray 7, 3) := by decide +kernel
theorem wd_166 {Z : State} {a0 : Array Value} (hw : ∀ d ∈ tables_1, d.before a0 Z = true) : (Jvm.Cond.classLink "java/util/ArrayList" (7 : Nat) "java/lang/Object").before a0 Z = true := hw _ (List.mem_of_getElem? (i := 166) rfl)
theorem wd_167 {Z : State} {a0 : Array Value} (hw : ∀ d ∈ tables_1, d.before a0 Z = true) : (Jvm.Cond.arrayOver (Jvm.ClassFile.FieldType.object "java/lang/Object")).before a0 Z = true := hw _ (List.mem_of_getElem? (i := 167) rfl)
theorem d23_55 : decode jdk_38_method_6_code 55 = .ok (.dup_x1, 1) := by decide +kernel
theorem d23_56 : decode jdk_38_method_6_code 56 = .ok (.putfield 9, 3) := by decide +kernel
theorem d23_59 : decode jdk_38_method_6_code 59 = .ok (.areturn, 1) := by decide +kernel
set_option maxRecDepth 65536 in
set_option maxHeartbeats 4000000 in
theorem ef_m24_grow (m : MethodId) (x1 : Addr) (x2 : Addr) (kk3 : ClassId) : entryFrame m #[(.ref x1), (.int (1 : Int32))] 4 = mkF m 0 #[.val (.ref x1), .val (.int (1 : Int32)), .unset, .unset] [] := by first | rfl | (simp [entryFrame, mkF, argsToLocals, Value.category]; done)
set_option maxRecDepth 65536 in
set_option maxHeartbeats 40000000 in
theorem m24_grow (l : Launch) (Z : State) (a0 : Array Value) (hw : ∀ d ∈ tables_1, d.before a0 Z = true) (x1 : Addr) (x2 : Addr) (kk3 : ClassId) (h0 : Heap) (n0 : Nat) (Z0 : n0 ≤ h0.size) (O0 : Old Z n0 h0) (P1 : Fld Z h0 x1 "java/util/ArrayList" "elementData" "[Ljava/lang/Object;" (.ref x2)) (P2 : Arv Z Z.heap x2 kk3 (.object "java/lang/Object") (0 : Int32) [] .null) (P3 : Sta Z Z.heap "java/util/ArrayList" "DEFAULTCAPACITY_EMPTY_ELEMENTDATA" "[Ljava/lang/Object;" (.ref x2)) (P4 : Exa Z h0 x1 "java/util/ArrayList") (P5 : n0 ≤ x1) (P6 : Fld Z h0 x1 "java/util/ArrayList" "size" "I" (.int (0 : Int32))) (P7 : Fld Z h0 x1 "java/util/AbstractList" "modCount" "I" (.int (1 : Int32))) :
    Ctr l Z [] (⟨"java/util/ArrayList", "grow", "(I)[Ljava/lang/Object;"⟩ : MethodName) jdk_38_method_6_code 4 (some (.array (.object "java/lang/Object"))) #[(.ref x1), (.int (1 : Int32))] h0 ({ frames := 1, cells := 1, slots := 10, locals := 14 } : Room) (fun v h L => ∃ (b6 : Addr) (k6 : ClassId), v = some (.ref b6) ∧ Fr n0 L ∧ Keep h0 h [x1] ∧ h0.size ≤ b6 ∧ Ovr Z k6 "java/lang/Object" ∧ Fld Z h x1 "java/util/ArrayList" "elementData" "[Ljava/lang/Object;" (.ref b6) ∧ Exa Z h b6 "[Ljava/lang/Object;" ∧ Arv Z h b6 k6 (.object "java/lang/Object") (10 : Int32) [.null, .null, .null, .null, .null, .null, .null, .null, .null, .null] .null ∧ Fld Z h x1 "java/util/ArrayList" "size" "I" (.int (0 : Int32)) ∧ Fld Z h x1 "java/util/AbstractList" "modCount" "I" (.int (1 : Int32))) := by
  refine Ctr.of (plainFor_of_name pn_java_util_ArrayList) (fun m => ef_m24_grow m x1 x2 kk3) ?_
  intro p e s m below meth c T0 hx hZ hby hml hown hnm hret hlk X0 e0
  have N0 := Fr.nil n0
  show Rch p e below _ (T0.setTop (mkF m 0 #[.val (.ref x1), .val (.int (1 : Int32)), .unset, .unset] []))
  refine Rch.go (fun t k => XS.aloadN X0.here hx rfl (hb hby d23_0) rfl rfl k) ?_
  show Rch p e below _ (T0.setTop (mkF m 1 #[.val (.ref x1), .val (.int (1 : Int32)), .unset, .unset] [(.ref x1)]))
  obtain ⟨T1, X1, e1, st1⟩ := getF X0 hx hZ hown (host := "") (Or.inl (wd_113 hw)) Via.refl e0 P1 (g := (mkF m 1 #[.val (.ref x1), .val (.int (1 : Int32)), .unset, .unset] [(.ref x1)])) rfl rfl (hb hby d23_1)
  refine Rch.go st1 ?_
  show Rch p e below _ (T1.setTop (mkF m 4 #[.val (.ref x1), .val (.int (1 : Int32)), .unset, .unset] [(.ref x2)]))
  obtain ⟨c2, r2, q2, s2, u2, H2, G2⟩ := id (P2.ext O0.2)
  refine Rch.go (fun t k => X1.arraylength hx (by rw [e1]; exact r2.1) (State.isArrayOf_alike hZ.alike r2.2.1) (g := (mkF m 4 #[.val (.ref x1), .val (.int (1 : Int32)), .unset, .unset] [(.ref x2)])) rfl rfl (hb hby d23_4) t (by rw [len_of s2 u2]; exact k)) ?_
  show Rch p e below _ (T1.setTop (mkF m 5 #[.val (.ref x1), .val (.int (1 : Int32)), .unset, .unset] [(.int (0 : Int32))]))
  refine Rch.go (fun t k => XS.istoreN X1.here hx rfl (hb hby d23_5) rfl  (l' := #[.val (.ref x1), .val (.int (1 : Int32)), .val (.int (0 : Int32)), .unset]) rfl k) ?_
  show Rch p e below _ (T1.setTop (mkF m 6 #[.val (.ref x1), .val (.int (1 : Int32)), .val (.int (0 : Int32)), .unset] []))
  refine Rch.go (fun t k => XS.iloadN X1.here hx rfl (hb hby d23_6) rfl  k) ?_
  show Rch p e below _ (T1.setTop (mkF m 7 #[.val (.ref x1), .val (.int (1 : Int32)), .val (.int (0 : Int32)), .unset] [(.int (0 : Int32))]))
  refine Rch.go (fun t k => XS.ifNo X1.here hx rfl (hb hby d23_7) rfl (by decide) k) ?_
  show Rch p e below _ (T1.setTop (mkF m 10 #[.val (.ref x1), .val (.int (1 : Int32)), .val (.int (0 : Int32)), .unset] []))
  refine Rch.go (fun t k => XS.aloadN X1.here hx rfl (hb hby d23_10) rfl rfl k) ?_
  show Rch p e below _ (T1.setTop (mkF m 11 #[.val (.ref x1), .val (.int (1 : Int32)), .val (.int (0 : Int32)), .unset] [(.ref x1)]))
  obtain ⟨T3, X3, e3, st3⟩ := getF X1 hx hZ hown (host := "") (Or.inl (wd_113 hw)) Via.refl e1 P1 (g := (mkF m 11 #[.val (.ref x1), .val (.int (1 : Int32)), .val (.int (0 : Int32)), .unset] [(.ref x1)])) rfl rfl (hb hby d23_11)
  refine Rch.go st3 ?_
  show Rch p e below _ (T3.setTop (mkF m 14 #[.val (.ref x1), .val (.int (1 : Int32)), .val (.int (0 : Int32)), .unset] [(.ref x2)]))
  obtain ⟨T4, X4, e4, st4⟩ := getS2 X3 hx hZ hown (host := "") (Or.inl (wd_112 hw)) Via.refl e3 (P3.ext O0.2) (g := (mkF m 14 #[.val (.ref x1), .val (.int (1 : Int32)), .val (.int (0 : Int32)), .unset] [(.ref x2)])) rfl (hb hby d23_14)
  refine Rch.go st4 ?_
  show Rch p e below _ (T4.setTop (mkF m 17 #[.val (.ref x1), .val (.int (1 : Int32)), .val (.int (0 : Int32)), .unset] [(.ref x2), (.ref x2)]))
  refine Rch.go (fun t k => acmp X4 hx (g := (mkF m 17 #[.val (.ref x1), .val (.int (1 : Int32)), .val (.int (0 : Int32)), .unset] [(.ref x2), (.ref x2)])) rfl (x := (.ref x2)) (y := (.ref x2)) rfl rfl (pc0 := 17) (pc' := 45) (same := true) rfl (hb hby d23_17) rfl (decide_eq_true rfl) (by decide) (by decide) k) ?_
  show Rch p e below _ (T4.setTop (mkF m 45 #[.val (.ref x1), .val (.int (1 : Int32)), .val (.int (0 : Int32)), .unset] []))
  refine Rch.go (fun t k => XS.aloadN X4.here hx rfl (hb hby d23_45) rfl rfl k) ?_
  show Rch p e below _ (T4.setTop (mkF m 46 #[.val (.ref x1), .val (.int (1 : Int32)), .val (.int (0 : Int32)), .unset] [(.ref x1)]))
  refine Rch.go (fun t k => XS.bipush X4.here hx rfl (hb hby d23_46) k) ?_
  show Rch p e below _ (T4.setTop (mkF m 48 #[.val (.ref x1), .val (.int (1 : Int32)), .val (.int (0 : Int32)), .unset] [(.int (10 : Int32)), (.ref x1)]))
  refine Rch.go (fun t k => XS.iloadN X4.here hx rfl (hb hby d23_48) rfl  k) ?_
  show Rch p e below _ (T4.setTop (mkF m 49 #[.val (.ref x1), .val (.int (1 : Int32)), .val (.int (0 : Int32)), .unset] [(.int (1 : Int32)), (.int (10 : Int32)), (.ref x1)]))
  obtain ⟨v5, T5, L5, X5, Q5, st5⟩ := callSt X4 hx hZ (m25_max l Z a0 hw  h0 n0 Z0 O0 ) e4 hown (wd_162 hw) (wd_163 hw) (wd_165 hw) (wd_164 hw) (by decide) (hb hby d23_49) 1 (by decide) (by decide) (by decide) (by decide) (by rw [hml]; rfl) [(.int (10 : Int32)), (.int (1 : Int32))] [(.ref x1)] rfl (lenOf pd_12 rfl) rfl (Nat.le_of_eq rfl) (Ls := #[.val (.ref x1), .val (.int (1 : Int32)), .val (.int (0 : Int32)), .unset])
  obtain ⟨rfl, M5, e5⟩ := Q5
  have N5 := Fr.app N0 M5
  refine Rch.go st5 ?_
  show Rch p e below _ (T5.setTop (mkF m 52 #[.val (.ref x1), .val (.int (1 : Int32)), .val (.int (0 : Int32)), .unset] [(.int (10 : Int32)), (.ref x1)]))
  obtain ⟨T6, h6, k6, X6, e6, E6, A6, B6, O6, st6⟩ := newRE X5 hx hZ hown (wd_166 hw) (wd_167 hw) e5 (g := (mkF m 52 #[.val (.ref x1), .val (.int (1 : Int32)), .val (.int (0 : Int32)), .unset] [(.int (10 : Int32)), (.ref x1)])) rfl (hb hby d23_52) rfl (by decide) (cap := 10) (by decide) (by decide) (by decide) (by decide) (ad := "[Ljava/lang/Object;") (by decide +kernel)
  obtain ⟨b6, g6⟩ : ∃ z, z = h0.size := ⟨_, rfl⟩
  rw [← g6] at A6 B6 st6
  refine Rch.go st6 ?_
  have z7 : n0 ≤ h6.size := (Nat.le_trans Z0 E6.1)
  have o8 := O0.ext E6
  have g_b6 : n0 ≤ b6 := Nat.le_trans Z0 (Nat.le_of_eq g6.symm)
  have V6 : Arv Z h6 b6 k6 (.object "java/lang/Object") (10 : Int32) [.null, .null, .null, .null, .null, .null, .null, .null, .null, .null] .null := (Arv.new A6 (by decide)).pad (pad_rep [] .null 10)
  show Rch p e below _ (T6.setTop (mkF m 55 #[.val (.ref x1), .val (.int (1 : Int32)), .val (.int (0 : Int32)), .unset] [(.ref b6), (.ref x1)]))
  refine Rch.go (fun t k => XS.dupX1 X6.here hx rfl (hb hby d23_55) rfl rfl rfl k) ?_
  show Rch p e below _ (T6.setTop (mkF m 56 #[.val (.ref x1), .val (.int (1 : Int32)), .val (.int (0 : Int32)), .unset] [(.ref b6), (.ref x1), (.ref b6)]))
  have f10 := (P1.ext E6)
  have f11 := (P4.ext E6)
  obtain ⟨T9, h9, X9, e9, W9, st9⟩ := putF X6 hx hZ hown (host := "") (Or.inl (wd_113 hw)) Via.refl e6 f10 f11 (Or.inl (wd_114 hw)) (wd_92 hw) (ty := (.array (.object "java/lang/Object"))) (by decide) rfl rfl (g := (mkF m 56 #[.val (.ref x1), .val (.int (1 : Int32)), .val (.int (0 : Int32)), .unset] [(.ref b6), (.ref x1), (.ref b6)])) rfl rfl (hb hby d23_56)
  refine Rch.go st9 ?_
  have z12 : n0 ≤ h9.size := (Nat.le_trans z7 (Nat.le_of_eq W9.size.symm))
  have o13 := o8.wr W9 P5
  have F9 := f10.same W9
  have N9 := Fr.snoc X9 N5 P5
  show Rch p e below _ (T9.setTop (mkF m 59 #[.val (.ref x1), .val (.int (1 : Int32)), .val (.int (0 : Int32)), .unset] [(.ref b6)]))
  have f14 := (B6.wr W9)
  have lt15 := P1.lt
  have ne16 : x1 ≠ b6 := Nat.ne_of_lt (Nat.lt_of_lt_of_le lt15 (Nat.le_of_eq g6.symm))
  have f17 := (V6.other W9 (Ne.symm ne16))
  have f18 := ((P6.ext E6).other W9 (Or.inr (slot_ne (Or.inl (wd_146 hw)) (Or.inl (wd_114 hw)) (by decide) (t := .int) (t' := (.array (.object "java/lang/Object"))) (by decide) (by decide))))
  have f19 := ((P7.ext E6).other W9 (Or.inr (slot_ne (Or.inl (wd_111 hw)) (Or.inl (wd_114 hw)) (by decide) (t := .int) (t' := (.array (.object "java/lang/Object"))) (by decide) (by decide))))
  refine Rch.val X9 hx (t := (.array (.object "java/lang/Object"))) hret hlk rfl (Or.inr (Or.inr (Or.inr (Or.inr ⟨rfl, rfl, rfl⟩)))) (hb hby d23_59) (by decide) (by decide) ?_
  try rw [e9]
  exact ⟨b6, k6, rfl, N9, (((Keep.refl _ _).ext E6).wr W9 (Or.inl (List.mem_of_getElem? (i := 0) rfl))), (Nat.le_trans (Nat.le_refl _) (Nat.le_of_eq g6.symm)), O6, F9, f14, f17, f18, f19⟩
theorem wd_161 {Z : State} {a0 : Array Value} (hw : ∀ d ∈ tables_1, d.before a0 Z = true) : (Jvm.Cond.code ({ cls := "java/util/ArrayList", name := "grow", desc := "(I)[Ljava/lang/Object;" } : Jvm.MethodName) jdk_38_method_6_code (4 : Nat) (Option.some (Jvm.ClassFile.FieldType.array (Jvm.ClassFile.FieldType.object "java/lang/Object")))).before a0 Z = true := hw _ (List.mem_of_getElem? (i := 161) rfl)
theorem pd_13 : parseMethodDescriptor "(I)[Ljava/lang/Object;" = some ⟨[.int], some (.array (.object "java/lang/Object"))⟩ := by decide +kernel
theorem wd_158 {Z : State} {a0 : Array Value} (hw : ∀ d ∈ tables_1, d.before a0 Z = true) : (Jvm.Cond.instanceMethod ({ cls := "java/util/ArrayList", name := "grow", desc := "(I)[Ljava/lang/Object;" } : Jvm.MethodName)).before a0 Z = true := hw _ (List.mem_of_getElem? (i := 158) rfl)
theorem wd_160 {Z : State} {a0 : Array Value} (hw : ∀ d ∈ tables_1, d.before a0 Z = true) : (Jvm.Cond.selects "java/util/ArrayList" ({ cls := "java/util/ArrayList", name := "grow", desc := "(I)[Ljava/lang/Object;" } : Jvm.MethodName) ({ cls := "java/util/ArrayList", name := "grow", desc := "(I)[Ljava/lang/Object;" } : Jvm.MethodName)).before a0 Z = true := hw _ (List.mem_of_getElem? (i := 160) rfl)
theorem wd_159 {Z : State} {a0 : Array Value} (hw : ∀ d ∈ tables_1, d.before a0 Z = true) : (Jvm.Cond.privateMethod ({ cls := "java/util/ArrayList", name := "grow", desc := "(I)[Ljava/lang/Object;" } : Jvm.MethodName)).before a0 Z = true := hw _ (List.mem_of_getElem? (i := 159) rfl)
theorem d22_10 : decode jdk_38_method_7_code 10 = .ok (.areturn, 1) := by decide +kernel
set_option maxRecDepth 65536 in
set_option maxHeartbeats 4000000 in
theorem ef_m23_grow (m : MethodId) (x1 : Addr) (x2 : Addr) (kk3 : ClassId) : entryFrame m #[(.ref x1)] 1 = mkF m 0 #[.val (.ref x1)] [] := by first | rfl | (simp [entryFrame, mkF, argsToLocals, Value.category]; done)
set_option maxRecDepth 65536 in
set_option maxHeartbeats 40000000 in
theorem m23_grow (l : Launch) (Z : State) (a0 : Array Value) (hw : ∀ d ∈ tables_1, d.before a0 Z = true) (x1 : Addr) (x2 : Addr) (kk3 : ClassId) (h0 : Heap) (n0 : Nat) (Z0 : n0 ≤ h0.size) (O0 : Old Z n0 h0) (P1 : Fld Z h0 x1 "java/util/ArrayList" "size" "I" (.int (0 : Int32))) (P2 : Exa Z h0 x1 "java/util/ArrayList") (P3 : Fld Z h0 x1 "java/util/ArrayList" "elementData" "[Ljava/lang/Object;" (.ref x2)) (P4 : Arv Z Z.heap x2 kk3 (.object "java/lang/Object") (0 : Int32) [] .null) (P5 : Sta Z Z.heap "java/util/ArrayList" "DEFAULTCAPACITY_EMPTY_ELEMENTDATA" "[Ljava/lang/Object;" (.ref x2)) (P6 : n0 ≤ x1) (P7 : Fld Z h0 x1 "java/util/AbstractList" "modCount" "I" (.int (1 : Int32))) :
    Ctr l Z [] (⟨"java/util/ArrayList", "grow", "()[Ljava/lang/Object;"⟩ : MethodName) jdk_38_method_7_code 1 (some (.array (.object "java/lang/Object"))) #[(.ref x1)] h0 ({ frames := 2, cells := 1, slots := 10, locals := 29 } : Room) (fun v h L => ∃ (b2_0 : Addr) (k2_0 : ClassId), v = some (.ref b2_0) ∧ Fr n0 L ∧ Keep h0 h [x1] ∧ h0.size ≤ b2_0 ∧ Ovr Z k2_0 "java/lang/Object" ∧ Fld Z h x1 "java/util/ArrayList" "elementData" "[Ljava/lang/Object;" (.ref b2_0) ∧ Exa Z h b2_0 "[Ljava/lang/Object;" ∧ Arv Z h b2_0 k2_0 (.object "java/lang/Object") (10 : Int32) [.null, .null, .null, .null, .null, .null, .null, .null, .null, .null] .null ∧ Fld Z h x1 "java/util/ArrayList" "size" "I" (.int (0 : Int32)) ∧ Fld Z h x1 "java/util/AbstractList" "modCount" "I" (.int (1 : Int32))) := by
  refine Ctr.of (plainFor_of_name pn_java_util_ArrayList) (fun m => ef_m23_grow m x1 x2 kk3) ?_
  intro p e s m below meth c T0 hx hZ hby hml hown hnm hret hlk X0 e0
  have N0 := Fr.nil n0
  show Rch p e below _ (T0.setTop (mkF m 0 #[.val (.ref x1)] []))
  refine Rch.go (fun t k => XS.aloadN X0.here hx rfl (hb hby d22_0) rfl rfl k) ?_
  show Rch p e below _ (T0.setTop (mkF m 1 #[.val (.ref x1)] [(.ref x1)]))
  refine Rch.go (fun t k => XS.aloadN X0.here hx rfl (hb hby d22_1) rfl rfl k) ?_
  show Rch p e below _ (T0.setTop (mkF m 2 #[.val (.ref x1)] [(.ref x1), (.ref x1)]))
  obtain ⟨T1, X1, e1, st1⟩ := getF X0 hx hZ hown (host := "") (Or.inl (wd_145 hw)) Via.refl e0 P1 (g := (mkF m 2 #[.val (.ref x1)] [(.ref x1), (.ref x1)])) rfl rfl (hb hby d22_2)
  refine Rch.go st1 ?_
  show Rch p e below _ (T1.setTop (mkF m 5 #[.val (.ref x1)] [(.int (0 : Int32)), (.ref x1)]))
  refine Rch.go (fun t k => XS.iconst X1.here hx rfl (hb hby d22_5) k) ?_
  show Rch p e below _ (T1.setTop (mkF m 6 #[.val (.ref x1)] [(.int (1 : Int32)), (.int (0 : Int32)), (.ref x1)]))
  refine Rch.go (fun t k => XS.iadd X1.here hx rfl (hb hby d22_6) rfl k) ?_
  show Rch p e below _ (T1.setTop (mkF m 7 #[.val (.ref x1)] [(.int (1 : Int32)), (.ref x1)]))
  obtain ⟨v2, T2, L2, X2, Q2, st2⟩ := callPr X1 hx hZ (m24_grow l Z a0 hw x1 x2 kk3 h0 n0 Z0 O0 P3 P4 P5 P2 P6 P1 P7) e1 hown (wd_157 hw) (wd_158 hw) (wd_160 hw) (wd_159 hw) (wd_161 hw) (wd_93 hw) (by decide) (hb hby d22_7) 0 (by decide) (by decide) (by decide) (by decide) (by rw [hml]; rfl) x1 P2 [(.int (1 : Int32))] [] rfl (lenOf pd_13 rfl) rfl (Nat.le_of_eq rfl) (Ls := #[.val (.ref x1)])
  obtain ⟨b2_0, k2_0, rfl, M2, K2, zz2_0, O2_0, F2_0, F2_1, F2_2, F2_3, F2_4⟩ := Q2
  have N2 := Fr.app N0 M2
  refine Rch.go st2 ?_
  have z3 : n0 ≤ T2.heap.size := (Nat.le_trans Z0 K2.1)
  have o4 := O0.keep K2 (allS P6 all0)
  have g_b2_0 : n0 ≤ b2_0 := Nat.le_trans Z0 zz2_0
  show Rch p e below _ (T2.setTop (mkF m 10 #[.val (.ref x1)] [(.ref b2_0)]))
  refine Rch.val X2 hx (t := (.array (.object "java/lang/Object"))) hret hlk rfl (Or.inr (Or.inr (Or.inr (Or.inr ⟨rfl, rfl, rfl⟩)))) (hb hby d22_10) (by decide) (by decide) ?_
  exact ⟨b2_0, k2_0, rfl, N2, ((Keep.refl _ _).trans K2 (allS (Or.inl (List.mem_of_getElem? (i := 0) rfl)) all0)), (Nat.le_trans (Nat.le_refl _) zz2_0), O2_0, F2_0, F2_1, F2_2, F2_3, F2_4⟩
theorem wd_156 {Z : State} {a0 : Array Value} (hw : ∀ d ∈ tables_1, d.before a0 Z = true) : (Jvm.Cond.code ({ cls := "java/util/ArrayList", name := "grow", desc := "()[Ljava/lang/Object;" } : Jvm.MethodName) jdk_38_method_7_code (1 : Nat) (Option.some (Jvm.ClassFile.FieldType.array (Jvm.ClassFile.FieldType.object "java/lang/Object")))).before a0 Z = true := hw _ (List.mem_of_getElem? (i := 156) rfl)
theorem pd_14 : parseMethodDescriptor "()[Ljava/lang/Object;" = some ⟨[], some (.array (.object "java/lang/Object"))⟩ := by decide +kernel
theorem wd_153 {Z : State} {a0 : Array Value} (hw : ∀ d ∈ tables_1, d.before a0 Z = true) : (Jvm.Cond.instanceMethod ({ cls := "java/util/ArrayList", name := "grow", desc := "()[Ljava/lang/Object;" } : Jvm.MethodName)).before a0 Z = true := hw _ (List.mem_of_getElem? (i := 153) rfl)
theorem wd_155 {Z : State} {a0 : Array Value} (hw : ∀ d ∈ tables_1, d.before a0 Z = true) : (Jvm.Cond.selects "java/util/ArrayList" ({ cls := "java/util/ArrayList", name := "grow", desc := "()[Ljava/lang/Object;" } : Jvm.MethodName) ({ cls := "java/util/ArrayList", name := "grow", desc := "()[Ljava/lang/Object;" } : Jvm.MethodName)).before a0 Z = true := hw _ (List.mem_of_getElem? (i := 155) rfl)
theorem wd_154 {Z : State} {a0 : Array Value} (hw : ∀ d ∈ tables_1, d.before a0 Z = true) : (Jvm.Cond.privateMethod ({ cls := "java/util/ArrayList", name := "grow", desc := "()[Ljava/lang/Object;" } : Jvm.MethodName)).before a0 Z = true := hw _ (List.mem_of_getElem? (i := 154) rfl)
theorem d21_10 : decode jdk_38_method_24_code 10 = .ok (.astore_n 2, 1) := by decide +kernel
theorem d21_11 : decode jdk_38_method_24_code 11 = .ok (.aload_n 2, 1) := by decide +kernel
theorem d21_12 : decode jdk_38_method_24_code 12 = .ok (.iload_n 3, 1) := by decide +kernel
theorem d21_13 : decode jdk_38_method_24_code 13 = .ok (.aload_n 1, 1) := by decide +kernel
theorem d21_14 : decode jdk_38_method_24_code 14 = .ok (.aastore, 1) := by decide +kernel
theorem wd_168 {Z : State} {a0 : Array Value} (hw : ∀ d ∈ tables_1, d.before a0 Z = true) : (Jvm.Cond.castable "java/lang/String" "java/lang/Object").before a0 Z = true := hw _ (List.mem_of_getElem? (i := 168) rfl)
theorem d21_15 : decode jdk_38_method_24_code 15 = .ok (.aload_n 0, 1) := by decide +kernel
theorem d21_16 : decode jdk_38_method_24_code 16 = .ok (.iload_n 3, 1) := by decide +kernel
theorem d21_17 : decode jdk_38_method_24_code 17 = .ok (.iconst 1, 1) := by decide +kernel
theorem d21_18 : decode jdk_38_method_24_code 18 = .ok (.iadd, 1) := by decide +kernel
theorem d21_19 : decode jdk_38_method_24_code 19 = .ok (.putfield 48, 3) := by decide +kernel
theorem d21_22 : decode jdk_38_method_24_code 22 = .ok (.return_, 1) := by decide +kernel
set_option maxRecDepth 65536 in
set_option maxHeartbeats 4000000 in
theorem ef_m22_add (m : MethodId) (x1 : Addr) (x2 : Addr) (x3 : Addr) (kk4 : ClassId) : entryFrame m #[(.ref x1), (.ref x2), (.ref x3), (.int (0 : Int32))] 4 = mkF m 0 #[.val (.ref x1), .val (.ref x2), .val (.ref x3), .val (.int (0 : Int32))] [] := by first | rfl | (simp [entryFrame, mkF, argsToLocals, Value.category]; done)
set_option maxRecDepth 65536 in
set_option maxHeartbeats 40000000 in
theorem m22_add (l : Launch) (Z : State) (a0 : Array Value) (hw : ∀ d ∈ tables_1, d.before a0 Z = true) (x1 : Addr) (x2 : Addr) (x3 : Addr) (kk4 : ClassId) (h0 : Heap) (n0 : Nat) (Z0 : n0 ≤ h0.size) (O0 : Old Z n0 h0) (P1 : Arv Z Z.heap x3 kk4 (.object "java/lang/Object") (0 : Int32) [] .null) (P2 : Exa Z h0 x1 "java/util/ArrayList") (P3 : Fld Z h0 x1 "java/util/ArrayList" "size" "I" (.int (0 : Int32))) (P4 : Fld Z h0 x1 "java/util/ArrayList" "elementData" "[Ljava/lang/Object;" (.ref x3)) (P5 : Sta Z Z.heap "java/util/ArrayList" "DEFAULTCAPACITY_EMPTY_ELEMENTDATA" "[Ljava/lang/Object;" (.ref x3)) (P6 : n0 ≤ x1) (P7 : Fld Z h0 x1 "java/util/AbstractList" "modCount" "I" (.int (1 : Int32))) (P8 : Exa Z h0 x2 "java/lang/String") :
    Ctr l Z [] (⟨"java/util/ArrayList", "add", "(Ljava/lang/Object;[Ljava/lang/Object;I)V"⟩ : MethodName) jdk_38_method_24_code 4 none #[(.ref x1), (.ref x2), (.ref x3), (.int (0 : Int32))] h0 ({ frames := 3, cells := 1, slots := 10, locals := 41 } : Room) (fun v h L => ∃ (b2_0 : Addr) (k2_0 : ClassId), v = none ∧ Fr n0 L ∧ Keep h0 h [x1] ∧ h0.size ≤ b2_0 ∧ Ovr Z k2_0 "java/lang/Object" ∧ Fld Z h x1 "java/util/ArrayList" "elementData" "[Ljava/lang/Object;" (.ref b2_0) ∧ Exa Z h b2_0 "[Ljava/lang/Object;" ∧ Arv Z h b2_0 k2_0 (.object "java/lang/Object") (10 : Int32) [(.ref x2), .null, .null, .null, .null, .null, .null, .null, .null, .null] .null ∧ Fld Z h x1 "java/util/ArrayList" "size" "I" (.int (1 : Int32)) ∧ Fld Z h x1 "java/util/AbstractList" "modCount" "I" (.int (1 : Int32))) := by
  refine Ctr.of (plainFor_of_name pn_java_util_ArrayList) (fun m => ef_m22_add m x1 x2 x3 kk4) ?_
  intro p e s m below meth c T0 hx hZ hby hml hown hnm hret hlk X0 e0
  have N0 := Fr.nil n0
  show Rch p e below _ (T0.setTop (mkF m 0 #[.val (.ref x1), .val (.ref x2), .val (.ref x3), .val (.int (0 : Int32))] []))
  refine Rch.go (fun t k => XS.iloadN X0.here hx rfl (hb hby d21_0) rfl  k) ?_
  show Rch p e below _ (T0.setTop (mkF m 1 #[.val (.ref x1), .val (.ref x2), .val (.ref x3), .val (.int (0 : Int32))] [(.int (0 : Int32))]))
  refine Rch.go (fun t k => XS.aloadN X0.here hx rfl (hb hby d21_1) rfl rfl k) ?_
  show Rch p e below _ (T0.setTop (mkF m 2 #[.val (.ref x1), .val (.ref x2), .val (.ref x3), .val (.int (0 : Int32))] [(.ref x3), (.int (0 : Int32))]))
  obtain ⟨c1, r1, q1, s1, u1, H1, G1⟩ := id (P1.ext O0.2)
  refine Rch.go (fun t k => X0.arraylength hx (by rw [e0]; exact r1.1) (State.isArrayOf_alike hZ.alike r1.2.1) (g := (mkF m 2 #[.val (.ref x1), .val (.ref x2), .val (.ref x3), .val (.int (0 : Int32))] [(.ref x3), (.int (0 : Int32))])) rfl rfl (hb hby d21_2) t (by rw [len_of s1 u1]; exact k)) ?_
  show Rch p e below _ (T0.setTop (mkF m 3 #[.val (.ref x1), .val (.ref x2), .val (.ref x3), .val (.int (0 : Int32))] [(.int (0 : Int32)), (.int (0 : Int32))]))
  refine Rch.go (fun t k => XS.icmpNo X0.here hx rfl (hb hby d21_3) rfl (by decide) k) ?_
  show Rch p e below _ (T0.setTop (mkF m 6 #[.val (.ref x1), .val (.ref x2), .val (.ref x3), .val (.int (0 : Int32))] []))
  refine Rch.go (fun t k => XS.aloadN X0.here hx rfl (hb hby d21_6) rfl rfl k) ?_
  show Rch p e below _ (T0.setTop (mkF m 7 #[.val (.ref x1), .val (.ref x2), .val (.ref x3), .val (.int (0 : Int32))] [(.ref x1)]))
  obtain ⟨v2, T2, L2, X2, Q2, st2⟩ := callPr X0 hx hZ (m23_grow l Z a0 hw x1 x3 kk4 h0 n0 Z0 O0 P3 P2 P4 P1 P5 P6 P7) e0 hown (wd_152 hw) (wd_153 hw) (wd_155 hw) (wd_154 hw) (wd_156 hw) (wd_93 hw) (by decide) (hb hby d21_7) 0 (by decide) (by decide) (by decide) (by decide) (by rw [hml]; rfl) x1 P2 [] [] rfl (lenOf pd_14 rfl) rfl (Nat.le_of_eq rfl) (Ls := #[.val (.ref x1), .val (.ref x2), .val (.ref x3), .val (.int (0 : Int32))])
  obtain ⟨b2_0, k2_0, rfl, M2, K2, zz2_0, O2_0, F2_0, F2_1, F2_2, F2_3, F2_4⟩ := Q2
  have N2 := Fr.app N0 M2
  refine Rch.go st2 ?_
  have z3 : n0 ≤ T2.heap.size := (Nat.le_trans Z0 K2.1)
  have o4 := O0.keep K2 (allS P6 all0)
  have g_b2_0 : n0 ≤ b2_0 := Nat.le_trans Z0 zz2_0
  show Rch p e below _ (T2.setTop (mkF m 10 #[.val (.ref x1), .val (.ref x2), .val (.ref x3), .val (.int (0 : Int32))] [(.ref b2_0)]))
  refine Rch.go (fun t k => XS.astoreN X2.here hx rfl (hb hby d21_10) rfl rfl (l' := #[.val (.ref x1), .val (.ref x2), .val (.ref b2_0), .val (.int (0 : Int32))]) rfl k) ?_
  show Rch p e below _ (T2.setTop (mkF m 11 #[.val (.ref x1), .val (.ref x2), .val (.ref b2_0), .val (.int (0 : Int32))] []))
  refine Rch.go (fun t k => XS.aloadN X2.here hx rfl (hb hby d21_11) rfl rfl k) ?_
  show Rch p e below _ (T2.setTop (mkF m 12 #[.val (.ref x1), .val (.ref x2), .val (.ref b2_0), .val (.int (0 : Int32))] [(.ref b2_0)]))
  refine Rch.go (fun t k => XS.iloadN X2.here hx rfl (hb hby d21_12) rfl  k) ?_
  show Rch p e below _ (T2.setTop (mkF m 13 #[.val (.ref x1), .val (.ref x2), .val (.ref b2_0), .val (.int (0 : Int32))] [(.int (0 : Int32)), (.ref b2_0)]))
  refine Rch.go (fun t k => XS.aloadN X2.here hx rfl (hb hby d21_13) rfl rfl k) ?_
  show Rch p e below _ (T2.setTop (mkF m 14 #[.val (.ref x1), .val (.ref x2), .val (.ref b2_0), .val (.int (0 : Int32))] [(.ref x2), (.int (0 : Int32)), (.ref b2_0)]))
  have f5 := (P8.keep K2)
  obtain ⟨c6, r6, q6, s6, u6, H6, G6⟩ := id F2_2
  obtain ⟨T7, h7, X7, e7, W7, st7⟩ := stR X2 hx hZ rfl r6 (j := (0 : Int32)) (inb_of s6 (by decide)) rfl (Sto.ofV r6 q6 O2_0 (Ins.of_exa f5 (wd_168 hw))) (g := (mkF m 14 #[.val (.ref x1), .val (.ref x2), .val (.ref b2_0), .val (.int (0 : Int32))] [(.ref x2), (.int (0 : Int32)), (.ref b2_0)])) rfl rfl (hb hby d21_14)
  refine Rch.go st7 ?_
  have V7 : Arv Z h7 b2_0 k2_0 (.object "java/lang/Object") (10 : Int32) [(.ref x2), .null, .null, .null, .null, .null, .null, .null, .null, .null] .null := Arv.set r6 q6 s6 u6 H6 G6 rfl W7 0 rfl (Nat.le_of_ble_eq_true rfl)
  have z8 : n0 ≤ h7.size := (Nat.le_trans z3 (Nat.le_of_eq W7.size.symm))
  have o9 := o4.wr W7 g_b2_0
  have N7 := Fr.snoc X7 N2 g_b2_0
  show Rch p e below _ (T7.setTop (mkF m 15 #[.val (.ref x1), .val (.ref x2), .val (.ref b2_0), .val (.int (0 : Int32))] []))
  refine Rch.go (fun t k => XS.aloadN X7.here hx rfl (hb hby d21_15) rfl rfl k) ?_
  show Rch p e below _ (T7.setTop (mkF m 16 #[.val (.ref x1), .val (.ref x2), .val (.ref b2_0), .val (.int (0 : Int32))] [(.ref x1)]))
  refine Rch.go (fun t k => XS.iloadN X7.here hx rfl (hb hby d21_16) rfl  k) ?_
  show Rch p e below _ (T7.setTop (mkF m 17 #[.val (.ref x1), .val (.ref x2), .val (.ref b2_0), .val (.int (0 : Int32))] [(.int (0 : Int32)), (.ref x1)]))
  refine Rch.go (fun t k => XS.iconst X7.here hx rfl (hb hby d21_17) k) ?_
  show Rch p e below _ (T7.setTop (mkF m 18 #[.val (.ref x1), .val (.ref x2), .val (.ref b2_0), .val (.int (0 : Int32))] [(.int (1 : Int32)), (.int (0 : Int32)), (.ref x1)]))
  refine Rch.go (fun t k => XS.iadd X7.here hx rfl (hb hby d21_18) rfl k) ?_
  show Rch p e below _ (T7.setTop (mkF m 19 #[.val (.ref x1), .val (.ref x2), .val (.ref b2_0), .val (.int (0 : Int32))] [(.int (1 : Int32)), (.ref x1)]))
  have lt11 := P2.lt
  have ne12 : x1 ≠ b2_0 := Nat.ne_of_lt (Nat.lt_of_lt_of_le lt11 zz2_0)
  have f13 := (F2_3.other W7 (Or.inl ne12))
  have f14 := ((P2.keep K2).wr W7)
  obtain ⟨T10, h10, X10, e10, W10, st10⟩ := putF X7 hx hZ hown (host := "") (Or.inl (wd_145 hw)) Via.refl e7 f13 f14 (Or.inl (wd_146 hw)) (wd_92 hw) (ty := .int) (by decide) rfl rfl (g := (mkF m 19 #[.val (.ref x1), .val (.ref x2), .val (.ref b2_0), .val (.int (0 : Int32))] [(.int (1 : Int32)), (.ref x1)])) rfl rfl (hb hby d21_19)
  refine Rch.go st10 ?_
  have z15 : n0 ≤ h10.size := (Nat.le_trans z8 (Nat.le_of_eq W10.size.symm))
  have o16 := o9.wr W10 P6
  have F10 := f13.same W10
  have N10 := Fr.snoc X10 N7 P6
  show Rch p e below _ (T10.setTop (mkF m 22 #[.val (.ref x1), .val (.ref x2), .val (.ref b2_0), .val (.int (0 : Int32))] []))
  have f17 := ((F2_0.other W7 (Or.inl ne12)).other W10 (Or.inr (slot_ne (Or.inl (wd_114 hw)) (Or.inl (wd_146 hw)) (by decide) (t := (.array (.object "java/lang/Object"))) (t' := .int) (by decide) (by decide))))
  have f18 := ((F2_1.wr W7).wr W10)
  have f19 := (V7.other W10 (Ne.symm ne12))
  have f20 := ((F2_4.other W7 (Or.inl ne12)).other W10 (Or.inr (slot_ne (Or.inl (wd_111 hw)) (Or.inl (wd_146 hw)) (by decide) (t := .int) (t' := .int) (by decide) (by decide))))
  refine Rch.void X10 hx hret hlk (hb hby d21_22) (by decide) (by decide) ?_
  try rw [e10]
  exact ⟨b2_0, k2_0, rfl, N10, ((((Keep.refl _ _).trans K2 (allS (Or.inl (List.mem_of_getElem? (i := 0) rfl)) all0)).wr W7 (Or.inr (Nat.le_trans (Nat.le_refl _) zz2_0))).wr W10 (Or.inl (List.mem_of_getElem? (i := 0) rfl))), (Nat.le_trans (Nat.le_refl _) zz2_0), O2_0, f17, f18, f19, F10, f20⟩
theorem wd_151 {Z : State} {a0 : Array Value} (hw : ∀ d ∈ tables_1, d.before a0 Z = true) : (Jvm.Cond.code ({ cls := "java/util/ArrayList", name := "add", desc := "(Ljava/lang/Object;[Ljava/lang/Object;I)V" } : Jvm.MethodName) jdk_38_method_24_code (4 : Nat) (Option.none : Option Jvm.ClassFile.FieldType)).before a0 Z = true := hw _ (List.mem_of_getElem? (i := 151) rfl)
theorem pd_15 : parseMethodDescriptor "(Ljava/lang/Object;[Ljava/lang/Object;I)V" = some ⟨[(.object "java/lang/Object"), (.array (.object "java/lang/Object")), .int], none⟩ := by decide +kernel
theorem wd_148 {Z : State} {a0 : Array Value} (hw : ∀ d ∈ tables_1, d.before a0 Z = true) : (Jvm.Cond.instanceMethod ({ cls := "java/util/ArrayList", name := "add", desc := "(Ljava/lang/Object;[Ljava/lang/Object;I)V" } : Jvm.MethodName)).before a0 Z = true := hw _ (List.mem_of_getElem? (i := 148) rfl)
theorem wd_150 {Z : State} {a0 : Array Value} (hw : ∀ d ∈ tables_1, d.before a0 Z = true) : (Jvm.Cond.selects "java/util/ArrayList" ({ cls := "java/util/ArrayList", name := "add", desc := "(Ljava/lang/Object;[Ljava/lang/Object;I)V" } : Jvm.MethodName) ({ cls := "java/util/ArrayList", name := "add", desc := "(Ljava/lang/Object;[Ljava/lang/Object;I)V" } : Jvm.MethodName)).before a0 Z = true := hw _ (List.mem_of_getElem? (i := 150) rfl)
theorem wd_149 {Z : State} {a0 : Array Value} (hw : ∀ d ∈ tables_1, d.before a0 Z = true) : (Jvm.Cond.privateMethod ({ cls := "java/util/ArrayList", name := "add", desc := "(Ljava/lang/Object;[Ljava/lang/Object;I)V" } : Jvm.MethodName)).before a0 Z = true := hw _ (List.mem_of_getElem? (i := 149) rfl)
theorem d20_23 : decode jdk_38_method_25_code 23 = .ok (.iconst 1, 1) := by decide +kernel
theorem d20_24 : decode jdk_38_method_25_code 24 = .ok (.ireturn, 1) := by decide +kernel
set_option maxRecDepth 65536 in
set_option maxHeartbeats 4000000 in
theorem ef_m21_add (m : MethodId) (x1 : Addr) (x2 : Addr) (x3 : Addr) (kk4 : ClassId) : entryFrame m #[(.ref x1), (.ref x2)] 2 = mkF m 0 #[.val (.ref x1), .val (.ref x2)] [] := by first | rfl | (simp [entryFrame, mkF, argsToLocals, Value.category]; done)
set_option maxRecDepth 65536 in
set_option maxHeartbeats 40000000 in
theorem m21_add (l : Launch) (Z : State) (a0 : Array Value) (hw : ∀ d ∈ tables_1, d.before a0 Z = true) (x1 : Addr) (x2 : Addr) (x3 : Addr) (kk4 : ClassId) (h0 : Heap) (n0 : Nat) (Z0 : n0 ≤ h0.size) (O0 : Old Z n0 h0) (P1 : Fld Z h0 x1 "java/util/AbstractList" "modCount" "I" (.int (0 : Int32))) (P2 : Exa Z h0 x1 "java/util/ArrayList") (P3 : n0 ≤ x1) (P4 : Fld Z h0 x1 "java/util/ArrayList" "elementData" "[Ljava/lang/Object;" (.ref x3)) (P5 : Fld Z h0 x1 "java/util/ArrayList" "size" "I" (.int (0 : Int32))) (P6 : Arv Z Z.heap x3 kk4 (.object "java/lang/Object") (0 : Int32) [] .null) (P7 : Sta Z Z.heap "java/util/ArrayList" "DEFAULTCAPACITY_EMPTY_ELEMENTDATA" "[Ljava/lang/Object;" (.ref x3)) (P8 : Exa Z h0 x2 "java/lang/String") :
    Ctr l Z [] (⟨"java/util/ArrayList", "add", "(Ljava/lang/Object;)Z"⟩ : MethodName) jdk_38_method_25_code 2 (some .boolean) #[(.ref x1), (.ref x2)] h0 ({ frames := 4, cells := 1, slots := 10, locals := 56 } : Room) (fun v h L => ∃ (b11_0 : Addr) (k11_0 : ClassId), v = some (.int (1 : Int32)) ∧ Fr n0 L ∧ Keep h0 h [x1] ∧ h0.size ≤ b11_0 ∧ Ovr Z k11_0 "java/lang/Object" ∧ Fld Z h x1 "java/util/ArrayList" "elementData" "[Ljava/lang/Object;" (.ref b11_0) ∧ Exa Z h b11_0 "[Ljava/lang/Object;" ∧ Arv Z h b11_0 k11_0 (.object "java/lang/Object") (10 : Int32) [(.ref x2), .null, .null, .null, .null, .null, .null, .null, .null, .null] .null ∧ Fld Z h x1 "java/util/ArrayList" "size" "I" (.int (1 : Int32)) ∧ Fld Z h x1 "java/util/AbstractList" "modCount" "I" (.int (1 : Int32))) := by
  refine Ctr.of (plainFor_of_name pn_java_util_ArrayList) (fun m => ef_m21_add m x1 x2 x3 kk4) ?_
  intro p e s m below meth c T0 hx hZ hby hml hown hnm hret hlk X0 e0
  have N0 := Fr.nil n0
  show Rch p e below _ (T0.setTop (mkF m 0 #[.val (.ref x1), .val (.ref x2)] []))
  refine Rch.go (fun t k => XS.aloadN X0.here hx rfl (hb hby d20_0) rfl rfl k) ?_
  show Rch p e below _ (T0.setTop (mkF m 1 #[.val (.ref x1), .val (.ref x2)] [(.ref x1)]))
  refine Rch.go (fun t k => XS.dup X0.here hx rfl (hb hby d20_1) rfl rfl k) ?_
  show Rch p e below _ (T0.setTop (mkF m 2 #[.val (.ref x1), .val (.ref x2)] [(.ref x1), (.ref x1)]))
  obtain ⟨T1, X1, e1, st1⟩ := getF X0 hx hZ hown (host := "") (Or.inl (wd_143 hw)) (Via.of (wd_144 hw)) e0 P1 (g := (mkF m 2 #[.val (.ref x1), .val (.ref x2)] [(.ref x1), (.ref x1)])) rfl rfl (hb hby d20_2)
  refine Rch.go st1 ?_
  show Rch p e below _ (T1.setTop (mkF m 5 #[.val (.ref x1), .val (.ref x2)] [(.int (0 : Int32)), (.ref x1)]))
  refine Rch.go (fun t k => XS.iconst X1.here hx rfl (hb hby d20_5) k) ?_
  show Rch p e below _ (T1.setTop (mkF m 6 #[.val (.ref x1), .val (.ref x2)] [(.int (1 : Int32)), (.int (0 : Int32)), (.ref x1)]))
  refine Rch.go (fun t k => XS.iadd X1.here hx rfl (hb hby d20_6) rfl k) ?_
  show Rch p e below _ (T1.setTop (mkF m 7 #[.val (.ref x1), .val (.ref x2)] [(.int (1 : Int32)), (.ref x1)]))
  obtain ⟨T2, h2, X2, e2, W2, st2⟩ := putF X1 hx hZ hown (host := "") (Or.inl (wd_143 hw)) (Via.of (wd_144 hw)) e1 P1 P2 (Or.inl (wd_111 hw)) (wd_92 hw) (ty := .int) (by decide) rfl rfl (g := (mkF m 7 #[.val (.ref x1), .val (.ref x2)] [(.int (1 : Int32)), (.ref x1)])) rfl rfl (hb hby d20_7)
  refine Rch.go st2 ?_
  have z3 : n0 ≤ h2.size := (Nat.le_trans Z0 (Nat.le_of_eq W2.size.symm))
  have o4 := O0.wr W2 P3
  have F2 := P1.same W2
  have N2 := Fr.snoc X2 N0 P3
  show Rch p e below _ (T2.setTop (mkF m 10 #[.val (.ref x1), .val (.ref x2)] []))
  refine Rch.go (fun t k => XS.aloadN X2.here hx rfl (hb hby d20_10) rfl rfl k) ?_
  show Rch p e below _ (T2.setTop (mkF m 11 #[.val (.ref x1), .val (.ref x2)] [(.ref x1)]))
  refine Rch.go (fun t k => XS.aloadN X2.here hx rfl (hb hby d20_11) rfl rfl k) ?_
  show Rch p e below _ (T2.setTop (mkF m 12 #[.val (.ref x1), .val (.ref x2)] [(.ref x2), (.ref x1)]))
  refine Rch.go (fun t k => XS.aloadN X2.here hx rfl (hb hby d20_12) rfl rfl k) ?_
  show Rch p e below _ (T2.setTop (mkF m 13 #[.val (.ref x1), .val (.ref x2)] [(.ref x1), (.ref x2), (.ref x1)]))
  have f6 := (P4.other W2 (Or.inr (slot_ne (Or.inl (wd_114 hw)) (Or.inl (wd_111 hw)) (by decide) (t := (.array (.object "java/lang/Object"))) (t' := .int) (by decide) (by decide))))
  obtain ⟨T5, X5, e5, st5⟩ := getF X2 hx hZ hown (host := "") (Or.inl (wd_113 hw)) Via.refl e2 f6 (g := (mkF m 13 #[.val (.ref x1), .val (.ref x2)] [(.ref x1), (.ref x2), (.ref x1)])) rfl rfl (hb hby d20_13)
  refine Rch.go st5 ?_
  show Rch p e below _ (T5.setTop (mkF m 16 #[.val (.ref x1), .val (.ref x2)] [(.ref x3), (.ref x2), (.ref x1)]))
  refine Rch.go (fun t k => XS.aloadN X5.here hx rfl (hb hby d20_16) rfl rfl k) ?_
  show Rch p e below _ (T5.setTop (mkF m 17 #[.val (.ref x1), .val (.ref x2)] [(.ref x1), (.ref x3), (.ref x2), (.ref x1)]))
  have f8 := (P5.other W2 (Or.inr (slot_ne (Or.inl (wd_146 hw)) (Or.inl (wd_111 hw)) (by decide) (t := .int) (t' := .int) (by decide) (by decide))))
  obtain ⟨T7, X7, e7, st7⟩ := getF X5 hx hZ hown (host := "") (Or.inl (wd_145 hw)) Via.refl e5 f8 (g := (mkF m 17 #[.val (.ref x1), .val (.ref x2)] [(.ref x1), (.ref x3), (.ref x2), (.ref x1)])) rfl rfl (hb hby d20_17)
  refine Rch.go st7 ?_
  show Rch p e below _ (T7.setTop (mkF m 20 #[.val (.ref x1), .val (.ref x2)] [(.int (0 : Int32)), (.ref x3), (.ref x2), (.ref x1)]))
  have f9 := (P2.wr W2)
  have f10 := (P8.wr W2)
  obtain ⟨v11, T11, L11, X11, Q11, st11⟩ := callPr X7 hx hZ (m22_add l Z a0 hw x1 x2 x3 kk4 h2 n0 z3 o4 P6 f9 f8 f6 P7 P3 F2 f10) e7 hown (wd_147 hw) (wd_148 hw) (wd_150 hw) (wd_149 hw) (wd_151 hw) (wd_93 hw) (by decide) (hb hby d20_20) 0 (by decide) (by decide) (by decide) (by decide) (by rw [hml]; rfl) x1 f9 [(.ref x2), (.ref x3), (.int (0 : Int32))] [] rfl (lenOf pd_15 rfl) rfl (Nat.le_of_eq rfl) (Ls := #[.val (.ref x1), .val (.ref x2)])
  obtain ⟨b11_0, k11_0, rfl, M11, K11, zz11_0, O11_0, F11_0, F11_1, F11_2, F11_3, F11_4⟩ := Q11
  have N11 := Fr.app N2 M11
  refine Rch.go st11 ?_
  have z12 : n0 ≤ T11.heap.size := (Nat.le_trans z3 K11.1)
  have o13 := o4.keep K11 (allS P3 all0)
  have g_b11_0 : n0 ≤ b11_0 := Nat.le_trans z3 zz11_0
  show Rch p e below _ (T11.setTop (mkF m 23 #[.val (.ref x1), .val (.ref x2)] []))
  refine Rch.go (fun t k => XS.iconst X11.here hx rfl (hb hby d20_23) k) ?_
  show Rch p e below _ (T11.setTop (mkF m 24 #[.val (.ref x1), .val (.ref x2)] [(.int (1 : Int32))]))
  refine Rch.val X11 hx (t := .boolean) hret hlk rfl (mayI (by simp)) (hb hby d20_24) (by decide) (by decide) ?_
  exact ⟨b11_0, k11_0, rfl, N11, (((Keep.refl _ _).wr W2 (Or.inl (List.mem_of_getElem? (i := 0) rfl))).trans K11 (allS (Or.inl (List.mem_of_getElem? (i := 0) rfl)) all0)), (Nat.le_trans (Nat.le_trans (Nat.le_refl _) (Nat.le_of_eq W2.size.symm)) zz11_0), O11_0, F11_0, F11_1, F11_2, F11_3, F11_4⟩
theorem wd_142 {Z : State} {a0 : Array Value} (hw : ∀ d ∈ tables_1, d.before a0 Z = true) : (Jvm.Cond.code ({ cls := "java/util/ArrayList", name := "add", desc := "(Ljava/lang/Object;)Z" } : Jvm.MethodName) jdk_38_method_25_code (2 : Nat) (Option.some Jvm.ClassFile.FieldType.boolean)).before a0 Z = true := hw _ (List.mem_of_getElem? (i := 142) rfl)
theorem pd_16 : parseMethodDescriptor "(Ljava/lang/Object;)Z" = some ⟨[(.object "java/lang/Object")], some .boolean⟩ := by decide +kernel
theorem wd_135 {Z : State} {a0 : Array Value} (hw : ∀ d ∈ tables_1, d.before a0 Z = true) : (Jvm.Cond.declares ({ cls := "java/util/List", name := "add", desc := "(Ljava/lang/Object;)Z" } : Jvm.MethodName)).before a0 Z = true := hw _ (List.mem_of_getElem? (i := 135) rfl)
theorem wd_136 {Z : State} {a0 : Array Value} (hw : ∀ d ∈ tables_1, d.before a0 Z = true) : (Jvm.Cond.interfaceMethod "java/util/List" "java/util/List" "add" "(Ljava/lang/Object;)Z").before a0 Z = true := hw _ (List.mem_of_getElem? (i := 136) rfl)
theorem wd_137 {Z : State} {a0 : Array Value} (hw : ∀ d ∈ tables_1, d.before a0 Z = true) : (Jvm.Cond.selects "java/util/ArrayList" ({ cls := "java/util/List", name := "add", desc := "(Ljava/lang/Object;)Z" } : Jvm.MethodName) ({ cls := "java/util/ArrayList", name := "add", desc := "(Ljava/lang/Object;)Z" } : Jvm.MethodName)).before a0 Z = true := hw _ (List.mem_of_getElem? (i := 137) rfl)
theorem wd_138 {Z : State} {a0 : Array Value} (hw : ∀ d ∈ tables_1, d.before a0 Z = true) : (Jvm.Cond.instanceMethod ({ cls := "java/util/ArrayList", name := "add", desc := "(Ljava/lang/Object;)Z" } : Jvm.MethodName)).before a0 Z = true := hw _ (List.mem_of_getElem? (i := 138) rfl)
theorem wd_139 {Z : State} {a0 : Array Value} (hw : ∀ d ∈ tables_1, d.before a0 Z = true) : (Jvm.Cond.publicMethod ({ cls := "java/util/ArrayList", name := "add", desc := "(Ljava/lang/Object;)Z" } : Jvm.MethodName)).before a0 Z = true := hw _ (List.mem_of_getElem? (i := 139) rfl)
theorem wd_140 {Z : State} {a0 : Array Value} (hw : ∀ d ∈ tables_1, d.before a0 Z = true) : (Jvm.Cond.unhidden "java/util/ArrayList" "add" "(Ljava/lang/Object;)Z").before a0 Z = true := hw _ (List.mem_of_getElem? (i := 140) rfl)
theorem wd_141 {Z : State} {a0 : Array Value} (hw : ∀ d ∈ tables_1, d.before a0 Z = true) : (Jvm.Cond.castable "java/util/ArrayList" "java/util/List").before a0 Z = true := hw _ (List.mem_of_getElem? (i := 141) rfl)
theorem d17_17 : decode prog_9_method_7_code 17 = .ok (.pop, 1) := by decide +kernel
theorem d17_18 : decode prog_9_method_7_code 18 = .ok (.goto 40, 3) := by decide +kernel
theorem d17_58 : decode prog_9_method_7_code 58 = .ok (.return_, 1) := by decide +kernel
set_option maxRecDepth 65536 in
set_option maxHeartbeats 4000000 in
theorem ef_m18_addLeaves (m : MethodId) (x1 : Addr) (x2 : Addr) (x3 : Addr) (x4 : Addr) (kk5 : ClassId) (x6 : Addr) (x7 : Addr) (kk8 : ClassId) : entryFrame m #[(.ref x1), (.ref x2)] 4 = mkF m 0 #[.val (.ref x1), .val (.ref x2), .unset, .unset] [] := by first | rfl | (simp [entryFrame, mkF, argsToLocals, Value.category]; done)
set_option maxRecDepth 65536 in
set_option maxHeartbeats 40000000 in
theorem m18_addLeaves (l : Launch) (Z : State) (a0 : Array Value) (hw : ∀ d ∈ tables_1, d.before a0 Z = true) (x1 : Addr) (x2 : Addr) (x3 : Addr) (x4 : Addr) (kk5 : ClassId) (x6 : Addr) (x7 : Addr) (kk8 : ClassId) (h0 : Heap) (n0 : Nat) (Z0 : n0 ≤ h0.size) (O0 : Old Z n0 h0) (P1 : Exa Z h0 x1 "com/example/harpocrates/harpocrates/data/Taxonomy") (P2 : Fld Z h0 x1 "com/example/harpocrates/harpocrates/data/Taxonomy" "children" "Ljava/util/List;" (.ref x3)) (P3 : Exa Z Z.heap x3 "java/util/ImmutableCollections$ListN") (P4 : Fld Z Z.heap x3 "java/util/ImmutableCollections$ListN" "elements" "[Ljava/lang/Object;" (.ref x4)) (P5 : Arv Z Z.heap x4 kk5 (.object "java/lang/Object") (0 : Int32) [] .null) (P6 : Fld Z h0 x1 "com/example/harpocrates/harpocrates/data/Taxonomy" "value" "Ljava/lang/String;" (.ref x6)) (P7 : Exa Z h0 x2 "java/util/ArrayList") (P8 : Fld Z h0 x2 "java/util/AbstractList" "modCount" "I" (.int (0 : Int32))) (P9 : n0 ≤ x2) (P10 : Fld Z h0 x2 "java/util/ArrayList" "elementData" "[Ljava/lang/Object;" (.ref x7)) (P11 : Fld Z h0 x2 "java/util/ArrayList" "size" "I" (.int (0 : Int32))) (P12 : Arv Z Z.heap x7 kk8 (.object "java/lang/Object") (0 : Int32) [] .null) (P13 : Sta Z Z.heap "java/util/ArrayList" "DEFAULTCAPACITY_EMPTY_ELEMENTDATA" "[Ljava/lang/Object;" (.ref x7)) (P14 : Exa Z h0 x6 "java/lang/String") :
    Ctr l Z [] (⟨"com/example/harpocrates/harpocrates/data/Taxonomy", "addLeaves", "(Lcom/example/harpocrates/harpocrates/data/Taxonomy;Ljava/util/List;)V"⟩ : MethodName) prog_9_method_7_code 4 none #[(.ref x1), (.ref x2)] h0 ({ frames := 5, cells := 1, slots := 10, locals := 69 } : Room) (fun v h L => ∃ (b3_0 : Addr) (k3_0 : ClassId), v = none ∧ Fr n0 L ∧ Keep h0 h [x2] ∧ h0.size ≤ b3_0 ∧ Ovr Z k3_0 "java/lang/Object" ∧ Fld Z h x2 "java/util/ArrayList" "elementData" "[Ljava/lang/Object;" (.ref b3_0) ∧ Exa Z h b3_0 "[Ljava/lang/Object;" ∧ Arv Z h b3_0 k3_0 (.object "java/lang/Object") (10 : Int32) [(.ref x6), .null, .null, .null, .null, .null, .null, .null, .null, .null] .null ∧ Fld Z h x2 "java/util/ArrayList" "size" "I" (.int (1 : Int32)) ∧ Fld Z h x2 "java/util/AbstractList" "modCount" "I" (.int (1 : Int32))) := by
  refine Ctr.of (plainFor_of_name pn_com_example_harpocrates_harpocrates_data_Taxonomy) (fun m => ef_m18_addLeaves m x1 x2 x3 x4 kk5 x6 x7 kk8) ?_
  intro p e s m below meth c T0 hx hZ hby hml hown hnm hret hlk X0 e0
  have N0 := Fr.nil n0
  show Rch p e below _ (T0.setTop (mkF m 0 #[.val (.ref x1), .val (.ref x2), .unset, .unset] []))
  refine Rch.go (fun t k => XS.aloadN X0.here hx rfl (hb hby d17_0) rfl rfl k) ?_
  show Rch p e below _ (T0.setTop (mkF m 1 #[.val (.ref x1), .val (.ref x2), .unset, .unset] [(.ref x1)]))
  obtain ⟨v1, T1, L1, X1, Q1, st1⟩ := callVi X0 hx hZ (m19_isLeaf l Z a0 hw x1 x3 x4 kk5 h0 n0 Z0 O0 P2 P3 P4 P5) e0 hown (wd_118 hw) (wd_119 hw) (wd_121 hw) (notFace_of_selects (args := #[]) (mvT hZ (wd_121 hw))) (wd_120 hw) (wd_122 hw) (wd_33 hw) (by decide) (hb hby d17_1) 0 (by decide) (by decide) (by decide) (by decide) (by rw [hml]; rfl) x1 P1 [] [] rfl (lenOf pd_8 rfl) rfl (Nat.le_of_eq rfl) (Ls := #[.val (.ref x1), .val (.ref x2), .unset, .unset])
  obtain ⟨rfl, M1, e1⟩ := Q1
  have N1 := Fr.app N0 M1
  refine Rch.go st1 ?_
  show Rch p e below _ (T1.setTop (mkF m 4 #[.val (.ref x1), .val (.ref x2), .unset, .unset] [(.int (1 : Int32))]))
  refine Rch.go (fun t k => XS.ifNo X1.here hx rfl (hb hby d17_4) rfl (by decide) k) ?_
  show Rch p e below _ (T1.setTop (mkF m 7 #[.val (.ref x1), .val (.ref x2), .unset, .unset] []))
  refine Rch.go (fun t k => XS.aloadN X1.here hx rfl (hb hby d17_7) rfl rfl k) ?_
  show Rch p e below _ (T1.setTop (mkF m 8 #[.val (.ref x1), .val (.ref x2), .unset, .unset] [(.ref x2)]))
  refine Rch.go (fun t k => XS.aloadN X1.here hx rfl (hb hby d17_8) rfl rfl k) ?_
  show Rch p e below _ (T1.setTop (mkF m 9 #[.val (.ref x1), .val (.ref x2), .unset, .unset] [(.ref x1), (.ref x2)]))
  obtain ⟨T2, X2, e2, st2⟩ := getF X1 hx hZ hown (host := "") (Or.inl (wd_82 hw)) Via.refl e1 P6 (g := (mkF m 9 #[.val (.ref x1), .val (.ref x2), .unset, .unset] [(.ref x1), (.ref x2)])) rfl rfl (hb hby d17_9)
  refine Rch.go st2 ?_
  show Rch p e below _ (T2.setTop (mkF m 12 #[.val (.ref x1), .val (.ref x2), .unset, .unset] [(.ref x6), (.ref x2)]))
  obtain ⟨v3, T3, L3, X3, Q3, st3⟩ := callIf X2 hx hZ (m21_add l Z a0 hw x2 x6 x7 kk8 h0 n0 Z0 O0 P8 P7 P9 P10 P11 P12 P13 P14) e2 hown (wd_134 hw) (wd_135 hw) (wd_136 hw) (wd_137 hw) (wd_138 hw) (wd_139 hw) (wd_140 hw) (wd_141 hw) (wd_142 hw) (wd_93 hw) (by decide) (hb hby d17_12) 0 (by decide) (by decide) (by decide) (by decide) (by rw [hml]; rfl) x2 P7 [(.ref x6)] [] rfl (lenOf pd_16 rfl) rfl (Nat.le_of_eq rfl) (Ls := #[.val (.ref x1), .val (.ref x2), .unset, .unset])
  obtain ⟨b3_0, k3_0, rfl, M3, K3, zz3_0, O3_0, F3_0, F3_1, F3_2, F3_3, F3_4⟩ := Q3
  have N3 := Fr.app N1 M3
  refine Rch.go st3 ?_
  have z4 : n0 ≤ T3.heap.size := (Nat.le_trans Z0 K3.1)
  have o5 := O0.keep K3 (allS P9 all0)
  have g_b3_0 : n0 ≤ b3_0 := Nat.le_trans Z0 zz3_0
  show Rch p e below _ (T3.setTop (mkF m 17 #[.val (.ref x1), .val (.ref x2), .unset, .unset] [(.int (1 : Int32))]))
  refine Rch.go (fun t k => XS.pop X3.here hx rfl (hb hby d17_17) rfl rfl k) ?_
  show Rch p e below _ (T3.setTop (mkF m 18 #[.val (.ref x1), .val (.ref x2), .unset, .unset] []))
  refine Rch.go (fun t k => XS.goto X3.here hx rfl (pc0 := 18) (pc' := 58) rfl (hb hby d17_18) (by decide) (by decide) k) ?_
  show Rch p e below _ (T3.setTop (mkF m 58 #[.val (.ref x1), .val (.ref x2), .unset, .unset] []))
  refine Rch.void X3 hx hret hlk (hb hby d17_58) (by decide) (by decide) ?_
  exact ⟨b3_0, k3_0, rfl, N3, ((Keep.refl _ _).trans K3 (allS (Or.inl (List.mem_of_getElem? (i := 0) rfl)) all0)), (Nat.le_trans (Nat.le_refl _) zz3_0), O3_0, F3_0, F3_1, F3_2, F3_3, F3_4⟩
theorem wd_117 {Z : State} {a0 : Array Value} (hw : ∀ d ∈ tables_1, d.before a0 Z = true) : (Jvm.Cond.code ({ cls := "com/example/harpocrates/harpocrates/data/Taxonomy", name := "addLeaves", desc := "(Lcom/example/harpocrates/harpocrates/data/Taxonomy;Ljava/util/List;)V" } : Jvm.MethodName) prog_9_method_7_code (4 : Nat) (Option.none : Option Jvm.ClassFile.FieldType)).before a0 Z = true := hw _ (List.mem_of_getElem? (i := 117) rfl)
theorem pd_17 : parseMethodDescriptor "(Lcom/example/harpocrates/harpocrates/data/Taxonomy;Ljava/util/List;)V" = some ⟨[(.object "com/example/harpocrates/harpocrates/data/Taxonomy"), (.object "java/util/List")], none⟩ := by decide +kernel
theorem wd_116 {Z : State} {a0 : Array Value} (hw : ∀ d ∈ tables_1, d.before a0 Z = true) : (Jvm.Cond.static ({ cls := "com/example/harpocrates/harpocrates/data/Taxonomy", name := "addLeaves", desc := "(Lcom/example/harpocrates/harpocrates/data/Taxonomy;Ljava/util/List;)V" } : Jvm.MethodName)).before a0 Z = true := hw _ (List.mem_of_getElem? (i := 116) rfl)
theorem d13_13 : decode prog_9_method_4_code 13 = .ok (.aload_n 1, 1) := by decide +kernel
theorem d13_14 : decode prog_9_method_4_code 14 = .ok (.areturn, 1) := by decide +kernel
set_option maxRecDepth 65536 in
set_option maxHeartbeats 4000000 in
theorem ef_m14_leaves (m : MethodId) (x1 : Addr) (x2 : Addr) (x3 : Addr) (x4 : Addr) (kk5 : ClassId) (x6 : Addr) (kk7 : ClassId) : entryFrame m #[(.ref x1)] 2 = mkF m 0 #[.val (.ref x1), .unset] [] := by first | rfl | (simp [entryFrame, mkF, argsToLocals, Value.category]; done)
set_option maxRecDepth 65536 in
set_option maxHeartbeats 40000000 in
theorem m14_leaves (l : Launch) (Z : State) (a0 : Array Value) (hw : ∀ d ∈ tables_1, d.before a0 Z = true) (x1 : Addr) (x2 : Addr) (x3 : Addr) (x4 : Addr) (kk5 : ClassId) (x6 : Addr) (kk7 : ClassId) (h0 : Heap) (n0 : Nat) (Z0 : n0 ≤ h0.size) (O0 : Old Z n0 h0) (P1 : Sta Z Z.heap "java/util/ArrayList" "DEFAULTCAPACITY_EMPTY_ELEMENTDATA" "[Ljava/lang/Object;" (.ref x2)) (P2 : Exa Z h0 x1 "com/example/harpocrates/harpocrates/data/Taxonomy") (P3 : Fld Z h0 x1 "com/example/harpocrates/harpocrates/data/Taxonomy" "children" "Ljava/util/List;" (.ref x3)) (P4 : Exa Z Z.heap x3 "java/util/ImmutableCollections$ListN") (P5 : Fld Z Z.heap x3 "java/util/ImmutableCollections$ListN" "elements" "[Ljava/lang/Object;" (.ref x4)) (P6 : Arv Z Z.heap x4 kk5 (.object "java/lang/Object") (0 : Int32) [] .null) (P7 : Fld Z h0 x1 "com/example/harpocrates/harpocrates/data/Taxonomy" "value" "Ljava/lang/String;" (.ref x6)) (P8 : Arv Z Z.heap x2 kk7 (.object "java/lang/Object") (0 : Int32) [] .null) (P9 : Exa Z h0 x6 "java/lang/String") :
    Ctr l Z [] (⟨"com/example/harpocrates/harpocrates/data/Taxonomy", "leaves", "()Ljava/util/List;"⟩ : MethodName) prog_9_method_4_code 2 (some (.object "java/util/List")) #[(.ref x1)] h0 ({ frames := 6, cells := 2, slots := 13, locals := 84 } : Room) (fun v h L => ∃ (b1 : Addr) (b14_0 : Addr) (k14_0 : ClassId), v = some (.ref b1) ∧ Fr n0 L ∧ Keep h0 h [] ∧ h0.size ≤ b1 ∧ h0.size ≤ b14_0 ∧ Ovr Z k14_0 "java/lang/Object" ∧ Exa Z h b1 "java/util/ArrayList" ∧ Fld Z h b1 "java/util/ArrayList" "elementData" "[Ljava/lang/Object;" (.ref b14_0) ∧ Exa Z h b14_0 "[Ljava/lang/Object;" ∧ Arv Z h b14_0 k14_0 (.object "java/lang/Object") (10 : Int32) [(.ref x6), .null, .null, .null, .null, .null, .null, .null, .null, .null] .null ∧ Fld Z h b1 "java/util/ArrayList" "size" "I" (.int (1 : Int32)) ∧ Fld Z h b1 "java/util/AbstractList" "modCount" "I" (.int (1 : Int32))) := by
  refine Ctr.of (plainFor_of_name pn_com_example_harpocrates_harpocrates_data_Taxonomy) (fun m => ef_m14_leaves m x1 x2 x3 x4 kk5 x6 kk7) ?_
  intro p e s m below meth c T0 hx hZ hby hml hown hnm hret hlk X0 e0
  have N0 := Fr.nil n0
  show Rch p e below _ (T0.setTop (mkF m 0 #[.val (.ref x1), .unset] []))
  obtain ⟨T1, h1, X1, e1, E1, A1, D1, -, st1⟩ := newO X0 hx hZ hown (wd_91 hw) (wd_92 hw) (wd_93 hw) e0 (g := (mkF m 0 #[.val (.ref x1), .unset] [])) rfl (hb hby d13_0) (by decide) (by decide)
  obtain ⟨b1, g1⟩ : ∃ z, z = h0.size := ⟨_, rfl⟩
  rw [← g1] at A1 D1 st1
  refine Rch.go st1 ?_
  have z2 : n0 ≤ h1.size := (Nat.le_trans Z0 E1.1)
  have o3 := O0.ext E1
  have g_b1 : n0 ≤ b1 := Nat.le_trans Z0 (Nat.le_of_eq g1.symm)
  have F1_modCount : Fld Z h1 b1 "java/util/AbstractList" "modCount" "I" (.int (0 : Int32)) := (D1 (Or.inl (wd_111 hw)) (ty := .int) (by decide))
  have F1_elementData : Fld Z h1 b1 "java/util/ArrayList" "elementData" "[Ljava/lang/Object;" .null := (D1 (Or.inl (wd_114 hw)) (ty := (.array (.object "java/lang/Object"))) (by decide))
  have F1_size : Fld Z h1 b1 "java/util/ArrayList" "size" "I" (.int (0 : Int32)) := (D1 (Or.inl (wd_146 hw)) (ty := .int) (by decide))
  show Rch p e below _ (T1.setTop (mkF m 3 #[.val (.ref x1), .unset] [(.ref b1)]))
  refine Rch.go (fun t k => XS.dup X1.here hx rfl (hb hby d13_3) rfl rfl k) ?_
  show Rch p e below _ (T1.setTop (mkF m 4 #[.val (.ref x1), .unset] [(.ref b1), (.ref b1)]))
  obtain ⟨v4, T4, L4, X4, Q4, st4⟩ := callSp X1 hx hZ (m15_init l Z a0 hw b1 x2 h1 n0 z2 o3 A1 F1_modCount g_b1 F1_elementData F1_size P1) e1 hown rfl (wd_94 hw) (wd_95 hw) (wd_96 hw) (wd_93 hw) (by decide) (hb hby d13_4) 1 (by decide) (by decide) (by decide) (by decide) (by rw [hml]; rfl) b1 [] [(.ref b1)] rfl (lenOf pd_6 rfl) rfl (Nat.le_of_eq rfl) (Ls := #[.val (.ref x1), .unset])
  obtain ⟨rfl, M4, K4, F4_0, F4_1, F4_2⟩ := Q4
  have N4 := Fr.app N0 M4
  refine Rch.go st4 ?_
  have z5 : n0 ≤ T4.heap.size := (Nat.le_trans z2 K4.1)
  have o6 := o3.keep K4 (allS g_b1 all0)
  show Rch p e below _ (T4.setTop (mkF m 7 #[.val (.ref x1), .unset] [(.ref b1)]))
  refine Rch.go (fun t k => XS.astoreN X4.here hx rfl (hb hby d13_7) rfl rfl (l' := #[.val (.ref x1), .val (.ref b1)]) rfl k) ?_
  show Rch p e below _ (T4.setTop (mkF m 8 #[.val (.ref x1), .val (.ref b1)] []))
  refine Rch.go (fun t k => XS.aloadN X4.here hx rfl (hb hby d13_8) rfl rfl k) ?_
  show Rch p e below _ (T4.setTop (mkF m 9 #[.val (.ref x1), .val (.ref b1)] [(.ref x1)]))
  refine Rch.go (fun t k => XS.aloadN X4.here hx rfl (hb hby d13_9) rfl rfl k) ?_
  show Rch p e below _ (T4.setTop (mkF m 10 #[.val (.ref x1), .val (.ref b1)] [(.ref b1), (.ref x1)]))
  have f7 := ((P2.ext E1).keep K4)
  have lt8 := P2.lt
  have ne9 : x1 ≠ b1 := Nat.ne_of_lt (Nat.lt_of_lt_of_le lt8 (Nat.le_of_eq g1.symm))
  have f10 := ((P3.ext E1).keep K4 (ninS ne9 nin0))
  have f11 := ((P7.ext E1).keep K4 (ninS ne9 nin0))
  have f12 := (A1.keep K4)
  have f13 := ((P9.ext E1).keep K4)
  obtain ⟨v14, T14, L14, X14, Q14, st14⟩ := callSt X4 hx hZ (m18_addLeaves l Z a0 hw x1 b1 x3 x4 kk5 x6 x2 kk7 T4.heap n0 z5 o6 f7 f10 P4 P5 P6 f11 f12 F4_0 g_b1 F4_1 F4_2 P8 P1 f13) rfl hown (wd_115 hw) (wd_116 hw) (wd_117 hw) (wd_33 hw) (by decide) (hb hby d13_10) 0 (by decide) (by decide) (by decide) (by decide) (by rw [hml]; rfl) [(.ref x1), (.ref b1)] [] rfl (lenOf pd_17 rfl) rfl (Nat.le_of_eq rfl) (Ls := #[.val (.ref x1), .val (.ref b1)])
  obtain ⟨b14_0, k14_0, rfl, M14, K14, zz14_0, O14_0, F14_0, F14_1, F14_2, F14_3, F14_4⟩ := Q14
  have N14 := Fr.app N4 M14
  refine Rch.go st14 ?_
  have z15 : n0 ≤ T14.heap.size := (Nat.le_trans z5 K14.1)
  have o16 := o6.keep K14 (allS g_b1 all0)
  have g_b14_0 : n0 ≤ b14_0 := Nat.le_trans z5 zz14_0
  show Rch p e below _ (T14.setTop (mkF m 13 #[.val (.ref x1), .val (.ref b1)] []))
  refine Rch.go (fun t k => XS.aloadN X14.here hx rfl (hb hby d13_13) rfl rfl k) ?_
  show Rch p e below _ (T14.setTop (mkF m 14 #[.val (.ref x1), .val (.ref b1)] [(.ref b1)]))
  have f17 := (f12.keep K14)
  refine Rch.val X14 hx (t := (.object "java/util/List")) hret hlk rfl (Or.inr (Or.inr (Or.inr (Or.inr ⟨rfl, rfl, rfl⟩)))) (hb hby d13_14) (by decide) (by decide) ?_
  exact ⟨b1, b14_0, k14_0, rfl, N14, ((((Keep.refl _ _).ext E1).trans K4 (allS (Or.inr (Nat.le_trans (Nat.le_refl _) (Nat.le_of_eq g1.symm))) all0)).trans K14 (allS (Or.inr (Nat.le_trans (Nat.le_refl _) (Nat.le_of_eq g1.symm))) all0)), (Nat.le_trans (Nat.le_refl _) (Nat.le_of_eq g1.symm)), (Nat.le_trans (Nat.le_trans (Nat.le_trans (Nat.le_refl _) E1.1) K4.1) zz14_0), O14_0, f17, F14_0, F14_1, F14_2, F14_3, F14_4⟩
theorem wd_90 {Z : State} {a0 : Array Value} (hw : ∀ d ∈ tables_1, d.before a0 Z = true) : (Jvm.Cond.code ({ cls := "com/example/harpocrates/harpocrates/data/Taxonomy", name := "leaves", desc := "()Ljava/util/List;" } : Jvm.MethodName) prog_9_method_4_code (2 : Nat) (Option.some (Jvm.ClassFile.FieldType.object "java/util/List"))).before a0 Z = true := hw _ (List.mem_of_getElem? (i := 90) rfl)
theorem wd_89 {Z : State} {a0 : Array Value} (hw : ∀ d ∈ tables_1, d.before a0 Z = true) : (Jvm.Cond.selects "com/example/harpocrates/harpocrates/data/Taxonomy" ({ cls := "com/example/harpocrates/harpocrates/data/Taxonomy", name := "leaves", desc := "()Ljava/util/List;" } : Jvm.MethodName) ({ cls := "com/example/harpocrates/harpocrates/data/Taxonomy", name := "leaves", desc := "()Ljava/util/List;" } : Jvm.MethodName)).before a0 Z = true := hw _ (List.mem_of_getElem? (i := 89) rfl)
theorem wd_87 {Z : State} {a0 : Array Value} (hw : ∀ d ∈ tables_1, d.before a0 Z = true) : (Jvm.Cond.declares ({ cls := "com/example/harpocrates/harpocrates/data/Taxonomy", name := "leaves", desc := "()Ljava/util/List;" } : Jvm.MethodName)).before a0 Z = true := hw _ (List.mem_of_getElem? (i := 87) rfl)
theorem wd_88 {Z : State} {a0 : Array Value} (hw : ∀ d ∈ tables_1, d.before a0 Z = true) : (Jvm.Cond.instanceMethod ({ cls := "com/example/harpocrates/harpocrates/data/Taxonomy", name := "leaves", desc := "()Ljava/util/List;" } : Jvm.MethodName)).before a0 Z = true := hw _ (List.mem_of_getElem? (i := 88) rfl)
theorem wd_169 {Z : State} {a0 : Array Value} (hw : ∀ d ∈ tables_1, d.before a0 Z = true) : (Jvm.Cond.methodLink "com/example/harpocrates/harpocrates/data/TaxonomyLeafPinLaw" (23 : Nat) ({ cls := "com/example/harpocrates/harpocrates/data/Taxonomy", name := "value", desc := "()Ljava/lang/String;" } : Jvm.MethodName)).before a0 Z = true := hw _ (List.mem_of_getElem? (i := 169) rfl)
theorem d25_0 : decode prog_9_method_12_code 0 = .ok (.aload_n 0, 1) := by decide +kernel
theorem d25_1 : decode prog_9_method_12_code 1 = .ok (.getfield 34, 3) := by decide +kernel
theorem d25_4 : decode prog_9_method_12_code 4 = .ok (.areturn, 1) := by decide +kernel
set_option maxRecDepth 65536 in
set_option maxHeartbeats 4000000 in
theorem ef_m26_value (m : MethodId) (x1 : Addr) (x2 : Addr) : entryFrame m #[(.ref x1)] 1 = mkF m 0 #[.val (.ref x1)] [] := by first | rfl | (simp [entryFrame, mkF, argsToLocals, Value.category]; done)
set_option maxRecDepth 65536 in
set_option maxHeartbeats 40000000 in
theorem m26_value (l : Launch) (Z : State) (a0 : Array Value) (hw : ∀ d ∈ tables_1, d.before a0 Z = true) (x1 : Addr) (x2 : Addr) (h0 : Heap) (n0 : Nat) (Z0 : n0 ≤ h0.size) (O0 : Old Z n0 h0) (P1 : Fld Z h0 x1 "com/example/harpocrates/harpocrates/data/Taxonomy" "value" "Ljava/lang/String;" (.ref x2)) :
    Ctr l Z [] (⟨"com/example/harpocrates/harpocrates/data/Taxonomy", "value", "()Ljava/lang/String;"⟩ : MethodName) prog_9_method_12_code 1 (some (.object "java/lang/String")) #[(.ref x1)] h0 ({ frames := 0, cells := 0, slots := 0, locals := 0 } : Room) (fun v h L => v = some (.ref x2) ∧ Fr n0 L ∧ h = h0) := by
  refine Ctr.of (plainFor_of_name pn_com_example_harpocrates_harpocrates_data_Taxonomy) (fun m => ef_m26_value m x1 x2) ?_
  intro p e s m below meth c T0 hx hZ hby hml hown hnm hret hlk X0 e0
  have N0 := Fr.nil n0
  show Rch p e below _ (T0.setTop (mkF m 0 #[.val (.ref x1)] []))
  refine Rch.go (fun t k => XS.aloadN X0.here hx rfl (hb hby d25_0) rfl rfl k) ?_
  show Rch p e below _ (T0.setTop (mkF m 1 #[.val (.ref x1)] [(.ref x1)]))
  obtain ⟨T1, X1, e1, st1⟩ := getF X0 hx hZ hown (host := "") (Or.inl (wd_82 hw)) Via.refl e0 P1 (g := (mkF m 1 #[.val (.ref x1)] [(.ref x1)])) rfl rfl (hb hby d25_1)
  refine Rch.go st1 ?_
  show Rch p e below _ (T1.setTop (mkF m 4 #[.val (.ref x1)] [(.ref x2)]))
  refine Rch.val X1 hx (t := (.object "java/lang/String")) hret hlk rfl (Or.inr (Or.inr (Or.inr (Or.inr ⟨rfl, rfl, rfl⟩)))) (hb hby d25_4) (by decide) (by decide) ?_
  try rw [e1]
  exact ⟨rfl, N0, rfl⟩
theorem wd_173 {Z : State} {a0 : Array Value} (hw : ∀ d ∈ tables_1, d.before a0 Z = true) : (Jvm.Cond.code ({ cls := "com/example/harpocrates/harpocrates/data/Taxonomy", name := "value", desc := "()Ljava/lang/String;" } : Jvm.MethodName) prog_9_method_12_code (1 : Nat) (Option.some (Jvm.ClassFile.FieldType.object "java/lang/String"))).before a0 Z = true := hw _ (List.mem_of_getElem? (i := 173) rfl)
theorem pd_18 : parseMethodDescriptor "()Ljava/lang/String;" = some ⟨[], some (.object "java/lang/String")⟩ := by decide +kernel
theorem wd_172 {Z : State} {a0 : Array Value} (hw : ∀ d ∈ tables_1, d.before a0 Z = true) : (Jvm.Cond.selects "com/example/harpocrates/harpocrates/data/Taxonomy" ({ cls := "com/example/harpocrates/harpocrates/data/Taxonomy", name := "value", desc := "()Ljava/lang/String;" } : Jvm.MethodName) ({ cls := "com/example/harpocrates/harpocrates/data/Taxonomy", name := "value", desc := "()Ljava/lang/String;" } : Jvm.MethodName)).before a0 Z = true := hw _ (List.mem_of_getElem? (i := 172) rfl)
theorem wd_170 {Z : State} {a0 : Array Value} (hw : ∀ d ∈ tables_1, d.before a0 Z = true) : (Jvm.Cond.declares ({ cls := "com/example/harpocrates/harpocrates/data/Taxonomy", name := "value", desc := "()Ljava/lang/String;" } : Jvm.MethodName)).before a0 Z = true := hw _ (List.mem_of_getElem? (i := 170) rfl)
theorem wd_171 {Z : State} {a0 : Array Value} (hw : ∀ d ∈ tables_1, d.before a0 Z = true) : (Jvm.Cond.instanceMethod ({ cls := "com/example/harpocrates/harpocrates/data/Taxonomy", name := "value", desc := "()Ljava/lang/String;" } : Jvm.MethodName)).before a0 Z = true := hw _ (List.mem_of_getElem? (i := 171) rfl)
theorem wd_174 {Z : State} {a0 : Array Value} (hw : ∀ d ∈ tables_1, d.before a0 Z = true) : (Jvm.Cond.methodLink "com/example/harpocrates/harpocrates/data/TaxonomyLeafPinLaw" (27 : Nat) ({ cls := "java/lang/String", name := "equals", desc := "(Ljava/lang/Object;)Z" } : Jvm.MethodName)).before a0 Z = true := hw _ (List.mem_of_getElem? (i := 174) rfl)
theorem d26_0 : decode jdk_42_method_66_code 0 = .ok (.aload_n 0, 1) := by decide +kernel
theorem d26_1 : decode jdk_42_method_66_code 1 = .ok (.aload_n 1, 1) := by decide +kernel
theorem d26_2 : decode jdk_42_method_66_code 2 = .ok (.if_acmp .ne 5, 3) := by decide +kernel
theorem d26_5 : decode jdk_42_method_66_code 5 = .ok (.iconst 1, 1) := by decide +kernel
theorem d26_6 : decode jdk_42_method_66_code 6 = .ok (.ireturn, 1) := by decide +kernel
set_option maxRecDepth 65536 in
set_option maxHeartbeats 4000000 in
theorem ef_m27_equals (m : MethodId) (x1 : Addr) : entryFrame m #[(.ref x1), (.ref x1)] 3 = mkF m 0 #[.val (.ref x1), .val (.ref x1), .unset] [] := by first | rfl | (simp [entryFrame, mkF, argsToLocals, Value.category]; done)
set_option maxRecDepth 65536 in
set_option maxHeartbeats 40000000 in
theorem m27_equals (l : Launch) (Z : State) (a0 : Array Value) (hw : ∀ d ∈ tables_1, d.before a0 Z = true) (x1 : Addr) (h0 : Heap) (n0 : Nat) (Z0 : n0 ≤ h0.size) (O0 : Old Z n0 h0) :
    Ctr l Z [] (⟨"java/lang/String", "equals", "(Ljava/lang/Object;)Z"⟩ : MethodName) jdk_42_method_66_code 3 (some .boolean) #[(.ref x1), (.ref x1)] h0 ({ frames := 0, cells := 0, slots := 0, locals := 0 } : Room) (fun v h L => v = some (.int (1 : Int32)) ∧ Fr n0 L ∧ h = h0) := by
  refine Ctr.of (plainFor_of_name pn_java_lang_String) (fun m => ef_m27_equals m x1) ?_
  intro p e s m below meth c T0 hx hZ hby hml hown hnm hret hlk X0 e0
  have N0 := Fr.nil n0
  show Rch p e below _ (T0.setTop (mkF m 0 #[.val (.ref x1), .val (.ref x1), .unset] []))
  refine Rch.go (fun t k => XS.aloadN X0.here hx rfl (hb hby d26_0) rfl rfl k) ?_
  show Rch p e below _ (T0.setTop (mkF m 1 #[.val (.ref x1), .val (.ref x1), .unset] [(.ref x1)]))
  refine Rch.go (fun t k => XS.aloadN X0.here hx rfl (hb hby d26_1) rfl rfl k) ?_
  show Rch p e below _ (T0.setTop (mkF m 2 #[.val (.ref x1), .val (.ref x1), .unset] [(.ref x1), (.ref x1)]))
  refine Rch.go (fun t k => acmp X0 hx (g := (mkF m 2 #[.val (.ref x1), .val (.ref x1), .unset] [(.ref x1), (.ref x1)])) rfl (x := (.ref x1)) (y := (.ref x1)) rfl rfl (pc0 := 2) (pc' := 5) (same := true) rfl (hb hby d26_2) rfl (decide_eq_true rfl) (by decide) (by decide) k) ?_
  show Rch p e below _ (T0.setTop (mkF m 5 #[.val (.ref x1), .val (.ref x1), .unset] []))
  refine Rch.go (fun t k => XS.iconst X0.here hx rfl (hb hby d26_5) k) ?_
  show Rch p e below _ (T0.setTop (mkF m 6 #[.val (.ref x1), .val (.ref x1), .unset] [(.int (1 : Int32))]))
  refine Rch.val X0 hx (t := .boolean) hret hlk rfl (mayI (by simp)) (hb hby d26_6) (by decide) (by decide) ?_
  try rw [e0]
  exact ⟨rfl, N0, rfl⟩
theorem wd_178 {Z : State} {a0 : Array Value} (hw : ∀ d ∈ tables_1, d.before a0 Z = true) : (Jvm.Cond.code ({ cls := "java/lang/String", name := "equals", desc := "(Ljava/lang/Object;)Z" } : Jvm.MethodName) jdk_42_method_66_code (3 : Nat) (Option.some Jvm.ClassFile.FieldType.boolean)).before a0 Z = true := hw _ (List.mem_of_getElem? (i := 178) rfl)
theorem wd_177 {Z : State} {a0 : Array Value} (hw : ∀ d ∈ tables_1, d.before a0 Z = true) : (Jvm.Cond.selects "java/lang/String" ({ cls := "java/lang/String", name := "equals", desc := "(Ljava/lang/Object;)Z" } : Jvm.MethodName) ({ cls := "java/lang/String", name := "equals", desc := "(Ljava/lang/Object;)Z" } : Jvm.MethodName)).before a0 Z = true := hw _ (List.mem_of_getElem? (i := 177) rfl)
theorem wd_175 {Z : State} {a0 : Array Value} (hw : ∀ d ∈ tables_1, d.before a0 Z = true) : (Jvm.Cond.declares ({ cls := "java/lang/String", name := "equals", desc := "(Ljava/lang/Object;)Z" } : Jvm.MethodName)).before a0 Z = true := hw _ (List.mem_of_getElem? (i := 175) rfl)
theorem wd_176 {Z : State} {a0 : Array Value} (hw : ∀ d ∈ tables_1, d.before a0 Z = true) : (Jvm.Cond.instanceMethod ({ cls := "java/lang/String", name := "equals", desc := "(Ljava/lang/Object;)Z" } : Jvm.MethodName)).before a0 Z = true := hw _ (List.mem_of_getElem? (i := 176) rfl)
theorem wd_179 {Z : State} {a0 : Array Value} (hw : ∀ d ∈ tables_1, d.before a0 Z = true) : (Jvm.Cond.methodLink "com/example/harpocrates/harpocrates/data/TaxonomyLeafPinLaw" (31 : Nat) ({ cls := "com/example/harpocrates/harpocrates/data/Taxonomy", name := "isLeaf", desc := "()Z" } : Jvm.MethodName)).before a0 Z = true := hw _ (List.mem_of_getElem? (i := 179) rfl)
theorem wd_180 {Z : State} {a0 : Array Value} (hw : ∀ d ∈ tables_1, d.before a0 Z = true) : (Jvm.Cond.methodLink "com/example/harpocrates/harpocrates/data/TaxonomyLeafPinLaw" (35 : Nat) ({ cls := "com/example/harpocrates/harpocrates/data/Taxonomy", name := "children", desc := "()Ljava/util/List;" } : Jvm.MethodName)).before a0 Z = true := hw _ (List.mem_of_getElem? (i := 180) rfl)
theorem d27_0 : decode prog_9_method_13_code 0 = .ok (.aload_n 0, 1) := by decide +kernel
theorem d27_1 : decode prog_9_method_13_code 1 = .ok (.getfield 39, 3) := by decide +kernel
theorem d27_4 : decode prog_9_method_13_code 4 = .ok (.areturn, 1) := by decide +kernel
set_option maxRecDepth 65536 in
set_option maxHeartbeats 4000000 in
theorem ef_m28_children (m : MethodId) (x1 : Addr) (x2 : Addr) : entryFrame m #[(.ref x1)] 1 = mkF m 0 #[.val (.ref x1)] [] := by first | rfl | (simp [entryFrame, mkF, argsToLocals, Value.category]; done)
set_option maxRecDepth 65536 in
set_option maxHeartbeats 40000000 in
theorem m28_children (l : Launch) (Z : State) (a0 : Array Value) (hw : ∀ d ∈ tables_1, d.before a0 Z = true) (x1 : Addr) (x2 : Addr) (h0 : Heap) (n0 : Nat) (Z0 : n0 ≤ h0.size) (O0 : Old Z n0 h0) (P1 : Fld Z h0 x1 "com/example/harpocrates/harpocrates/data/Taxonomy" "children" "Ljava/util/List;" (.ref x2)) :
    Ctr l Z [] (⟨"com/example/harpocrates/harpocrates/data/Taxonomy", "children", "()Ljava/util/List;"⟩ : MethodName) prog_9_method_13_code 1 (some (.object "java/util/List")) #[(.ref x1)] h0 ({ frames := 0, cells := 0, slots := 0, locals := 0 } : Room) (fun v h L => v = some (.ref x2) ∧ Fr n0 L ∧ h = h0) := by
  refine Ctr.of (plainFor_of_name pn_com_example_harpocrates_harpocrates_data_Taxonomy) (fun m => ef_m28_children m x1 x2) ?_
  intro p e s m below meth c T0 hx hZ hby hml hown hnm hret hlk X0 e0
  have N0 := Fr.nil n0
  show Rch p e below _ (T0.setTop (mkF m 0 #[.val (.ref x1)] []))
  refine Rch.go (fun t k => XS.aloadN X0.here hx rfl (hb hby d27_0) rfl rfl k) ?_
  show Rch p e below _ (T0.setTop (mkF m 1 #[.val (.ref x1)] [(.ref x1)]))
  obtain ⟨T1, X1, e1, st1⟩ := getF X0 hx hZ hown (host := "") (Or.inl (wd_84 hw)) Via.refl e0 P1 (g := (mkF m 1 #[.val (.ref x1)] [(.ref x1)])) rfl rfl (hb hby d27_1)
  refine Rch.go st1 ?_
  show Rch p e below _ (T1.setTop (mkF m 4 #[.val (.ref x1)] [(.ref x2)]))
  refine Rch.val X1 hx (t := (.object "java/util/List")) hret hlk rfl (Or.inr (Or.inr (Or.inr (Or.inr ⟨rfl, rfl, rfl⟩)))) (hb hby d27_4) (by decide) (by decide) ?_
  try rw [e1]
  exact ⟨rfl, N0, rfl⟩
theorem wd_184 {Z : State} {a0 : Array Value} (hw : ∀ d ∈ tables_1, d.before a0 Z = true) : (Jvm.Cond.code ({ cls := "com/example/harpocrates/harpocrates/data/Taxonomy", name := "children", desc := "()Ljava/util/List;" } : Jvm.MethodName) prog_9_method_13_code (1 : Nat) (Option.some (Jvm.ClassFile.FieldType.object "java/util/List"))).before a0 Z = true := hw _ (List.mem_of_getElem? (i := 184) rfl)
theorem wd_183 {Z : State} {a0 : Array Value} (hw : ∀ d ∈ tables_1, d.before a0 Z = true) : (Jvm.Cond.selects "com/example/harpocrates/harpocrates/data/Taxonomy" ({ cls := "com/example/harpocrates/harpocrates/data/Taxonomy", name := "children", desc := "()Ljava/util/List;" } : Jvm.MethodName) ({ cls := "com/example/harpocrates/harpocrates/data/Taxonomy", name := "children", desc := "()Ljava/util/List;" } : Jvm.MethodName)).before a0 Z = true := hw _ (List.mem_of_getElem? (i := 183) rfl)
theorem wd_181 {Z : State} {a0 : Array Value} (hw : ∀ d ∈ tables_1, d.before a0 Z = true) : (Jvm.Cond.declares ({ cls := "com/example/harpocrates/harpocrates/data/Taxonomy", name := "children", desc := "()Ljava/util/List;" } : Jvm.MethodName)).before a0 Z = true := hw _ (List.mem_of_getElem? (i := 181) rfl)
theorem wd_182 {Z : State} {a0 : Array Value} (hw : ∀ d ∈ tables_1, d.before a0 Z = true) : (Jvm.Cond.instanceMethod ({ cls := "com/example/harpocrates/harpocrates/data/Taxonomy", name := "children", desc := "()Ljava/util/List;" } : Jvm.MethodName)).before a0 Z = true := hw _ (List.mem_of_getElem? (i := 182) rfl)
theorem wd_185 {Z : State} {a0 : Array Value} (hw : ∀ d ∈ tables_1, d.before a0 Z = true) : (Jvm.Cond.methodLink "com/example/harpocrates/harpocrates/data/TaxonomyLeafPinLaw" (38 : Nat) ({ cls := "java/util/List", name := "size", desc := "()I" } : Jvm.MethodName)).before a0 Z = true := hw _ (List.mem_of_getElem? (i := 185) rfl)
theorem d28_0 : decode jdk_45_method_3_code 0 = .ok (.aload_n 0, 1) := by decide +kernel
theorem d28_1 : decode jdk_45_method_3_code 1 = .ok (.getfield 7, 3) := by decide +kernel
theorem d28_4 : decode jdk_45_method_3_code 4 = .ok (.arraylength, 1) := by decide +kernel
theorem d28_5 : decode jdk_45_method_3_code 5 = .ok (.ireturn, 1) := by decide +kernel
set_option maxRecDepth 65536 in
set_option maxHeartbeats 4000000 in
theorem ef_m29_size (m : MethodId) (x1 : Addr) (x2 : Addr) (kk3 : ClassId) : entryFrame m #[(.ref x1)] 1 = mkF m 0 #[.val (.ref x1)] [] := by first | rfl | (simp [entryFrame, mkF, argsToLocals, Value.category]; done)
set_option maxRecDepth 65536 in
set_option maxHeartbeats 40000000 in
theorem m29_size (l : Launch) (Z : State) (a0 : Array Value) (hw : ∀ d ∈ tables_1, d.before a0 Z = true) (x1 : Addr) (x2 : Addr) (kk3 : ClassId) (h0 : Heap) (n0 : Nat) (Z0 : n0 ≤ h0.size) (O0 : Old Z n0 h0) (P1 : Fld Z Z.heap x1 "java/util/ImmutableCollections$ListN" "elements" "[Ljava/lang/Object;" (.ref x2)) (P2 : Arv Z Z.heap x2 kk3 (.object "java/lang/Object") (0 : Int32) [] .null) :
    Ctr l Z [] (⟨"java/util/ImmutableCollections$ListN", "size", "()I"⟩ : MethodName) jdk_45_method_3_code 1 (some .int) #[(.ref x1)] h0 ({ frames := 0, cells := 0, slots := 0, locals := 0 } : Room) (fun v h L => v = some (.int (0 : Int32)) ∧ Fr n0 L ∧ h = h0) := by
  refine Ctr.of (plainFor_of_name pn_java_util_ImmutableCollections_ListN) (fun m => ef_m29_size m x1 x2 kk3) ?_
  intro p e s m below meth c T0 hx hZ hby hml hown hnm hret hlk X0 e0
  have N0 := Fr.nil n0
  show Rch p e below _ (T0.setTop (mkF m 0 #[.val (.ref x1)] []))
  refine Rch.go (fun t k => XS.aloadN X0.here hx rfl (hb hby d28_0) rfl rfl k) ?_
  show Rch p e below _ (T0.setTop (mkF m 1 #[.val (.ref x1)] [(.ref x1)]))
  obtain ⟨T1, X1, e1, st1⟩ := getF X0 hx hZ hown (host := "") (Or.inl (wd_132 hw)) Via.refl e0 (P1.ext O0.2) (g := (mkF m 1 #[.val (.ref x1)] [(.ref x1)])) rfl rfl (hb hby d28_1)
  refine Rch.go st1 ?_
  show Rch p e below _ (T1.setTop (mkF m 4 #[.val (.ref x1)] [(.ref x2)]))
  obtain ⟨c2, r2, q2, s2, u2, H2, G2⟩ := id (P2.ext O0.2)
  refine Rch.go (fun t k => X1.arraylength hx (by rw [e1]; exact r2.1) (State.isArrayOf_alike hZ.alike r2.2.1) (g := (mkF m 4 #[.val (.ref x1)] [(.ref x2)])) rfl rfl (hb hby d28_4) t (by rw [len_of s2 u2]; exact k)) ?_
  show Rch p e below _ (T1.setTop (mkF m 5 #[.val (.ref x1)] [(.int (0 : Int32))]))
  refine Rch.val X1 hx (t := .int) hret hlk rfl (mayI (by simp)) (hb hby d28_5) (by decide) (by decide) ?_
  try rw [e1]
  exact ⟨rfl, N0, rfl⟩
theorem wd_192 {Z : State} {a0 : Array Value} (hw : ∀ d ∈ tables_1, d.before a0 Z = true) : (Jvm.Cond.code ({ cls := "java/util/ImmutableCollections$ListN", name := "size", desc := "()I" } : Jvm.MethodName) jdk_45_method_3_code (1 : Nat) (Option.some Jvm.ClassFile.FieldType.int)).before a0 Z = true := hw _ (List.mem_of_getElem? (i := 192) rfl)
theorem pd_19 : parseMethodDescriptor "()I" = some ⟨[], some .int⟩ := by decide +kernel
theorem wd_186 {Z : State} {a0 : Array Value} (hw : ∀ d ∈ tables_1, d.before a0 Z = true) : (Jvm.Cond.declares ({ cls := "java/util/List", name := "size", desc := "()I" } : Jvm.MethodName)).before a0 Z = true := hw _ (List.mem_of_getElem? (i := 186) rfl)
theorem wd_187 {Z : State} {a0 : Array Value} (hw : ∀ d ∈ tables_1, d.before a0 Z = true) : (Jvm.Cond.interfaceMethod "java/util/List" "java/util/List" "size" "()I").before a0 Z = true := hw _ (List.mem_of_getElem? (i := 187) rfl)
theorem wd_188 {Z : State} {a0 : Array Value} (hw : ∀ d ∈ tables_1, d.before a0 Z = true) : (Jvm.Cond.selects "java/util/ImmutableCollections$ListN" ({ cls := "java/util/List", name := "size", desc := "()I" } : Jvm.MethodName) ({ cls := "java/util/ImmutableCollections$ListN", name := "size", desc := "()I" } : Jvm.MethodName)).before a0 Z = true := hw _ (List.mem_of_getElem? (i := 188) rfl)
theorem wd_189 {Z : State} {a0 : Array Value} (hw : ∀ d ∈ tables_1, d.before a0 Z = true) : (Jvm.Cond.instanceMethod ({ cls := "java/util/ImmutableCollections$ListN", name := "size", desc := "()I" } : Jvm.MethodName)).before a0 Z = true := hw _ (List.mem_of_getElem? (i := 189) rfl)
theorem wd_190 {Z : State} {a0 : Array Value} (hw : ∀ d ∈ tables_1, d.before a0 Z = true) : (Jvm.Cond.publicMethod ({ cls := "java/util/ImmutableCollections$ListN", name := "size", desc := "()I" } : Jvm.MethodName)).before a0 Z = true := hw _ (List.mem_of_getElem? (i := 190) rfl)
theorem wd_191 {Z : State} {a0 : Array Value} (hw : ∀ d ∈ tables_1, d.before a0 Z = true) : (Jvm.Cond.unhidden "java/util/ImmutableCollections$ListN" "size" "()I").before a0 Z = true := hw _ (List.mem_of_getElem? (i := 191) rfl)
theorem d29_0 : decode jdk_38_method_8_code 0 = .ok (.aload_n 0, 1) := by decide +kernel
theorem d29_1 : decode jdk_38_method_8_code 1 = .ok (.getfield 48, 3) := by decide +kernel
theorem d29_4 : decode jdk_38_method_8_code 4 = .ok (.ireturn, 1) := by decide +kernel
set_option maxRecDepth 65536 in
set_option maxHeartbeats 4000000 in
theorem ef_m30_size (m : MethodId) (x1 : Addr) : entryFrame m #[(.ref x1)] 1 = mkF m 0 #[.val (.ref x1)] [] := by first | rfl | (simp [entryFrame, mkF, argsToLocals, Value.category]; done)
set_option maxRecDepth 65536 in
set_option maxHeartbeats 40000000 in
theorem m30_size (l : Launch) (Z : State) (a0 : Array Value) (hw : ∀ d ∈ tables_1, d.before a0 Z = true) (x1 : Addr) (h0 : Heap) (n0 : Nat) (Z0 : n0 ≤ h0.size) (O0 : Old Z n0 h0) (P1 : Fld Z h0 x1 "java/util/ArrayList" "size" "I" (.int (1 : Int32))) :
    Ctr l Z [] (⟨"java/util/ArrayList", "size", "()I"⟩ : MethodName) jdk_38_method_8_code 1 (some .int) #[(.ref x1)] h0 ({ frames := 0, cells := 0, slots := 0, locals := 0 } : Room) (fun v h L => v = some (.int (1 : Int32)) ∧ Fr n0 L ∧ h = h0) := by
  refine Ctr.of (plainFor_of_name pn_java_util_ArrayList) (fun m => ef_m30_size m x1) ?_
  intro p e s m below meth c T0 hx hZ hby hml hown hnm hret hlk X0 e0
  have N0 := Fr.nil n0
  show Rch p e below _ (T0.setTop (mkF m 0 #[.val (.ref x1)] []))
  refine Rch.go (fun t k => XS.aloadN X0.here hx rfl (hb hby d29_0) rfl rfl k) ?_
  show Rch p e below _ (T0.setTop (mkF m 1 #[.val (.ref x1)] [(.ref x1)]))
  obtain ⟨T1, X1, e1, st1⟩ := getF X0 hx hZ hown (host := "") (Or.inl (wd_145 hw)) Via.refl e0 P1 (g := (mkF m 1 #[.val (.ref x1)] [(.ref x1)])) rfl rfl (hb hby d29_1)
  refine Rch.go st1 ?_
  show Rch p e below _ (T1.setTop (mkF m 4 #[.val (.ref x1)] [(.int (1 : Int32))]))
  refine Rch.val X1 hx (t := .int) hret hlk rfl (mayI (by simp)) (hb hby d29_4) (by decide) (by decide) ?_
  try rw [e1]
  exact ⟨rfl, N0, rfl⟩
theorem wd_197 {Z : State} {a0 : Array Value} (hw : ∀ d ∈ tables_1, d.before a0 Z = true) : (Jvm.Cond.code ({ cls := "java/util/ArrayList", name := "size", desc := "()I" } : Jvm.MethodName) jdk_38_method_8_code (1 : Nat) (Option.some Jvm.ClassFile.FieldType.int)).before a0 Z = true := hw _ (List.mem_of_getElem? (i := 197) rfl)
theorem wd_193 {Z : State} {a0 : Array Value} (hw : ∀ d ∈ tables_1, d.before a0 Z = true) : (Jvm.Cond.selects "java/util/ArrayList" ({ cls := "java/util/List", name := "size", desc := "()I" } : Jvm.MethodName) ({ cls := "java/util/ArrayList", name := "size", desc := "()I" } : Jvm.MethodName)).before a0 Z = true := hw _ (List.mem_of_getElem? (i := 193) rfl)
theorem wd_194 {Z : State} {a0 : Array Value} (hw : ∀ d ∈ tables_1, d.before a0 Z = true) : (Jvm.Cond.instanceMethod ({ cls := "java/util/ArrayList", name := "size", desc := "()I" } : Jvm.MethodName)).before a0 Z = true := hw _ (List.mem_of_getElem? (i := 194) rfl)
theorem wd_195 {Z : State} {a0 : Array Value} (hw : ∀ d ∈ tables_1, d.before a0 Z = true) : (Jvm.Cond.publicMethod ({ cls := "java/util/ArrayList", name := "size", desc := "()I" } : Jvm.MethodName)).before a0 Z = true := hw _ (List.mem_of_getElem? (i := 195) rfl)
theorem wd_196 {Z : State} {a0 : Array Value} (hw : ∀ d ∈ tables_1, d.before a0 Z = true) : (Jvm.Cond.unhidden "java/util/ArrayList" "size" "()I").before a0 Z = true := hw _ (List.mem_of_getElem? (i := 196) rfl)
theorem wd_198 {Z : State} {a0 : Array Value} (hw : ∀ d ∈ tables_1, d.before a0 Z = true) : (Jvm.Cond.methodLink "com/example/harpocrates/harpocrates/data/TaxonomyLeafPinLaw" (44 : Nat) ({ cls := "java/util/List", name := "get", desc := "(I)Ljava/lang/Object;" } : Jvm.MethodName)).before a0 Z = true := hw _ (List.mem_of_getElem? (i := 198) rfl)
theorem d30_0 : decode jdk_38_method_20_code 0 = .ok (.iload_n 1, 1) := by decide +kernel
theorem d30_1 : decode jdk_38_method_20_code 1 = .ok (.aload_n 0, 1) := by decide +kernel
theorem d30_2 : decode jdk_38_method_20_code 2 = .ok (.getfield 48, 3) := by decide +kernel
theorem d30_5 : decode jdk_38_method_20_code 5 = .ok (.invokestatic 118, 3) := by decide +kernel
theorem wd_206 {Z : State} {a0 : Array Value} (hw : ∀ d ∈ tables_1, d.before a0 Z = true) : (Jvm.Cond.methodLink "java/util/ArrayList" (118 : Nat) ({ cls := "java/util/Objects", name := "checkIndex", desc := "(II)I" } : Jvm.MethodName)).before a0 Z = true := hw _ (List.mem_of_getElem? (i := 206) rfl)
theorem d31_0 : decode jdk_31_method_17_code 0 = .ok (.iload_n 0, 1) := by decide +kernel
theorem d31_1 : decode jdk_31_method_17_code 1 = .ok (.iload_n 1, 1) := by decide +kernel
theorem d31_2 : decode jdk_31_method_17_code 2 = .ok (.aconst_null, 1) := by decide +kernel
theorem d31_3 : decode jdk_31_method_17_code 3 = .ok (.invokestatic 105, 3) := by decide +kernel
theorem wd_209 {Z : State} {a0 : Array Value} (hw : ∀ d ∈ tables_1, d.before a0 Z = true) : (Jvm.Cond.methodLink "java/util/Objects" (105 : Nat) ({ cls := "jdk/internal/util/Preconditions", name := "checkIndex", desc := "(IILjava/util/function/BiFunction;)I" } : Jvm.MethodName)).before a0 Z = true := hw _ (List.mem_of_getElem? (i := 209) rfl)
theorem d32_0 : decode jdk_41_method_11_code 0 = .ok (.iload_n 0, 1) := by decide +kernel
theorem d32_1 : decode jdk_41_method_11_code 1 = .ok (.ifCond .lt 8, 3) := by decide +kernel
theorem d32_4 : decode jdk_41_method_11_code 4 = .ok (.iload_n 0, 1) := by decide +kernel
theorem d32_5 : decode jdk_41_method_11_code 5 = .ok (.iload_n 1, 1) := by decide +kernel
theorem d32_6 : decode jdk_41_method_11_code 6 = .ok (.if_icmp .lt 10, 3) := by decide +kernel
theorem d32_16 : decode jdk_41_method_11_code 16 = .ok (.iload_n 0, 1) := by decide +kernel
theorem d32_17 : decode jdk_41_method_11_code 17 = .ok (.ireturn, 1) := by decide +kernel
theorem pn_jdk_internal_util_Preconditions : plainName "jdk/internal/util/Preconditions" = true := by first | (simp [plainName, overriddenIn]; done) | decide +kernel
set_option maxRecDepth 65536 in
set_option maxHeartbeats 4000000 in
theorem ef_m33_checkIndex (m : MethodId) : entryFrame m #[(.int (0 : Int32)), (.int (1 : Int32)), .null] 3 = mkF m 0 #[.val (.int (0 : Int32)), .val (.int (1 : Int32)), .val .null] [] := by first | rfl | (simp [entryFrame, mkF, argsToLocals, Value.category]; done)
set_option maxRecDepth 65536 in
set_option maxHeartbeats 40000000 in
theorem m33_checkIndex (l : Launch) (Z : State) (a0 : Array Value) (hw : ∀ d ∈ tables_1, d.before a0 Z = true)  (h0 : Heap) (n0 : Nat) (Z0 : n0 ≤ h0.size) (O0 : Old Z n0 h0) :
    Ctr l Z [] (⟨"jdk/internal/util/Preconditions", "checkIndex", "(IILjava/util/function/BiFunction;)I"⟩ : MethodName) jdk_41_method_11_code 3 (some .int) #[(.int (0 : Int32)), (.int (1 : Int32)), .null] h0 ({ frames := 0, cells := 0, slots := 0, locals := 0 } : Room) (fun v h L => v = some (.int (0 : Int32)) ∧ Fr n0 L ∧ h = h0) := by
  refine Ctr.of (plainFor_of_name pn_jdk_internal_util_Preconditions) (fun m => ef_m33_checkIndex m ) ?_
  intro p e s m below meth c T0 hx hZ hby hml hown hnm hret hlk X0 e0
  have N0 := Fr.nil n0
  show Rch p e below _ (T0.setTop (mkF m 0 #[.val (.int (0 : Int32)), .val (.int (1 : Int32)), .val .null] []))
  refine Rch.go (fun t k => XS.iloadN X0.here hx rfl (hb hby d32_0) rfl  k) ?_
  show Rch p e below _ (T0.setTop (mkF m 1 #[.val (.int (0 : Int32)), .val (.int (1 : Int32)), .val .null] [(.int (0 : Int32))]))
  refine Rch.go (fun t k => XS.ifNo X0.here hx rfl (hb hby d32_1) rfl (by decide) k) ?_
  show Rch p e below _ (T0.setTop (mkF m 4 #[.val (.int (0 : Int32)), .val (.int (1 : Int32)), .val .null] []))
  refine Rch.go (fun t k => XS.iloadN X0.here hx rfl (hb hby d32_4) rfl  k) ?_
  show Rch p e below _ (T0.setTop (mkF m 5 #[.val (.int (0 : Int32)), .val (.int (1 : Int32)), .val .null] [(.int (0 : Int32))]))
  refine Rch.go (fun t k => XS.iloadN X0.here hx rfl (hb hby d32_5) rfl  k) ?_
  show Rch p e below _ (T0.setTop (mkF m 6 #[.val (.int (0 : Int32)), .val (.int (1 : Int32)), .val .null] [(.int (1 : Int32)), (.int (0 : Int32))]))
  refine Rch.go (fun t k => XS.icmpYes X0.here hx rfl (pc0 := 6) (pc' := 16) rfl (hb hby d32_6) rfl (by decide) (by decide) (by decide) k) ?_
  show Rch p e below _ (T0.setTop (mkF m 16 #[.val (.int (0 : Int32)), .val (.int (1 : Int32)), .val .null] []))
  refine Rch.go (fun t k => XS.iloadN X0.here hx rfl (hb hby d32_16) rfl  k) ?_
  show Rch p e below _ (T0.setTop (mkF m 17 #[.val (.int (0 : Int32)), .val (.int (1 : Int32)), .val .null] [(.int (0 : Int32))]))
  refine Rch.val X0 hx (t := .int) hret hlk rfl (mayI (by simp)) (hb hby d32_17) (by decide) (by decide) ?_
  try rw [e0]
  exact ⟨rfl, N0, rfl⟩
theorem wd_212 {Z : State} {a0 : Array Value} (hw : ∀ d ∈ tables_1, d.before a0 Z = true) : (Jvm.Cond.code ({ cls := "jdk/internal/util/Preconditions", name := "checkIndex", desc := "(IILjava/util/function/BiFunction;)I" } : Jvm.MethodName) jdk_41_method_11_code (3 : Nat) (Option.some Jvm.ClassFile.FieldType.int)).before a0 Z = true := hw _ (List.mem_of_getElem? (i := 212) rfl)
theorem wd_211 {Z : State} {a0 : Array Value} (hw : ∀ d ∈ tables_1, d.before a0 Z = true) : (Jvm.Cond.initialized "jdk/internal/util/Preconditions").before a0 Z = true := hw _ (List.mem_of_getElem? (i := 211) rfl)
theorem pd_20 : parseMethodDescriptor "(IILjava/util/function/BiFunction;)I" = some ⟨[.int, .int, (.object "java/util/function/BiFunction")], some .int⟩ := by decide +kernel
theorem wd_210 {Z : State} {a0 : Array Value} (hw : ∀ d ∈ tables_1, d.before a0 Z = true) : (Jvm.Cond.static ({ cls := "jdk/internal/util/Preconditions", name := "checkIndex", desc := "(IILjava/util/function/BiFunction;)I" } : Jvm.MethodName)).before a0 Z = true := hw _ (List.mem_of_getElem? (i := 210) rfl)
theorem d31_6 : decode jdk_31_method_17_code 6 = .ok (.ireturn, 1) := by decide +kernel
set_option maxRecDepth 65536 in
set_option maxHeartbeats 4000000 in
theorem ef_m32_checkIndex (m : MethodId) : entryFrame m #[(.int (0 : Int32)), (.int (1 : Int32))] 2 = mkF m 0 #[.val (.int (0 : Int32)), .val (.int (1 : Int32))] [] := by first | rfl | (simp [entryFrame, mkF, argsToLocals, Value.category]; done)
set_option maxRecDepth 65536 in
set_option maxHeartbeats 40000000 in
theorem m32_checkIndex (l : Launch) (Z : State) (a0 : Array Value) (hw : ∀ d ∈ tables_1, d.before a0 Z = true)  (h0 : Heap) (n0 : Nat) (Z0 : n0 ≤ h0.size) (O0 : Old Z n0 h0) :
    Ctr l Z [] (⟨"java/util/Objects", "checkIndex", "(II)I"⟩ : MethodName) jdk_31_method_17_code 2 (some .int) #[(.int (0 : Int32)), (.int (1 : Int32))] h0 ({ frames := 1, cells := 0, slots := 0, locals := 14 } : Room) (fun v h L => v = some (.int (0 : Int32)) ∧ Fr n0 L ∧ h = h0) := by
  refine Ctr.of (plainFor_of_name pn_java_util_Objects) (fun m => ef_m32_checkIndex m ) ?_
  intro p e s m below meth c T0 hx hZ hby hml hown hnm hret hlk X0 e0
  have N0 := Fr.nil n0
  show Rch p e below _ (T0.setTop (mkF m 0 #[.val (.int (0 : Int32)), .val (.int (1 : Int32))] []))
  refine Rch.go (fun t k => XS.iloadN X0.here hx rfl (hb hby d31_0) rfl  k) ?_
  show Rch p e below _ (T0.setTop (mkF m 1 #[.val (.int (0 : Int32)), .val (.int (1 : Int32))] [(.int (0 : Int32))]))
  refine Rch.go (fun t k => XS.iloadN X0.here hx rfl (hb hby d31_1) rfl  k) ?_
  show Rch p e below _ (T0.setTop (mkF m 2 #[.val (.int (0 : Int32)), .val (.int (1 : Int32))] [(.int (1 : Int32)), (.int (0 : Int32))]))
  refine Rch.go (fun t k => XS.aconstNull X0.here hx rfl (hb hby d31_2) k) ?_
  show Rch p e below _ (T0.setTop (mkF m 3 #[.val (.int (0 : Int32)), .val (.int (1 : Int32))] [.null, (.int (1 : Int32)), (.int (0 : Int32))]))
  obtain ⟨v1, T1, L1, X1, Q1, st1⟩ := callSt X0 hx hZ (m33_checkIndex l Z a0 hw  h0 n0 Z0 O0 ) e0 hown (wd_209 hw) (wd_210 hw) (wd_212 hw) (wd_211 hw) (by decide) (hb hby d31_3) 0 (by decide) (by decide) (by decide) (by decide) (by rw [hml]; rfl) [(.int (0 : Int32)), (.int (1 : Int32)), .null] [] rfl (lenOf pd_20 rfl) rfl (Nat.le_of_eq rfl) (Ls := #[.val (.int (0 : Int32)), .val (.int (1 : Int32))])
  obtain ⟨rfl, M1, e1⟩ := Q1
  have N1 := Fr.app N0 M1
  refine Rch.go st1 ?_
  show Rch p e below _ (T1.setTop (mkF m 6 #[.val (.int (0 : Int32)), .val (.int (1 : Int32))] [(.int (0 : Int32))]))
  refine Rch.val X1 hx (t := .int) hret hlk rfl (mayI (by simp)) (hb hby d31_6) (by decide) (by decide) ?_
  try rw [e1]
  exact ⟨rfl, N1, rfl⟩
theorem wd_208 {Z : State} {a0 : Array Value} (hw : ∀ d ∈ tables_1, d.before a0 Z = true) : (Jvm.Cond.code ({ cls := "java/util/Objects", name := "checkIndex", desc := "(II)I" } : Jvm.MethodName) jdk_31_method_17_code (2 : Nat) (Option.some Jvm.ClassFile.FieldType.int)).before a0 Z = true := hw _ (List.mem_of_getElem? (i := 208) rfl)
theorem wd_207 {Z : State} {a0 : Array Value} (hw : ∀ d ∈ tables_1, d.before a0 Z = true) : (Jvm.Cond.static ({ cls := "java/util/Objects", name := "checkIndex", desc := "(II)I" } : Jvm.MethodName)).before a0 Z = true := hw _ (List.mem_of_getElem? (i := 207) rfl)
theorem d30_8 : decode jdk_38_method_20_code 8 = .ok (.pop, 1) := by decide +kernel
theorem d30_9 : decode jdk_38_method_20_code 9 = .ok (.aload_n 0, 1) := by decide +kernel
theorem d30_10 : decode jdk_38_method_20_code 10 = .ok (.iload_n 1, 1) := by decide +kernel
theorem d30_11 : decode jdk_38_method_20_code 11 = .ok (.invokevirtual 123, 3) := by decide +kernel
theorem wd_213 {Z : State} {a0 : Array Value} (hw : ∀ d ∈ tables_1, d.before a0 Z = true) : (Jvm.Cond.methodLink "java/util/ArrayList" (123 : Nat) ({ cls := "java/util/ArrayList", name := "elementData", desc := "(I)Ljava/lang/Object;" } : Jvm.MethodName)).before a0 Z = true := hw _ (List.mem_of_getElem? (i := 213) rfl)
theorem d33_0 : decode jdk_38_method_18_code 0 = .ok (.aload_n 0, 1) := by decide +kernel
theorem d33_1 : decode jdk_38_method_18_code 1 = .ok (.getfield 9, 3) := by decide +kernel
theorem d33_4 : decode jdk_38_method_18_code 4 = .ok (.iload_n 1, 1) := by decide +kernel
theorem d33_5 : decode jdk_38_method_18_code 5 = .ok (.aaload, 1) := by decide +kernel
theorem d33_6 : decode jdk_38_method_18_code 6 = .ok (.areturn, 1) := by decide +kernel
set_option maxRecDepth 65536 in
set_option maxHeartbeats 4000000 in
theorem ef_m34_elementData (m : MethodId) (x1 : Addr) (x2 : Addr) (kk3 : ClassId) (x4 : Addr) : entryFrame m #[(.ref x1), (.int (0 : Int32))] 2 = mkF m 0 #[.val (.ref x1), .val (.int (0 : Int32))] [] := by first | rfl | (simp [entryFrame, mkF, argsToLocals, Value.category]; done)
set_option maxRecDepth 65536 in
set_option maxHeartbeats 40000000 in
theorem m34_elementData (l : Launch) (Z : State) (a0 : Array Value) (hw : ∀ d ∈ tables_1, d.before a0 Z = true) (x1 : Addr) (x2 : Addr) (kk3 : ClassId) (x4 : Addr) (h0 : Heap) (n0 : Nat) (Z0 : n0 ≤ h0.size) (O0 : Old Z n0 h0) (P1 : Fld Z h0 x1 "java/util/ArrayList" "elementData" "[Ljava/lang/Object;" (.ref x2)) (P2 : Ovr Z kk3 "java/lang/Object") (P3 : Arv Z h0 x2 kk3 (.object "java/lang/Object") (10 : Int32) [(.ref x4), .null, .null, .null, .null, .null, .null, .null, .null, .null] .null) :
    Ctr l Z [] (⟨"java/util/ArrayList", "elementData", "(I)Ljava/lang/Object;"⟩ : MethodName) jdk_38_method_18_code 2 (some (.object "java/lang/Object")) #[(.ref x1), (.int (0 : Int32))] h0 ({ frames := 0, cells := 0, slots := 0, locals := 0 } : Room) (fun v h L => v = some (.ref x4) ∧ Fr n0 L ∧ h = h0) := by
  refine Ctr.of (plainFor_of_name pn_java_util_ArrayList) (fun m => ef_m34_elementData m x1 x2 kk3 x4) ?_
  intro p e s m below meth c T0 hx hZ hby hml hown hnm hret hlk X0 e0
  have N0 := Fr.nil n0
  show Rch p e below _ (T0.setTop (mkF m 0 #[.val (.ref x1), .val (.int (0 : Int32))] []))
  refine Rch.go (fun t k => XS.aloadN X0.here hx rfl (hb hby d33_0) rfl rfl k) ?_
  show Rch p e below _ (T0.setTop (mkF m 1 #[.val (.ref x1), .val (.int (0 : Int32))] [(.ref x1)]))
  obtain ⟨T1, X1, e1, st1⟩ := getF X0 hx hZ hown (host := "") (Or.inl (wd_113 hw)) Via.refl e0 P1 (g := (mkF m 1 #[.val (.ref x1), .val (.int (0 : Int32))] [(.ref x1)])) rfl rfl (hb hby d33_1)
  refine Rch.go st1 ?_
  show Rch p e below _ (T1.setTop (mkF m 4 #[.val (.ref x1), .val (.int (0 : Int32))] [(.ref x2)]))
  refine Rch.go (fun t k => XS.iloadN X1.here hx rfl (hb hby d33_4) rfl  k) ?_
  show Rch p e below _ (T1.setTop (mkF m 5 #[.val (.ref x1), .val (.int (0 : Int32))] [(.int (0 : Int32)), (.ref x2)]))
  obtain ⟨c2, r2, q2, s2, u2, H2, G2⟩ := id P3
  refine Rch.go (fun t k => X1.aaload hx (j := (0 : Int32)) (v := (.ref x4)) (by rw [e1]; exact r2.1) (State.isArrayOf_alike hZ.alike r2.2.1) rfl r2.2.2 (inb_of s2 (by decide)) (H2.at (inb_of s2 (by decide)) rfl) (g := (mkF m 5 #[.val (.ref x1), .val (.int (0 : Int32))] [(.int (0 : Int32)), (.ref x2)])) rfl rfl (hb hby d33_5) t k) ?_
  show Rch p e below _ (T1.setTop (mkF m 6 #[.val (.ref x1), .val (.int (0 : Int32))] [(.ref x4)]))
  refine Rch.val X1 hx (t := (.object "java/lang/Object")) hret hlk rfl (Or.inr (Or.inr (Or.inr (Or.inr ⟨rfl, rfl, rfl⟩)))) (hb hby d33_6) (by decide) (by decide) ?_
  try rw [e1]
  exact ⟨rfl, N0, rfl⟩
theorem wd_217 {Z : State} {a0 : Array Value} (hw : ∀ d ∈ tables_1, d.before a0 Z = true) : (Jvm.Cond.code ({ cls := "java/util/ArrayList", name := "elementData", desc := "(I)Ljava/lang/Object;" } : Jvm.MethodName) jdk_38_method_18_code (2 : Nat) (Option.some (Jvm.ClassFile.FieldType.object "java/lang/Object"))).before a0 Z = true := hw _ (List.mem_of_getElem? (i := 217) rfl)
theorem pd_21 : parseMethodDescriptor "(I)Ljava/lang/Object;" = some ⟨[.int], some (.object "java/lang/Object")⟩ := by decide +kernel
theorem wd_216 {Z : State} {a0 : Array Value} (hw : ∀ d ∈ tables_1, d.before a0 Z = true) : (Jvm.Cond.selects "java/util/ArrayList" ({ cls := "java/util/ArrayList", name := "elementData", desc := "(I)Ljava/lang/Object;" } : Jvm.MethodName) ({ cls := "java/util/ArrayList", name := "elementData", desc := "(I)Ljava/lang/Object;" } : Jvm.MethodName)).before a0 Z = true := hw _ (List.mem_of_getElem? (i := 216) rfl)
theorem wd_214 {Z : State} {a0 : Array Value} (hw : ∀ d ∈ tables_1, d.before a0 Z = true) : (Jvm.Cond.declares ({ cls := "java/util/ArrayList", name := "elementData", desc := "(I)Ljava/lang/Object;" } : Jvm.MethodName)).before a0 Z = true := hw _ (List.mem_of_getElem? (i := 214) rfl)
theorem wd_215 {Z : State} {a0 : Array Value} (hw : ∀ d ∈ tables_1, d.before a0 Z = true) : (Jvm.Cond.instanceMethod ({ cls := "java/util/ArrayList", name := "elementData", desc := "(I)Ljava/lang/Object;" } : Jvm.MethodName)).before a0 Z = true := hw _ (List.mem_of_getElem? (i := 215) rfl)
theorem d30_14 : decode jdk_38_method_20_code 14 = .ok (.areturn, 1) := by decide +kernel
set_option maxRecDepth 65536 in
set_option maxHeartbeats 4000000 in
theorem ef_m31_get (m : MethodId) (x1 : Addr) (x2 : Addr) (kk3 : ClassId) (x4 : Addr) : entryFrame m #[(.ref x1), (.int (0 : Int32))] 2 = mkF m 0 #[.val (.ref x1), .val (.int (0 : Int32))] [] := by first | rfl | (simp [entryFrame, mkF, argsToLocals, Value.category]; done)
set_option maxRecDepth 65536 in
set_option maxHeartbeats 40000000 in
theorem m31_get (l : Launch) (Z : State) (a0 : Array Value) (hw : ∀ d ∈ tables_1, d.before a0 Z = true) (x1 : Addr) (x2 : Addr) (kk3 : ClassId) (x4 : Addr) (h0 : Heap) (n0 : Nat) (Z0 : n0 ≤ h0.size) (O0 : Old Z n0 h0) (P1 : Fld Z h0 x1 "java/util/ArrayList" "size" "I" (.int (1 : Int32))) (P2 : Exa Z h0 x1 "java/util/ArrayList") (P3 : Fld Z h0 x1 "java/util/ArrayList" "elementData" "[Ljava/lang/Object;" (.ref x2)) (P4 : Ovr Z kk3 "java/lang/Object") (P5 : Arv Z h0 x2 kk3 (.object "java/lang/Object") (10 : Int32) [(.ref x4), .null, .null, .null, .null, .null, .null, .null, .null, .null] .null) :
    Ctr l Z [] (⟨"java/util/ArrayList", "get", "(I)Ljava/lang/Object;"⟩ : MethodName) jdk_38_method_20_code 2 (some (.object "java/lang/Object")) #[(.ref x1), (.int (0 : Int32))] h0 ({ frames := 2, cells := 0, slots := 0, locals := 27 } : Room) (fun v h L => v = some (.ref x4) ∧ Fr n0 L ∧ h = h0) := by
  refine Ctr.of (plainFor_of_name pn_java_util_ArrayList) (fun m => ef_m31_get m x1 x2 kk3 x4) ?_
  intro p e s m below meth c T0 hx hZ hby hml hown hnm hret hlk X0 e0
  have N0 := Fr.nil n0
  show Rch p e below _ (T0.setTop (mkF m 0 #[.val (.ref x1), .val (.int (0 : Int32))] []))
  refine Rch.go (fun t k => XS.iloadN X0.here hx rfl (hb hby d30_0) rfl  k) ?_
  show Rch p e below _ (T0.setTop (mkF m 1 #[.val (.ref x1), .val (.int (0 : Int32))] [(.int (0 : Int32))]))
  refine Rch.go (fun t k => XS.aloadN X0.here hx rfl (hb hby d30_1) rfl rfl k) ?_
  show Rch p e below _ (T0.setTop (mkF m 2 #[.val (.ref x1), .val (.int (0 : Int32))] [(.ref x1), (.int (0 : Int32))]))
  obtain ⟨T1, X1, e1, st1⟩ := getF X0 hx hZ hown (host := "") (Or.inl (wd_145 hw)) Via.refl e0 P1 (g := (mkF m 2 #[.val (.ref x1), .val (.int (0 : Int32))] [(.ref x1), (.int (0 : Int32))])) rfl rfl (hb hby d30_2)
  refine Rch.go st1 ?_
  show Rch p e below _ (T1.setTop (mkF m 5 #[.val (.ref x1), .val (.int (0 : Int32))] [(.int (1 : Int32)), (.int (0 : Int32))]))
  obtain ⟨v2, T2, L2, X2, Q2, st2⟩ := callSt X1 hx hZ (m32_checkIndex l Z a0 hw  h0 n0 Z0 O0 ) e1 hown (wd_206 hw) (wd_207 hw) (wd_208 hw) (wd_57 hw) (by decide) (hb hby d30_5) 0 (by decide) (by decide) (by decide) (by decide) (by rw [hml]; rfl) [(.int (0 : Int32)), (.int (1 : Int32))] [] rfl (lenOf pd_12 rfl) rfl (Nat.le_of_eq rfl) (Ls := #[.val (.ref x1), .val (.int (0 : Int32))])
  obtain ⟨rfl, M2, e2⟩ := Q2
  have N2 := Fr.app N0 M2
  refine Rch.go st2 ?_
  show Rch p e below _ (T2.setTop (mkF m 8 #[.val (.ref x1), .val (.int (0 : Int32))] [(.int (0 : Int32))]))
  refine Rch.go (fun t k => XS.pop X2.here hx rfl (hb hby d30_8) rfl rfl k) ?_
  show Rch p e below _ (T2.setTop (mkF m 9 #[.val (.ref x1), .val (.int (0 : Int32))] []))
  refine Rch.go (fun t k => XS.aloadN X2.here hx rfl (hb hby d30_9) rfl rfl k) ?_
  show Rch p e below _ (T2.setTop (mkF m 10 #[.val (.ref x1), .val (.int (0 : Int32))] [(.ref x1)]))
  refine Rch.go (fun t k => XS.iloadN X2.here hx rfl (hb hby d30_10) rfl  k) ?_
  show Rch p e below _ (T2.setTop (mkF m 11 #[.val (.ref x1), .val (.int (0 : Int32))] [(.int (0 : Int32)), (.ref x1)]))
  obtain ⟨v3, T3, L3, X3, Q3, st3⟩ := callVi X2 hx hZ (m34_elementData l Z a0 hw x1 x2 kk3 x4 h0 n0 Z0 O0 P3 P4 P5) e2 hown (wd_213 hw) (wd_214 hw) (wd_216 hw) (notFace_of_selects (args := #[]) (mvT hZ (wd_216 hw))) (wd_215 hw) (wd_217 hw) (wd_93 hw) (by decide) (hb hby d30_11) 0 (by decide) (by decide) (by decide) (by decide) (by rw [hml]; rfl) x1 P2 [(.int (0 : Int32))] [] rfl (lenOf pd_21 rfl) rfl (Nat.le_of_eq rfl) (Ls := #[.val (.ref x1), .val (.int (0 : Int32))])
  obtain ⟨rfl, M3, e3⟩ := Q3
  have N3 := Fr.app N2 M3
  refine Rch.go st3 ?_
  show Rch p e below _ (T3.setTop (mkF m 14 #[.val (.ref x1), .val (.int (0 : Int32))] [(.ref x4)]))
  refine Rch.val X3 hx (t := (.object "java/lang/Object")) hret hlk rfl (Or.inr (Or.inr (Or.inr (Or.inr ⟨rfl, rfl, rfl⟩)))) (hb hby d30_14) (by decide) (by decide) ?_
  try rw [e3]
  exact ⟨rfl, N3, rfl⟩
theorem wd_205 {Z : State} {a0 : Array Value} (hw : ∀ d ∈ tables_1, d.before a0 Z = true) : (Jvm.Cond.code ({ cls := "java/util/ArrayList", name := "get", desc := "(I)Ljava/lang/Object;" } : Jvm.MethodName) jdk_38_method_20_code (2 : Nat) (Option.some (Jvm.ClassFile.FieldType.object "java/lang/Object"))).before a0 Z = true := hw _ (List.mem_of_getElem? (i := 205) rfl)
theorem wd_199 {Z : State} {a0 : Array Value} (hw : ∀ d ∈ tables_1, d.before a0 Z = true) : (Jvm.Cond.declares ({ cls := "java/util/List", name := "get", desc := "(I)Ljava/lang/Object;" } : Jvm.MethodName)).before a0 Z = true := hw _ (List.mem_of_getElem? (i := 199) rfl)
theorem wd_200 {Z : State} {a0 : Array Value} (hw : ∀ d ∈ tables_1, d.before a0 Z = true) : (Jvm.Cond.interfaceMethod "java/util/List" "java/util/List" "get" "(I)Ljava/lang/Object;").before a0 Z = true := hw _ (List.mem_of_getElem? (i := 200) rfl)
theorem wd_201 {Z : State} {a0 : Array Value} (hw : ∀ d ∈ tables_1, d.before a0 Z = true) : (Jvm.Cond.selects "java/util/ArrayList" ({ cls := "java/util/List", name := "get", desc := "(I)Ljava/lang/Object;" } : Jvm.MethodName) ({ cls := "java/util/ArrayList", name := "get", desc := "(I)Ljava/lang/Object;" } : Jvm.MethodName)).before a0 Z = true := hw _ (List.mem_of_getElem? (i := 201) rfl)
theorem wd_202 {Z : State} {a0 : Array Value} (hw : ∀ d ∈ tables_1, d.before a0 Z = true) : (Jvm.Cond.instanceMethod ({ cls := "java/util/ArrayList", name := "get", desc := "(I)Ljava/lang/Object;" } : Jvm.MethodName)).before a0 Z = true := hw _ (List.mem_of_getElem? (i := 202) rfl)
theorem wd_203 {Z : State} {a0 : Array Value} (hw : ∀ d ∈ tables_1, d.before a0 Z = true) : (Jvm.Cond.publicMethod ({ cls := "java/util/ArrayList", name := "get", desc := "(I)Ljava/lang/Object;" } : Jvm.MethodName)).before a0 Z = true := hw _ (List.mem_of_getElem? (i := 203) rfl)
theorem wd_204 {Z : State} {a0 : Array Value} (hw : ∀ d ∈ tables_1, d.before a0 Z = true) : (Jvm.Cond.unhidden "java/util/ArrayList" "get" "(I)Ljava/lang/Object;").before a0 Z = true := hw _ (List.mem_of_getElem? (i := 204) rfl)
set_option maxRecDepth 65536 in
set_option maxHeartbeats 4000000 in
theorem ef_m38_compress (m : MethodId) (x1 : Addr) (x2 : Addr) (kk3 : ClassId) (y4 : Int32) (y5 : Int32) (kk6 : ClassId) : entryFrame m #[(.ref x1), (.int (0 : Int32)), (.ref x2), (.int (0 : Int32)), (.int (2 : Int32))] 7 = mkF m 0 #[.val (.ref x1), .val (.int (0 : Int32)), .val (.ref x2), .val (.int (0 : Int32)), .val (.int (2 : Int32)), .unset, .unset] [] := by first | rfl | (simp [entryFrame, mkF, argsToLocals, Value.category]; done)
set_option maxRecDepth 65536 in
set_option maxHeartbeats 40000000 in
theorem m38_compress (l : Launch) (Z : State) (a0 : Array Value) (hw : ∀ d ∈ tables_1, d.before a0 Z = true) (x1 : Addr) (x2 : Addr) (kk3 : ClassId) (y4 : Int32) (y5 : Int32) (kk6 : ClassId) (h0 : Heap) (n0 : Nat) (Z0 : n0 ≤ h0.size) (O0 : Old Z n0 h0) (P1 : Arv Z h0 x1 kk3 .char (2 : Int32) [(.int y4), (.int y5)] (.int (0 : Int32))) (P2 : ¬ ((255 : Int32) < y4)) (P3 : Arv Z h0 x2 kk6 .byte (2 : Int32) [(.int (0 : Int32)), (.int (0 : Int32))] (.int (0 : Int32))) (P4 : n0 ≤ x2) (P5 : x1 ≠ x2) (P6 : ¬ ((255 : Int32) < y5)) :
    Ctr l Z [] (⟨"java/lang/StringUTF16", "compress", "([CI[BII)I"⟩ : MethodName) jdk_52_method_21_code 7 (some .int) #[(.ref x1), (.int (0 : Int32)), (.ref x2), (.int (0 : Int32)), (.int (2 : Int32))] h0 ({ frames := 0, cells := 0, slots := 0, locals := 0 } : Room) (fun v h L => v = some (.int (2 : Int32)) ∧ Fr n0 L ∧ Keep h0 h [x2] ∧ Arv Z h x2 kk6 .byte (2 : Int32) [(.int (nar .byte (y4.toInt8.toInt32))), (.int (nar .byte (y5.toInt8.toInt32)))] (.int (0 : Int32))) := by
  refine Ctr.of (plainFor_of_name pn_java_lang_StringUTF16) (fun m => ef_m38_compress m x1 x2 kk3 y4 y5 kk6) ?_
  intro p e s m below meth c T0 hx hZ hby hml hown hnm hret hlk X0 e0
  have N0 := Fr.nil n0
  show Rch p e below _ (T0.setTop (mkF m 0 #[.val (.ref x1), .val (.int (0 : Int32)), .val (.ref x2), .val (.int (0 : Int32)), .val (.int (2 : Int32)), .unset, .unset] []))
  refine Rch.go (fun t k => XS.iconst X0.here hx rfl (hb hby d3_0) k) ?_
  show Rch p e below _ (T0.setTop (mkF m 1 #[.val (.ref x1), .val (.int (0 : Int32)), .val (.ref x2), .val (.int (0 : Int32)), .val (.int (2 : Int32)), .unset, .unset] [(.int (0 : Int32))]))
  refine Rch.go (fun t k => XS.istore X0.here hx rfl (hb hby d3_1) rfl  (l' := #[.val (.ref x1), .val (.int (0 : Int32)), .val (.ref x2), .val (.int (0 : Int32)), .val (.int (2 : Int32)), .val (.int (0 : Int32)), .unset]) rfl k) ?_
  show Rch p e below _ (T0.setTop (mkF m 3 #[.val (.ref x1), .val (.int (0 : Int32)), .val (.ref x2), .val (.int (0 : Int32)), .val (.int (2 : Int32)), .val (.int (0 : Int32)), .unset] []))
  refine Rch.go (fun t k => XS.iload X0.here hx rfl (hb hby d3_3) rfl  k) ?_
  show Rch p e below _ (T0.setTop (mkF m 5 #[.val (.ref x1), .val (.int (0 : Int32)), .val (.ref x2), .val (.int (0 : Int32)), .val (.int (2 : Int32)), .val (.int (0 : Int32)), .unset] [(.int (0 : Int32))]))
  refine Rch.go (fun t k => XS.iload X0.here hx rfl (hb hby d3_5) rfl  k) ?_
  show Rch p e below _ (T0.setTop (mkF m 7 #[.val (.ref x1), .val (.int (0 : Int32)), .val (.ref x2), .val (.int (0 : Int32)), .val (.int (2 : Int32)), .val (.int (0 : Int32)), .unset] [(.int (2 : Int32)), (.int (0 : Int32))]))
  refine Rch.go (fun t k => XS.icmpNo X0.here hx rfl (hb hby d3_7) rfl (by decide) k) ?_
  show Rch p e below _ (T0.setTop (mkF m 10 #[.val (.ref x1), .val (.int (0 : Int32)), .val (.ref x2), .val (.int (0 : Int32)), .val (.int (2 : Int32)), .val (.int (0 : Int32)), .unset] []))
  refine Rch.go (fun t k => XS.aloadN X0.here hx rfl (hb hby d3_10) rfl rfl k) ?_
  show Rch p e below _ (T0.setTop (mkF m 11 #[.val (.ref x1), .val (.int (0 : Int32)), .val (.ref x2), .val (.int (0 : Int32)), .val (.int (2 : Int32)), .val (.int (0 : Int32)), .unset] [(.ref x1)]))
  refine Rch.go (fun t k => XS.iloadN X0.here hx rfl (hb hby d3_11) rfl  k) ?_
  show Rch p e below _ (T0.setTop (mkF m 12 #[.val (.ref x1), .val (.int (0 : Int32)), .val (.ref x2), .val (.int (0 : Int32)), .val (.int (2 : Int32)), .val (.int (0 : Int32)), .unset] [(.int (0 : Int32)), (.ref x1)]))
  obtain ⟨c1, r1, q1, s1, u1, H1, G1⟩ := id P1
  refine Rch.go (fun t k => X0.caload hx (j := (0 : Int32)) (v := (.int y4)) (by rw [e0]; exact r1.1) (State.isArrayOf_alike hZ.alike r1.2.1) r1.2.2 (inb_of s1 (by decide)) (H1.at (inb_of s1 (by decide)) rfl) (g := (mkF m 12 #[.val (.ref x1), .val (.int (0 : Int32)), .val (.ref x2), .val (.int (0 : Int32)), .val (.int (2 : Int32)), .val (.int (0 : Int32)), .unset] [(.int (0 : Int32)), (.ref x1)])) rfl rfl (hb hby d3_12) t k) ?_
  show Rch p e below _ (T0.setTop (mkF m 13 #[.val (.ref x1), .val (.int (0 : Int32)), .val (.ref x2), .val (.int (0 : Int32)), .val (.int (2 : Int32)), .val (.int (0 : Int32)), .unset] [(.int y4)]))
  refine Rch.go (fun t k => XS.istore X0.here hx rfl (hb hby d3_13) rfl  (l' := #[.val (.ref x1), .val (.int (0 : Int32)), .val (.ref x2), .val (.int (0 : Int32)), .val (.int (2 : Int32)), .val (.int (0 : Int32)), .val (.int y4)]) rfl k) ?_
  show Rch p e below _ (T0.setTop (mkF m 15 #[.val (.ref x1), .val (.int (0 : Int32)), .val (.ref x2), .val (.int (0 : Int32)), .val (.int (2 : Int32)), .val (.int (0 : Int32)), .val (.int y4)] []))
  refine Rch.go (fun t k => XS.iload X0.here hx rfl (hb hby d3_15) rfl  k) ?_
  show Rch p e below _ (T0.setTop (mkF m 17 #[.val (.ref x1), .val (.int (0 : Int32)), .val (.ref x2), .val (.int (0 : Int32)), .val (.int (2 : Int32)), .val (.int (0 : Int32)), .val (.int y4)] [(.int y4)]))
  refine Rch.go (fun t k => XS.sipush X0.here hx rfl (hb hby d3_17) k) ?_
  show Rch p e below _ (T0.setTop (mkF m 20 #[.val (.ref x1), .val (.int (0 : Int32)), .val (.ref x2), .val (.int (0 : Int32)), .val (.int (2 : Int32)), .val (.int (0 : Int32)), .val (.int y4)] [(.int (255 : Int32)), (.int y4)]))
  refine Rch.go (fun t k => XS.icmpYes X0.here hx rfl (pc0 := 20) (pc' := 26) rfl (hb hby d3_20) rfl (XT.ii_le_t P2) (by decide) (by decide) k) ?_
  show Rch p e below _ (T0.setTop (mkF m 26 #[.val (.ref x1), .val (.int (0 : Int32)), .val (.ref x2), .val (.int (0 : Int32)), .val (.int (2 : Int32)), .val (.int (0 : Int32)), .val (.int y4)] []))
  refine Rch.go (fun t k => XS.aloadN X0.here hx rfl (hb hby d3_26) rfl rfl k) ?_
  show Rch p e below _ (T0.setTop (mkF m 27 #[.val (.ref x1), .val (.int (0 : Int32)), .val (.ref x2), .val (.int (0 : Int32)), .val (.int (2 : Int32)), .val (.int (0 : Int32)), .val (.int y4)] [(.ref x2)]))
  refine Rch.go (fun t k => XS.iloadN X0.here hx rfl (hb hby d3_27) rfl  k) ?_
  show Rch p e below _ (T0.setTop (mkF m 28 #[.val (.ref x1), .val (.int (0 : Int32)), .val (.ref x2), .val (.int (0 : Int32)), .val (.int (2 : Int32)), .val (.int (0 : Int32)), .val (.int y4)] [(.int (0 : Int32)), (.ref x2)]))
  refine Rch.go (fun t k => XS.iload X0.here hx rfl (hb hby d3_28) rfl  k) ?_
  show Rch p e below _ (T0.setTop (mkF m 30 #[.val (.ref x1), .val (.int (0 : Int32)), .val (.ref x2), .val (.int (0 : Int32)), .val (.int (2 : Int32)), .val (.int (0 : Int32)), .val (.int y4)] [(.int y4), (.int (0 : Int32)), (.ref x2)]))
  refine Rch.go (fun t k => XS.i2b X0.here hx rfl (hb hby d3_30) rfl k) ?_
  show Rch p e below _ (T0.setTop (mkF m 31 #[.val (.ref x1), .val (.int (0 : Int32)), .val (.ref x2), .val (.int (0 : Int32)), .val (.int (2 : Int32)), .val (.int (0 : Int32)), .val (.int y4)] [(.int (y4.toInt8.toInt32)), (.int (0 : Int32)), (.ref x2)]))
  obtain ⟨c2, r2, q2, s2, u2, H2, G2⟩ := id P3
  obtain ⟨T3, h3, X3, e3, W3, st3⟩ := stB X0 hx hZ e0 r2 (j := (0 : Int32)) (inb_of s2 (by decide)) (g := (mkF m 31 #[.val (.ref x1), .val (.int (0 : Int32)), .val (.ref x2), .val (.int (0 : Int32)), .val (.int (2 : Int32)), .val (.int (0 : Int32)), .val (.int y4)] [(.int (y4.toInt8.toInt32)), (.int (0 : Int32)), (.ref x2)])) rfl rfl (hb hby d3_31)
  refine Rch.go st3 ?_
  have V3 : Arv Z h3 x2 kk6 .byte (2 : Int32) [(.int (nar .byte (y4.toInt8.toInt32))), (.int (0 : Int32))] (.int (0 : Int32)) := Arv.set r2 q2 s2 u2 H2 G2 (fits_nar_byte _) W3 0 rfl (Nat.le_of_ble_eq_true rfl)
  have z4 : n0 ≤ h3.size := (Nat.le_trans Z0 (Nat.le_of_eq W3.size.symm))
  have o5 := O0.wr W3 P4
  have N3 := Fr.snoc X3 N0 P4
  show Rch p e below _ (T3.setTop (mkF m 32 #[.val (.ref x1), .val (.int (0 : Int32)), .val (.ref x2), .val (.int (0 : Int32)), .val (.int (2 : Int32)), .val (.int (0 : Int32)), .val (.int y4)] []))
  refine Rch.go (fun t k => XS.iinc X3.here hx rfl (hb hby d3_32) rfl (l' := #[.val (.ref x1), .val (.int (1 : Int32)), .val (.ref x2), .val (.int (0 : Int32)), .val (.int (2 : Int32)), .val (.int (0 : Int32)), .val (.int y4)]) rfl k) ?_
  show Rch p e below _ (T3.setTop (mkF m 35 #[.val (.ref x1), .val (.int (1 : Int32)), .val (.ref x2), .val (.int (0 : Int32)), .val (.int (2 : Int32)), .val (.int (0 : Int32)), .val (.int y4)] []))
  refine Rch.go (fun t k => XS.iinc X3.here hx rfl (hb hby d3_35) rfl (l' := #[.val (.ref x1), .val (.int (1 : Int32)), .val (.ref x2), .val (.int (1 : Int32)), .val (.int (2 : Int32)), .val (.int (0 : Int32)), .val (.int y4)]) rfl k) ?_
  show Rch p e below _ (T3.setTop (mkF m 38 #[.val (.ref x1), .val (.int (1 : Int32)), .val (.ref x2), .val (.int (1 : Int32)), .val (.int (2 : Int32)), .val (.int (0 : Int32)), .val (.int y4)] []))
  refine Rch.go (fun t k => XS.iinc X3.here hx rfl (hb hby d3_38) rfl (l' := #[.val (.ref x1), .val (.int (1 : Int32)), .val (.ref x2), .val (.int (1 : Int32)), .val (.int (2 : Int32)), .val (.int (1 : Int32)), .val (.int y4)]) rfl k) ?_
  show Rch p e below _ (T3.setTop (mkF m 41 #[.val (.ref x1), .val (.int (1 : Int32)), .val (.ref x2), .val (.int (1 : Int32)), .val (.int (2 : Int32)), .val (.int (1 : Int32)), .val (.int y4)] []))
  refine Rch.go (fun t k => XS.goto X3.here hx rfl (pc0 := 41) (pc' := 3) rfl (hb hby d3_41) (by decide) (by decide) k) ?_
  show Rch p e below _ (T3.setTop (mkF m 3 #[.val (.ref x1), .val (.int (1 : Int32)), .val (.ref x2), .val (.int (1 : Int32)), .val (.int (2 : Int32)), .val (.int (1 : Int32)), .val (.int y4)] []))
  refine Rch.go (fun t k => XS.iload X3.here hx rfl (hb hby d3_3) rfl  k) ?_
  show Rch p e below _ (T3.setTop (mkF m 5 #[.val (.ref x1), .val (.int (1 : Int32)), .val (.ref x2), .val (.int (1 : Int32)), .val (.int (2 : Int32)), .val (.int (1 : Int32)), .val (.int y4)] [(.int (1 : Int32))]))
  refine Rch.go (fun t k => XS.iload X3.here hx rfl (hb hby d3_5) rfl  k) ?_
  show Rch p e below _ (T3.setTop (mkF m 7 #[.val (.ref x1), .val (.int (1 : Int32)), .val (.ref x2), .val (.int (1 : Int32)), .val (.int (2 : Int32)), .val (.int (1 : Int32)), .val (.int y4)] [(.int (2 : Int32)), (.int (1 : Int32))]))
  refine Rch.go (fun t k => XS.icmpNo X3.here hx rfl (hb hby d3_7) rfl (by decide) k) ?_
  show Rch p e below _ (T3.setTop (mkF m 10 #[.val (.ref x1), .val (.int (1 : Int32)), .val (.ref x2), .val (.int (1 : Int32)), .val (.int (2 : Int32)), .val (.int (1 : Int32)), .val (.int y4)] []))
  refine Rch.go (fun t k => XS.aloadN X3.here hx rfl (hb hby d3_10) rfl rfl k) ?_
  show Rch p e below _ (T3.setTop (mkF m 11 #[.val (.ref x1), .val (.int (1 : Int32)), .val (.ref x2), .val (.int (1 : Int32)), .val (.int (2 : Int32)), .val (.int (1 : Int32)), .val (.int y4)] [(.ref x1)]))
  refine Rch.go (fun t k => XS.iloadN X3.here hx rfl (hb hby d3_11) rfl  k) ?_
  show Rch p e below _ (T3.setTop (mkF m 12 #[.val (.ref x1), .val (.int (1 : Int32)), .val (.ref x2), .val (.int (1 : Int32)), .val (.int (2 : Int32)), .val (.int (1 : Int32)), .val (.int y4)] [(.int (1 : Int32)), (.ref x1)]))
  have f6 := (P1.other W3 P5)
  obtain ⟨c7, r7, q7, s7, u7, H7, G7⟩ := id f6
  refine Rch.go (fun t k => X3.caload hx (j := (1 : Int32)) (v := (.int y5)) (by rw [e3]; exact r7.1) (State.isArrayOf_alike hZ.alike r7.2.1) r7.2.2 (inb_of s7 (by decide)) (H7.at (inb_of s7 (by decide)) rfl) (g := (mkF m 12 #[.val (.ref x1), .val (.int (1 : Int32)), .val (.ref x2), .val (.int (1 : Int32)), .val (.int (2 : Int32)), .val (.int (1 : Int32)), .val (.int y4)] [(.int (1 : Int32)), (.ref x1)])) rfl rfl (hb hby d3_12) t k) ?_
  show Rch p e below _ (T3.setTop (mkF m 13 #[.val (.ref x1), .val (.int (1 : Int32)), .val (.ref x2), .val (.int (1 : Int32)), .val (.int (2 : Int32)), .val (.int (1 : Int32)), .val (.int y4)] [(.int y5)]))
  refine Rch.go (fun t k => XS.istore X3.here hx rfl (hb hby d3_13) rfl  (l' := #[.val (.ref x1), .val (.int (1 : Int32)), .val (.ref x2), .val (.int (1 : Int32)), .val (.int (2 : Int32)), .val (.int (1 : Int32)), .val (.int y5)]) rfl k) ?_
  show Rch p e below _ (T3.setTop (mkF m 15 #[.val (.ref x1), .val (.int (1 : Int32)), .val (.ref x2), .val (.int (1 : Int32)), .val (.int (2 : Int32)), .val (.int (1 : Int32)), .val (.int y5)] []))
  refine Rch.go (fun t k => XS.iload X3.here hx rfl (hb hby d3_15) rfl  k) ?_
  show Rch p e below _ (T3.setTop (mkF m 17 #[.val (.ref x1), .val (.int (1 : Int32)), .val (.ref x2), .val (.int (1 : Int32)), .val (.int (2 : Int32)), .val (.int (1 : Int32)), .val (.int y5)] [(.int y5)]))
  refine Rch.go (fun t k => XS.sipush X3.here hx rfl (hb hby d3_17) k) ?_
  show Rch p e below _ (T3.setTop (mkF m 20 #[.val (.ref x1), .val (.int (1 : Int32)), .val (.ref x2), .val (.int (1 : Int32)), .val (.int (2 : Int32)), .val (.int (1 : Int32)), .val (.int y5)] [(.int (255 : Int32)), (.int y5)]))
  refine Rch.go (fun t k => XS.icmpYes X3.here hx rfl (pc0 := 20) (pc' := 26) rfl (hb hby d3_20) rfl (XT.ii_le_t P6) (by decide) (by decide) k) ?_
  show Rch p e below _ (T3.setTop (mkF m 26 #[.val (.ref x1), .val (.int (1 : Int32)), .val (.ref x2), .val (.int (1 : Int32)), .val (.int (2 : Int32)), .val (.int (1 : Int32)), .val (.int y5)] []))
  refine Rch.go (fun t k => XS.aloadN X3.here hx rfl (hb hby d3_26) rfl rfl k) ?_
  show Rch p e below _ (T3.setTop (mkF m 27 #[.val (.ref x1), .val (.int (1 : Int32)), .val (.ref x2), .val (.int (1 : Int32)), .val (.int (2 : Int32)), .val (.int (1 : Int32)), .val (.int y5)] [(.ref x2)]))
  refine Rch.go (fun t k => XS.iloadN X3.here hx rfl (hb hby d3_27) rfl  k) ?_
  show Rch p e below _ (T3.setTop (mkF m 28 #[.val (.ref x1), .val (.int (1 : Int32)), .val (.ref x2), .val (.int (1 : Int32)), .val (.int (2 : Int32)), .val (.int (1 : Int32)), .val (.int y5)] [(.int (1 : Int32)), (.ref x2)]))
  refine Rch.go (fun t k => XS.iload X3.here hx rfl (hb hby d3_28) rfl  k) ?_
  show Rch p e below _ (T3.setTop (mkF m 30 #[.val (.ref x1), .val (.int (1 : Int32)), .val (.ref x2), .val (.int (1 : Int32)), .val (.int (2 : Int32)), .val (.int (1 : Int32)), .val (.int y5)] [(.int y5), (.int (1 : Int32)), (.ref x2)]))
  refine Rch.go (fun t k => XS.i2b X3.here hx rfl (hb hby d3_30) rfl k) ?_
  show Rch p e below _ (T3.setTop (mkF m 31 #[.val (.ref x1), .val (.int (1 : Int32)), .val (.ref x2), .val (.int (1 : Int32)), .val (.int (2 : Int32)), .val (.int (1 : Int32)), .val (.int y5)] [(.int (y5.toInt8.toInt32)), (.int (1 : Int32)), (.ref x2)]))
  obtain ⟨c8, r8, q8, s8, u8, H8, G8⟩ := id V3
  obtain ⟨T9, h9, X9, e9, W9, st9⟩ := stB X3 hx hZ e3 r8 (j := (1 : Int32)) (inb_of s8 (by decide)) (g := (mkF m 31 #[.val (.ref x1), .val (.int (1 : Int32)), .val (.ref x2), .val (.int (1 : Int32)), .val (.int (2 : Int32)), .val (.int (1 : Int32)), .val (.int y5)] [(.int (y5.toInt8.toInt32)), (.int (1 : Int32)), (.ref x2)])) rfl rfl (hb hby d3_31)
  refine Rch.go st9 ?_
  have V9 : Arv Z h9 x2 kk6 .byte (2 : Int32) [(.int (nar .byte (y4.toInt8.toInt32))), (.int (nar .byte (y5.toInt8.toInt32)))] (.int (0 : Int32)) := Arv.set r8 q8 s8 u8 H8 G8 (fits_nar_byte _) W9 1 rfl (Nat.le_of_ble_eq_true rfl)
  have z10 : n0 ≤ h9.size := (Nat.le_trans z4 (Nat.le_of_eq W9.size.symm))
  have o11 := o5.wr W9 P4
  have N9 := Fr.snoc X9 N3 P4
  show Rch p e below _ (T9.setTop (mkF m 32 #[.val (.ref x1), .val (.int (1 : Int32)), .val (.ref x2), .val (.int (1 : Int32)), .val (.int (2 : Int32)), .val (.int (1 : Int32)), .val (.int y5)] []))
  refine Rch.go (fun t k => XS.iinc X9.here hx rfl (hb hby d3_32) rfl (l' := #[.val (.ref x1), .val (.int (2 : Int32)), .val (.ref x2), .val (.int (1 : Int32)), .val (.int (2 : Int32)), .val (.int (1 : Int32)), .val (.int y5)]) rfl k) ?_
  show Rch p e below _ (T9.setTop (mkF m 35 #[.val (.ref x1), .val (.int (2 : Int32)), .val (.ref x2), .val (.int (1 : Int32)), .val (.int (2 : Int32)), .val (.int (1 : Int32)), .val (.int y5)] []))
  refine Rch.go (fun t k => XS.iinc X9.here hx rfl (hb hby d3_35) rfl (l' := #[.val (.ref x1), .val (.int (2 : Int32)), .val (.ref x2), .val (.int (2 : Int32)), .val (.int (2 : Int32)), .val (.int (1 : Int32)), .val (.int y5)]) rfl k) ?_
  show Rch p e below _ (T9.setTop (mkF m 38 #[.val (.ref x1), .val (.int (2 : Int32)), .val (.ref x2), .val (.int (2 : Int32)), .val (.int (2 : Int32)), .val (.int (1 : Int32)), .val (.int y5)] []))
  refine Rch.go (fun t k => XS.iinc X9.here hx rfl (hb hby d3_38) rfl (l' := #[.val (.ref x1), .val (.int (2 : Int32)), .val (.ref x2), .val (.int (2 : Int32)), .val (.int (2 : Int32)), .val (.int (2 : Int32)), .val (.int y5)]) rfl k) ?_
  show Rch p e below _ (T9.setTop (mkF m 41 #[.val (.ref x1), .val (.int (2 : Int32)), .val (.ref x2), .val (.int (2 : Int32)), .val (.int (2 : Int32)), .val (.int (2 : Int32)), .val (.int y5)] []))
  refine Rch.go (fun t k => XS.goto X9.here hx rfl (pc0 := 41) (pc' := 3) rfl (hb hby d3_41) (by decide) (by decide) k) ?_
  show Rch p e below _ (T9.setTop (mkF m 3 #[.val (.ref x1), .val (.int (2 : Int32)), .val (.ref x2), .val (.int (2 : Int32)), .val (.int (2 : Int32)), .val (.int (2 : Int32)), .val (.int y5)] []))
  refine Rch.go (fun t k => XS.iload X9.here hx rfl (hb hby d3_3) rfl  k) ?_
  show Rch p e below _ (T9.setTop (mkF m 5 #[.val (.ref x1), .val (.int (2 : Int32)), .val (.ref x2), .val (.int (2 : Int32)), .val (.int (2 : Int32)), .val (.int (2 : Int32)), .val (.int y5)] [(.int (2 : Int32))]))
  refine Rch.go (fun t k => XS.iload X9.here hx rfl (hb hby d3_5) rfl  k) ?_
  show Rch p e below _ (T9.setTop (mkF m 7 #[.val (.ref x1), .val (.int (2 : Int32)), .val (.ref x2), .val (.int (2 : Int32)), .val (.int (2 : Int32)), .val (.int (2 : Int32)), .val (.int y5)] [(.int (2 : Int32)), (.int (2 : Int32))]))
  refine Rch.go (fun t k => XS.icmpYes X9.here hx rfl (pc0 := 7) (pc' := 44) rfl (hb hby d3_7) rfl (by decide) (by decide) (by decide) k) ?_
  show Rch p e below _ (T9.setTop (mkF m 44 #[.val (.ref x1), .val (.int (2 : Int32)), .val (.ref x2), .val (.int (2 : Int32)), .val (.int (2 : Int32)), .val (.int (2 : Int32)), .val (.int y5)] []))
  refine Rch.go (fun t k => XS.iload X9.here hx rfl (hb hby d3_44) rfl  k) ?_
  show Rch p e below _ (T9.setTop (mkF m 46 #[.val (.ref x1), .val (.int (2 : Int32)), .val (.ref x2), .val (.int (2 : Int32)), .val (.int (2 : Int32)), .val (.int (2 : Int32)), .val (.int y5)] [(.int (2 : Int32))]))
  refine Rch.val X9 hx (t := .int) hret hlk rfl (mayI (by simp)) (hb hby d3_46) (by decide) (by decide) ?_
  try rw [e9]
  exact ⟨rfl, N9, (((Keep.refl _ _).wr W3 (Or.inl (List.mem_of_getElem? (i := 0) rfl))).wr W9 (Or.inl (List.mem_of_getElem? (i := 0) rfl))), V9⟩
set_option maxRecDepth 65536 in
set_option maxHeartbeats 4000000 in
theorem ef_m37_compress (m : MethodId) (x1 : Addr) (kk2 : ClassId) (y3 : Int32) (y4 : Int32) : entryFrame m #[(.ref x1), (.int (0 : Int32)), (.int (2 : Int32))] 6 = mkF m 0 #[.val (.ref x1), .val (.int (0 : Int32)), .val (.int (2 : Int32)), .unset, .unset, .unset] [] := by first | rfl | (simp [entryFrame, mkF, argsToLocals, Value.category]; done)
set_option maxRecDepth 65536 in
set_option maxHeartbeats 40000000 in
theorem m37_compress (l : Launch) (Z : State) (a0 : Array Value) (hw : ∀ d ∈ tables_1, d.before a0 Z = true) (x1 : Addr) (kk2 : ClassId) (y3 : Int32) (y4 : Int32) (h0 : Heap) (n0 : Nat) (Z0 : n0 ≤ h0.size) (O0 : Old Z n0 h0) (P1 : Arv Z h0 x1 kk2 .char (2 : Int32) [(.int y3), (.int y4)] (.int (0 : Int32))) (P2 : ¬ ((255 : Int32) < y3)) (P3 : ¬ ((255 : Int32) < y4)) :
    Ctr l Z [] (⟨"java/lang/StringUTF16", "compress", "([CII)[B"⟩ : MethodName) jdk_52_method_16_code 6 (some (.array .byte)) #[(.ref x1), (.int (0 : Int32)), (.int (2 : Int32))] h0 ({ frames := 1, cells := 1, slots := 2, locals := 18 } : Room) (fun v h L => ∃ (b1 : Addr) (k1 : ClassId), v = some (.ref b1) ∧ Fr n0 L ∧ Keep h0 h [] ∧ h0.size ≤ b1 ∧ Exa Z h b1 "[B" ∧ Arv Z h b1 k1 .byte (2 : Int32) [(.int (nar .byte (y3.toInt8.toInt32))), (.int (nar .byte (y4.toInt8.toInt32)))] (.int (0 : Int32))) := by
  refine Ctr.of (plainFor_of_name pn_java_lang_StringUTF16) (fun m => ef_m37_compress m x1 kk2 y3 y4) ?_
  intro p e s m below meth c T0 hx hZ hby hml hown hnm hret hlk X0 e0
  have N0 := Fr.nil n0
  show Rch p e below _ (T0.setTop (mkF m 0 #[.val (.ref x1), .val (.int (0 : Int32)), .val (.int (2 : Int32)), .unset, .unset, .unset] []))
  refine Rch.go (fun t k => XS.iloadN X0.here hx rfl (hb hby d2_0) rfl  k) ?_
  show Rch p e below _ (T0.setTop (mkF m 1 #[.val (.ref x1), .val (.int (0 : Int32)), .val (.int (2 : Int32)), .unset, .unset, .unset] [(.int (2 : Int32))]))
  obtain ⟨T1, h1, k1, X1, e1, E1, A1, B1, st1⟩ := newPE (aty := .byte) X0 hx hZ (wd_20 hw) e0 (g := (mkF m 1 #[.val (.ref x1), .val (.int (0 : Int32)), .val (.int (2 : Int32)), .unset, .unset, .unset] [(.int (2 : Int32))])) rfl (hb hby d2_1) rfl (by decide) (cap := 2) (by decide) (by decide) (by decide) (by decide) (ad := "[B") (by decide +kernel)
  obtain ⟨b1, g1⟩ : ∃ z, z = h0.size := ⟨_, rfl⟩
  rw [← g1] at A1 B1 st1
  refine Rch.go st1 ?_
  have z2 : n0 ≤ h1.size := (Nat.le_trans Z0 E1.1)
  have o3 := O0.ext E1
  have g_b1 : n0 ≤ b1 := Nat.le_trans Z0 (Nat.le_of_eq g1.symm)
  have V1 : Arv Z h1 b1 k1 .byte (2 : Int32) [(.int (0 : Int32)), (.int (0 : Int32))] (.int (0 : Int32)) := (Arv.new A1 (by decide)).pad (pad_rep [] (.int (0 : Int32)) 2)
  show Rch p e below _ (T1.setTop (mkF m 3 #[.val (.ref x1), .val (.int (0 : Int32)), .val (.int (2 : Int32)), .unset, .unset, .unset] [(.ref b1)]))
  refine Rch.go (fun t k => XS.astoreN X1.here hx rfl (hb hby d2_3) rfl rfl (l' := #[.val (.ref x1), .val (.int (0 : Int32)), .val (.int (2 : Int32)), .val (.ref b1), .unset, .unset]) rfl k) ?_
  show Rch p e below _ (T1.setTop (mkF m 4 #[.val (.ref x1), .val (.int (0 : Int32)), .val (.int (2 : Int32)), .val (.ref b1), .unset, .unset] []))
  refine Rch.go (fun t k => XS.aloadN X1.here hx rfl (hb hby d2_4) rfl rfl k) ?_
  show Rch p e below _ (T1.setTop (mkF m 5 #[.val (.ref x1), .val (.int (0 : Int32)), .val (.int (2 : Int32)), .val (.ref b1), .unset, .unset] [(.ref x1)]))
  refine Rch.go (fun t k => XS.iloadN X1.here hx rfl (hb hby d2_5) rfl  k) ?_
  show Rch p e below _ (T1.setTop (mkF m 6 #[.val (.ref x1), .val (.int (0 : Int32)), .val (.int (2 : Int32)), .val (.ref b1), .unset, .unset] [(.int (0 : Int32)), (.ref x1)]))
  refine Rch.go (fun t k => XS.aloadN X1.here hx rfl (hb hby d2_6) rfl rfl k) ?_
  show Rch p e below _ (T1.setTop (mkF m 7 #[.val (.ref x1), .val (.int (0 : Int32)), .val (.int (2 : Int32)), .val (.ref b1), .unset, .unset] [(.ref b1), (.int (0 : Int32)), (.ref x1)]))
  refine Rch.go (fun t k => XS.iconst X1.here hx rfl (hb hby d2_7) k) ?_
  show Rch p e below _ (T1.setTop (mkF m 8 #[.val (.ref x1), .val (.int (0 : Int32)), .val (.int (2 : Int32)), .val (.ref b1), .unset, .unset] [(.int (0 : Int32)), (.ref b1), (.int (0 : Int32)), (.ref x1)]))
  refine Rch.go (fun t k => XS.iloadN X1.here hx rfl (hb hby d2_8) rfl  k) ?_
  show Rch p e below _ (T1.setTop (mkF m 9 #[.val (.ref x1), .val (.int (0 : Int32)), .val (.int (2 : Int32)), .val (.ref b1), .unset, .unset] [(.int (2 : Int32)), (.int (0 : Int32)), (.ref b1), (.int (0 : Int32)), (.ref x1)]))
  have f4 := (P1.ext E1)
  have lt5 := P1.lt
  have ne6 : x1 ≠ b1 := Nat.ne_of_lt (Nat.lt_of_lt_of_le lt5 (Nat.le_of_eq g1.symm))
  obtain ⟨v7, T7, L7, X7, Q7, st7⟩ := callSt X1 hx hZ (m38_compress l Z a0 hw x1 b1 kk2 y3 y4 k1 h1 n0 z2 o3 f4 P2 V1 g_b1 ne6 P3) e1 hown (wd_21 hw) (wd_22 hw) (wd_23 hw) (wd_18 hw) (by decide) (hb hby d2_9) 0 (by decide) (by decide) (by decide) (by decide) (by rw [hml]; rfl) [(.ref x1), (.int (0 : Int32)), (.ref b1), (.int (0 : Int32)), (.int (2 : Int32))] [] rfl (lenOf pd_0 rfl) rfl (Nat.le_of_eq rfl) (Ls := #[.val (.ref x1), .val (.int (0 : Int32)), .val (.int (2 : Int32)), .val (.ref b1), .unset, .unset])
  obtain ⟨rfl, M7, K7, F7_0⟩ := Q7
  have N7 := Fr.app N0 M7
  refine Rch.go st7 ?_
  have z8 : n0 ≤ T7.heap.size := (Nat.le_trans z2 K7.1)
  have o9 := o3.keep K7 (allS g_b1 all0)
  show Rch p e below _ (T7.setTop (mkF m 12 #[.val (.ref x1), .val (.int (0 : Int32)), .val (.int (2 : Int32)), .val (.ref b1), .unset, .unset] [(.int (2 : Int32))]))
  refine Rch.go (fun t k => XS.istore X7.here hx rfl (hb hby d2_12) rfl  (l' := #[.val (.ref x1), .val (.int (0 : Int32)), .val (.int (2 : Int32)), .val (.ref b1), .val (.int (2 : Int32)), .unset]) rfl k) ?_
  show Rch p e below _ (T7.setTop (mkF m 14 #[.val (.ref x1), .val (.int (0 : Int32)), .val (.int (2 : Int32)), .val (.ref b1), .val (.int (2 : Int32)), .unset] []))
  refine Rch.go (fun t k => XS.iload X7.here hx rfl (hb hby d2_14) rfl  k) ?_
  show Rch p e below _ (T7.setTop (mkF m 16 #[.val (.ref x1), .val (.int (0 : Int32)), .val (.int (2 : Int32)), .val (.ref b1), .val (.int (2 : Int32)), .unset] [(.int (2 : Int32))]))
  refine Rch.go (fun t k => XS.iloadN X7.here hx rfl (hb hby d2_16) rfl  k) ?_
  show Rch p e below _ (T7.setTop (mkF m 17 #[.val (.ref x1), .val (.int (0 : Int32)), .val (.int (2 : Int32)), .val (.ref b1), .val (.int (2 : Int32)), .unset] [(.int (2 : Int32)), (.int (2 : Int32))]))
  refine Rch.go (fun t k => XS.icmpYes X7.here hx rfl (pc0 := 17) (pc' := 57) rfl (hb hby d2_17) rfl (by decide) (by decide) (by decide) k) ?_
  show Rch p e below _ (T7.setTop (mkF m 57 #[.val (.ref x1), .val (.int (0 : Int32)), .val (.int (2 : Int32)), .val (.ref b1), .val (.int (2 : Int32)), .unset] []))
  refine Rch.go (fun t k => XS.aloadN X7.here hx rfl (hb hby d2_57) rfl rfl k) ?_
  show Rch p e below _ (T7.setTop (mkF m 58 #[.val (.ref x1), .val (.int (0 : Int32)), .val (.int (2 : Int32)), .val (.ref b1), .val (.int (2 : Int32)), .unset] [(.ref b1)]))
  have f10 := (B1.keep K7)
  refine Rch.val X7 hx (t := (.array .byte)) hret hlk rfl (Or.inr (Or.inr (Or.inr (Or.inr ⟨rfl, rfl, rfl⟩)))) (hb hby d2_58) (by decide) (by decide) ?_
  exact ⟨b1, k1, rfl, N7, (((Keep.refl _ _).ext E1).trans K7 (allS (Or.inr (Nat.le_trans (Nat.le_refl _) (Nat.le_of_eq g1.symm))) all0)), (Nat.le_trans (Nat.le_refl _) (Nat.le_of_eq g1.symm)), f10, F7_0⟩
set_option maxRecDepth 65536 in
set_option maxHeartbeats 4000000 in
theorem ef_m39_coderFromArrayLen (m : MethodId) (x1 : Addr) (kk2 : ClassId) (y3 : Int32) (y4 : Int32) : entryFrame m #[(.ref x1), (.int (2 : Int32))] 2 = mkF m 0 #[.val (.ref x1), .val (.int (2 : Int32))] [] := by first | rfl | (simp [entryFrame, mkF, argsToLocals, Value.category]; done)
set_option maxRecDepth 65536 in
set_option maxHeartbeats 40000000 in
theorem m39_coderFromArrayLen (l : Launch) (Z : State) (a0 : Array Value) (hw : ∀ d ∈ tables_1, d.before a0 Z = true) (x1 : Addr) (kk2 : ClassId) (y3 : Int32) (y4 : Int32) (h0 : Heap) (n0 : Nat) (Z0 : n0 ≤ h0.size) (O0 : Old Z n0 h0) (P1 : Arv Z h0 x1 kk2 .byte (2 : Int32) [(.int y3), (.int y4)] (.int (0 : Int32))) :
    Ctr l Z [] (⟨"java/lang/StringUTF16", "coderFromArrayLen", "([BI)B"⟩ : MethodName) jdk_52_method_15_code 2 (some .byte) #[(.ref x1), (.int (2 : Int32))] h0 ({ frames := 0, cells := 0, slots := 0, locals := 0 } : Room) (fun v h L => v = some (.int (0 : Int32)) ∧ Fr n0 L ∧ h = h0) := by
  refine Ctr.of (plainFor_of_name pn_java_lang_StringUTF16) (fun m => ef_m39_coderFromArrayLen m x1 kk2 y3 y4) ?_
  intro p e s m below meth c T0 hx hZ hby hml hown hnm hret hlk X0 e0
  have N0 := Fr.nil n0
  show Rch p e below _ (T0.setTop (mkF m 0 #[.val (.ref x1), .val (.int (2 : Int32))] []))
  refine Rch.go (fun t k => XS.iloadN X0.here hx rfl (hb hby d4_0) rfl  k) ?_
  show Rch p e below _ (T0.setTop (mkF m 1 #[.val (.ref x1), .val (.int (2 : Int32))] [(.int (2 : Int32))]))
  refine Rch.go (fun t k => XS.aloadN X0.here hx rfl (hb hby d4_1) rfl rfl k) ?_
  show Rch p e below _ (T0.setTop (mkF m 2 #[.val (.ref x1), .val (.int (2 : Int32))] [(.ref x1), (.int (2 : Int32))]))
  obtain ⟨c1, r1, q1, s1, u1, H1, G1⟩ := id P1
  refine Rch.go (fun t k => X0.arraylength hx (by rw [e0]; exact r1.1) (State.isArrayOf_alike hZ.alike r1.2.1) (g := (mkF m 2 #[.val (.ref x1), .val (.int (2 : Int32))] [(.ref x1), (.int (2 : Int32))])) rfl rfl (hb hby d4_2) t (by rw [len_of s1 u1]; exact k)) ?_
  show Rch p e below _ (T0.setTop (mkF m 3 #[.val (.ref x1), .val (.int (2 : Int32))] [(.int (2 : Int32)), (.int (2 : Int32))]))
  refine Rch.go (fun t k => XS.isub X0.here hx rfl (hb hby d4_3) rfl k) ?_
  show Rch p e below _ (T0.setTop (mkF m 4 #[.val (.ref x1), .val (.int (2 : Int32))] [(.int (0 : Int32))]))
  refine Rch.go (fun t k => XS.bipush X0.here hx rfl (hb hby d4_4) k) ?_
  show Rch p e below _ (T0.setTop (mkF m 6 #[.val (.ref x1), .val (.int (2 : Int32))] [(.int (31 : Int32)), (.int (0 : Int32))]))
  refine Rch.go (fun t k => XS.iushr X0.here hx rfl (hb hby d4_6) rfl k) ?_
  show Rch p e below _ (T0.setTop (mkF m 7 #[.val (.ref x1), .val (.int (2 : Int32))] [(.int (0 : Int32))]))
  refine Rch.go (fun t k => XS.i2b X0.here hx rfl (hb hby d4_7) rfl k) ?_
  show Rch p e below _ (T0.setTop (mkF m 8 #[.val (.ref x1), .val (.int (2 : Int32))] [(.int (0 : Int32))]))
  refine Rch.val X0 hx (t := .byte) hret hlk rfl (mayI (by simp)) (hb hby d4_8) (by decide) (by decide) ?_
  try rw [e0]
  exact ⟨rfl, N0, rfl⟩
set_option maxRecDepth 65536 in
set_option maxHeartbeats 4000000 in
theorem ef_m36_init (m : MethodId) (x1 : Addr) (x2 : Addr) (y3 : Int32) (kk4 : ClassId) (y5 : Int32) (y6 : Int32) : entryFrame m #[(.ref x1), (.ref x2), (.int (0 : Int32)), (.int (2 : Int32)), .null] 6 = mkF m 0 #[.val (.ref x1), .val (.ref x2), .val (.int (0 : Int32)), .val (.int (2 : Int32)), .val .null, .unset] [] := by first | rfl | (simp [entryFrame, mkF, argsToLocals, Value.category]; done)
set_option maxRecDepth 65536 in
set_option maxHeartbeats 40000000 in
theorem m36_init (l : Launch) (Z : State) (a0 : Array Value) (hw : ∀ d ∈ tables_1, d.before a0 Z = true) (x1 : Addr) (x2 : Addr) (y3 : Int32) (kk4 : ClassId) (y5 : Int32) (y6 : Int32) (h0 : Heap) (n0 : Nat) (Z0 : n0 ≤ h0.size) (O0 : Old Z n0 h0) (P1 : Sta Z Z.heap "java/lang/String" "COMPACT_STRINGS" "Z" (.int y3)) (P2 : ¬ (y3 = (0 : Int32))) (P3 : Arv Z h0 x2 kk4 .char (2 : Int32) [(.int y5), (.int y6)] (.int (0 : Int32))) (P4 : ¬ ((255 : Int32) < y5)) (P5 : ¬ ((255 : Int32) < y6)) (P6 : Exa Z h0 x1 "java/lang/String") (P7 : Fld Z h0 x1 "java/lang/String" "coder" "B" (.int (0 : Int32))) (P8 : n0 ≤ x1) (P9 : Fld Z h0 x1 "java/lang/String" "value" "[B" .null) :
    Ctr l Z [] (⟨"java/lang/String", "<init>", "([CIILjava/lang/Void;)V"⟩ : MethodName) jdk_42_method_149_code 6 none #[(.ref x1), (.ref x2), (.int (0 : Int32)), (.int (2 : Int32)), .null] h0 ({ frames := 2, cells := 1, slots := 2, locals := 35 } : Room) (fun v h L => ∃ (b3_0 : Addr) (k3_0 : ClassId), v = none ∧ Fr n0 L ∧ Keep h0 h [x1] ∧ h0.size ≤ b3_0 ∧ Exa Z h b3_0 "[B" ∧ Arv Z h b3_0 k3_0 .byte (2 : Int32) [(.int (nar .byte (y5.toInt8.toInt32))), (.int (nar .byte (y6.toInt8.toInt32)))] (.int (0 : Int32)) ∧ Fld Z h x1 "java/lang/String" "coder" "B" (.int (0 : Int32)) ∧ Fld Z h x1 "java/lang/String" "value" "[B" (.ref b3_0)) := by
  refine Ctr.of (plainFor_of_name pn_java_lang_String) (fun m => ef_m36_init m x1 x2 y3 kk4 y5 y6) ?_
  intro p e s m below meth c T0 hx hZ hby hml hown hnm hret hlk X0 e0
  have N0 := Fr.nil n0
  show Rch p e below _ (T0.setTop (mkF m 0 #[.val (.ref x1), .val (.ref x2), .val (.int (0 : Int32)), .val (.int (2 : Int32)), .val .null, .unset] []))
  refine Rch.go (fun t k => XS.aloadN X0.here hx rfl (hb hby d1_0) rfl rfl k) ?_
  show Rch p e below _ (T0.setTop (mkF m 1 #[.val (.ref x1), .val (.ref x2), .val (.int (0 : Int32)), .val (.int (2 : Int32)), .val .null, .unset] [(.ref x1)]))
  obtain ⟨T1, X1, e1, st1⟩ := initO X0 hx hZ hown (wd_12 hw) (wd_13 hw) (wd_14 hw) e0 (g := (mkF m 1 #[.val (.ref x1), .val (.ref x2), .val (.int (0 : Int32)), .val (.int (2 : Int32)), .val .null, .unset] [(.ref x1)])) rfl (by rw [hml]; rfl) rfl (hb hby d1_1) (by decide) (W := 0) (by show 2 * 0 + _ ≤ _; exact Nat.le_of_eq rfl) (by decide)
  refine Rch.go st1 ?_
  show Rch p e below _ (T1.setTop (mkF m 4 #[.val (.ref x1), .val (.ref x2), .val (.int (0 : Int32)), .val (.int (2 : Int32)), .val .null, .unset] []))
  refine Rch.go (fun t k => XS.iloadN X1.here hx rfl (hb hby d1_4) rfl  k) ?_
  show Rch p e below _ (T1.setTop (mkF m 5 #[.val (.ref x1), .val (.ref x2), .val (.int (0 : Int32)), .val (.int (2 : Int32)), .val .null, .unset] [(.int (2 : Int32))]))
  refine Rch.go (fun t k => XS.ifYes X1.here hx rfl (pc0 := 5) (pc' := 27) rfl (hb hby d1_5) rfl (by decide) (by decide) (by decide) k) ?_
  show Rch p e below _ (T1.setTop (mkF m 27 #[.val (.ref x1), .val (.ref x2), .val (.int (0 : Int32)), .val (.int (2 : Int32)), .val .null, .unset] []))
  obtain ⟨T2, X2, e2, st2⟩ := getS2 X1 hx hZ hown (host := "") (Or.inl (wd_15 hw)) Via.refl e1 (P1.ext O0.2) (g := (mkF m 27 #[.val (.ref x1), .val (.ref x2), .val (.int (0 : Int32)), .val (.int (2 : Int32)), .val .null, .unset] [])) rfl (hb hby d1_27)
  refine Rch.go st2 ?_
  show Rch p e below _ (T2.setTop (mkF m 30 #[.val (.ref x1), .val (.ref x2), .val (.int (0 : Int32)), .val (.int (2 : Int32)), .val .null, .unset] [(.int y3)]))
  refine Rch.go (fun t k => XS.ifNo X2.here hx rfl (hb hby d1_30) rfl (XT.i0_eq_f P2) k) ?_
  show Rch p e below _ (T2.setTop (mkF m 33 #[.val (.ref x1), .val (.ref x2), .val (.int (0 : Int32)), .val (.int (2 : Int32)), .val .null, .unset] []))
  refine Rch.go (fun t k => XS.aloadN X2.here hx rfl (hb hby d1_33) rfl rfl k) ?_
  show Rch p e below _ (T2.setTop (mkF m 34 #[.val (.ref x1), .val (.ref x2), .val (.int (0 : Int32)), .val (.int (2 : Int32)), .val .null, .unset] [(.ref x2)]))
  refine Rch.go (fun t k => XS.iloadN X2.here hx rfl (hb hby d1_34) rfl  k) ?_
  show Rch p e below _ (T2.setTop (mkF m 35 #[.val (.ref x1), .val (.ref x2), .val (.int (0 : Int32)), .val (.int (2 : Int32)), .val .null, .unset] [(.int (0 : Int32)), (.ref x2)]))
  refine Rch.go (fun t k => XS.iloadN X2.here hx rfl (hb hby d1_35) rfl  k) ?_
  show Rch p e below _ (T2.setTop (mkF m 36 #[.val (.ref x1), .val (.ref x2), .val (.int (0 : Int32)), .val (.int (2 : Int32)), .val .null, .unset] [(.int (2 : Int32)), (.int (0 : Int32)), (.ref x2)]))
  obtain ⟨v3, T3, L3, X3, Q3, st3⟩ := callSt X2 hx hZ (m37_compress l Z a0 hw x2 kk4 y5 y6 h0 n0 Z0 O0 P3 P4 P5) e2 hown (wd_16 hw) (wd_17 hw) (wd_19 hw) (wd_18 hw) (by decide) (hb hby d1_36) 0 (by decide) (by decide) (by decide) (by decide) (by rw [hml]; rfl) [(.ref x2), (.int (0 : Int32)), (.int (2 : Int32))] [] rfl (lenOf pd_1 rfl) rfl (Nat.le_of_eq rfl) (Ls := #[.val (.ref x1), .val (.ref x2), .val (.int (0 : Int32)), .val (.int (2 : Int32)), .val .null, .unset])
  obtain ⟨b3_0, k3_0, rfl, M3, K3, zz3_0, F3_0, F3_1⟩ := Q3
  have N3 := Fr.app N0 M3
  refine Rch.go st3 ?_
  have z4 : n0 ≤ T3.heap.size := (Nat.le_trans Z0 K3.1)
  have o5 := O0.keep K3 all0
  have g_b3_0 : n0 ≤ b3_0 := Nat.le_trans Z0 zz3_0
  show Rch p e below _ (T3.setTop (mkF m 39 #[.val (.ref x1), .val (.ref x2), .val (.int (0 : Int32)), .val (.int (2 : Int32)), .val .null, .unset] [(.ref b3_0)]))
  refine Rch.go (fun t k => XS.astore X3.here hx rfl (hb hby d1_39) rfl rfl (l' := #[.val (.ref x1), .val (.ref x2), .val (.int (0 : Int32)), .val (.int (2 : Int32)), .val .null, .val (.ref b3_0)]) rfl k) ?_
  show Rch p e below _ (T3.setTop (mkF m 41 #[.val (.ref x1), .val (.ref x2), .val (.int (0 : Int32)), .val (.int (2 : Int32)), .val .null, .val (.ref b3_0)] []))
  refine Rch.go (fun t k => XS.aloadN X3.here hx rfl (hb hby d1_41) rfl rfl k) ?_
  show Rch p e below _ (T3.setTop (mkF m 42 #[.val (.ref x1), .val (.ref x2), .val (.int (0 : Int32)), .val (.int (2 : Int32)), .val .null, .val (.ref b3_0)] [(.ref x1)]))
  refine Rch.go (fun t k => XS.aload X3.here hx rfl (hb hby d1_42) rfl rfl k) ?_
  show Rch p e below _ (T3.setTop (mkF m 44 #[.val (.ref x1), .val (.ref x2), .val (.int (0 : Int32)), .val (.int (2 : Int32)), .val .null, .val (.ref b3_0)] [(.ref b3_0), (.ref x1)]))
  refine Rch.go (fun t k => XS.iloadN X3.here hx rfl (hb hby d1_44) rfl  k) ?_
  show Rch p e below _ (T3.setTop (mkF m 45 #[.val (.ref x1), .val (.ref x2), .val (.int (0 : Int32)), .val (.int (2 : Int32)), .val .null, .val (.ref b3_0)] [(.int (2 : Int32)), (.ref b3_0), (.ref x1)]))
  obtain ⟨v6, T6, L6, X6, Q6, st6⟩ := callSt X3 hx hZ (m39_coderFromArrayLen l Z a0 hw b3_0 k3_0 (nar .byte (y5.toInt8.toInt32)) (nar .byte (y6.toInt8.toInt32)) T3.heap n0 z4 o5 F3_1) rfl hown (wd_24 hw) (wd_25 hw) (wd_26 hw) (wd_18 hw) (by decide) (hb hby d1_45) 1 (by decide) (by decide) (by decide) (by decide) (by rw [hml]; rfl) [(.ref b3_0), (.int (2 : Int32))] [(.ref x1)] rfl (lenOf pd_2 rfl) rfl (Nat.le_of_eq rfl) (Ls := #[.val (.ref x1), .val (.ref x2), .val (.int (0 : Int32)), .val (.int (2 : Int32)), .val .null, .val (.ref b3_0)])
  obtain ⟨rfl, M6, e6⟩ := Q6
  have N6 := Fr.app N3 M6
  refine Rch.go st6 ?_
  show Rch p e below _ (T6.setTop (mkF m 48 #[.val (.ref x1), .val (.ref x2), .val (.int (0 : Int32)), .val (.int (2 : Int32)), .val .null, .val (.ref b3_0)] [(.int (0 : Int32)), (.ref x1)]))
  have f8 := (P7.keep K3 nin0)
  have f9 := (P6.keep K3)
  obtain ⟨T7, h7, X7, e7, W7, st7⟩ := putFN X6 hx hZ hown (wd_27 hw) Via.refl e6 f8 f9 (Or.inr ⟨(wd_28 hw), rfl, hnm⟩) (wd_2 hw) (ty := .byte) (v' := (.int (0 : Int32))) (by decide) rfl rfl (g := (mkF m 48 #[.val (.ref x1), .val (.ref x2), .val (.int (0 : Int32)), .val (.int (2 : Int32)), .val .null, .val (.ref b3_0)] [(.int (0 : Int32)), (.ref x1)])) rfl rfl (hb hby d1_48)
  refine Rch.go st7 ?_
  have z10 : n0 ≤ h7.size := (Nat.le_trans z4 (Nat.le_of_eq W7.size.symm))
  have o11 := o5.wr W7 P8
  have F7 := f8.same W7
  have N7 := Fr.snoc X7 N6 P8
  show Rch p e below _ (T7.setTop (mkF m 51 #[.val (.ref x1), .val (.ref x2), .val (.int (0 : Int32)), .val (.int (2 : Int32)), .val .null, .val (.ref b3_0)] []))
  refine Rch.go (fun t k => XS.aloadN X7.here hx rfl (hb hby d1_51) rfl rfl k) ?_
  show Rch p e below _ (T7.setTop (mkF m 52 #[.val (.ref x1), .val (.ref x2), .val (.int (0 : Int32)), .val (.int (2 : Int32)), .val .null, .val (.ref b3_0)] [(.ref x1)]))
  refine Rch.go (fun t k => XS.aload X7.here hx rfl (hb hby d1_52) rfl rfl k) ?_
  show Rch p e below _ (T7.setTop (mkF m 54 #[.val (.ref x1), .val (.ref x2), .val (.int (0 : Int32)), .val (.int (2 : Int32)), .val .null, .val (.ref b3_0)] [(.ref b3_0), (.ref x1)]))
  have f13 := ((P9.keep K3 nin0).other W7 (Or.inr (slot_ne (Or.inr (wd_30 hw)) (Or.inr (wd_28 hw)) (by decide) (t := (.array .byte)) (t' := .byte) (by decide) (by decide))))
  have f14 := (f9.wr W7)
  obtain ⟨T12, h12, X12, e12, W12, st12⟩ := putF X7 hx hZ hown (host := "") (Or.inl (wd_29 hw)) Via.refl e7 f13 f14 (Or.inr ⟨(wd_30 hw), rfl, hnm⟩) (wd_2 hw) (ty := (.array .byte)) (by decide) rfl rfl (g := (mkF m 54 #[.val (.ref x1), .val (.ref x2), .val (.int (0 : Int32)), .val (.int (2 : Int32)), .val .null, .val (.ref b3_0)] [(.ref b3_0), (.ref x1)])) rfl rfl (hb hby d1_54)
  refine Rch.go st12 ?_
  have z15 : n0 ≤ h12.size := (Nat.le_trans z10 (Nat.le_of_eq W12.size.symm))
  have o16 := o11.wr W12 P8
  have F12 := f13.same W12
  have N12 := Fr.snoc X12 N7 P8
  show Rch p e below _ (T12.setTop (mkF m 57 #[.val (.ref x1), .val (.ref x2), .val (.int (0 : Int32)), .val (.int (2 : Int32)), .val .null, .val (.ref b3_0)] []))
  have f17 := ((F3_0.wr W7).wr W12)
  have lt18 := P6.lt
  have ne19 : x1 ≠ b3_0 := Nat.ne_of_lt (Nat.lt_of_lt_of_le lt18 zz3_0)
  have f20 := ((F3_1.other W7 (Ne.symm ne19)).other W12 (Ne.symm ne19))
  have f21 := (F7.other W12 (Or.inr (slot_ne (Or.inr (wd_28 hw)) (Or.inr (wd_30 hw)) (by decide) (t := .byte) (t' := (.array .byte)) (by decide) (by decide))))
  refine Rch.void X12 hx hret hlk (hb hby d1_57) (by decide) (by decide) ?_
  try rw [e12]
  exact ⟨b3_0, k3_0, rfl, N12, ((((Keep.refl _ _).trans K3 all0).wr W7 (Or.inl (List.mem_of_getElem? (i := 0) rfl))).wr W12 (Or.inl (List.mem_of_getElem? (i := 0) rfl))), (Nat.le_trans (Nat.le_refl _) zz3_0), f17, f20, f21, F12⟩
set_option maxRecDepth 65536 in
set_option maxHeartbeats 4000000 in
theorem ef_m35_init (m : MethodId) (x1 : Addr) (x2 : Addr) (kk3 : ClassId) (y4 : Int32) (y5 : Int32) (y6 : Int32) : entryFrame m #[(.ref x1), (.ref x2)] 2 = mkF m 0 #[.val (.ref x1), .val (.ref x2)] [] := by first | rfl | (simp [entryFrame, mkF, argsToLocals, Value.category]; done)
set_option maxRecDepth 65536 in
set_option maxHeartbeats 40000000 in
theorem m35_init (l : Launch) (Z : State) (a0 : Array Value) (hw : ∀ d ∈ tables_1, d.before a0 Z = true) (x1 : Addr) (x2 : Addr) (kk3 : ClassId) (y4 : Int32) (y5 : Int32) (y6 : Int32) (h0 : Heap) (n0 : Nat) (Z0 : n0 ≤ h0.size) (O0 : Old Z n0 h0) (P1 : Arv Z h0 x2 kk3 .char (2 : Int32) [(.int y4), (.int y5)] (.int (0 : Int32))) (P2 : Sta Z Z.heap "java/lang/String" "COMPACT_STRINGS" "Z" (.int y6)) (P3 : ¬ (y6 = (0 : Int32))) (P4 : ¬ ((255 : Int32) < y4)) (P5 : ¬ ((255 : Int32) < y5)) (P6 : Exa Z h0 x1 "java/lang/String") (P7 : Fld Z h0 x1 "java/lang/String" "coder" "B" (.int (0 : Int32))) (P8 : n0 ≤ x1) (P9 : Fld Z h0 x1 "java/lang/String" "value" "[B" .null) :
    Ctr l Z [] (⟨"java/lang/String", "<init>", "([C)V"⟩ : MethodName) jdk_42_method_3_code 2 none #[(.ref x1), (.ref x2)] h0 ({ frames := 3, cells := 1, slots := 2, locals := 52 } : Room) (fun v h L => ∃ (b2_0 : Addr) (k2_0 : ClassId), v = none ∧ Fr n0 L ∧ Keep h0 h [x1] ∧ h0.size ≤ b2_0 ∧ Exa Z h b2_0 "[B" ∧ Arv Z h b2_0 k2_0 .byte (2 : Int32) [(.int (nar .byte (y4.toInt8.toInt32))), (.int (nar .byte (y5.toInt8.toInt32)))] (.int (0 : Int32)) ∧ Fld Z h x1 "java/lang/String" "coder" "B" (.int (0 : Int32)) ∧ Fld Z h x1 "java/lang/String" "value" "[B" (.ref b2_0)) := by
  refine Ctr.of (plainFor_of_name pn_java_lang_String) (fun m => ef_m35_init m x1 x2 kk3 y4 y5 y6) ?_
  intro p e s m below meth c T0 hx hZ hby hml hown hnm hret hlk X0 e0
  have N0 := Fr.nil n0
  show Rch p e below _ (T0.setTop (mkF m 0 #[.val (.ref x1), .val (.ref x2)] []))
  refine Rch.go (fun t k => XS.aloadN X0.here hx rfl (hb hby d0_0) rfl rfl k) ?_
  show Rch p e below _ (T0.setTop (mkF m 1 #[.val (.ref x1), .val (.ref x2)] [(.ref x1)]))
  refine Rch.go (fun t k => XS.aloadN X0.here hx rfl (hb hby d0_1) rfl rfl k) ?_
  show Rch p e below _ (T0.setTop (mkF m 2 #[.val (.ref x1), .val (.ref x2)] [(.ref x2), (.ref x1)]))
  refine Rch.go (fun t k => XS.iconst X0.here hx rfl (hb hby d0_2) k) ?_
  show Rch p e below _ (T0.setTop (mkF m 3 #[.val (.ref x1), .val (.ref x2)] [(.int (0 : Int32)), (.ref x2), (.ref x1)]))
  refine Rch.go (fun t k => XS.aloadN X0.here hx rfl (hb hby d0_3) rfl rfl k) ?_
  show Rch p e below _ (T0.setTop (mkF m 4 #[.val (.ref x1), .val (.ref x2)] [(.ref x2), (.int (0 : Int32)), (.ref x2), (.ref x1)]))
  obtain ⟨c1, r1, q1, s1, u1, H1, G1⟩ := id P1
  refine Rch.go (fun t k => X0.arraylength hx (by rw [e0]; exact r1.1) (State.isArrayOf_alike hZ.alike r1.2.1) (g := (mkF m 4 #[.val (.ref x1), .val (.ref x2)] [(.ref x2), (.int (0 : Int32)), (.ref x2), (.ref x1)])) rfl rfl (hb hby d0_4) t (by rw [len_of s1 u1]; exact k)) ?_
  show Rch p e below _ (T0.setTop (mkF m 5 #[.val (.ref x1), .val (.ref x2)] [(.int (2 : Int32)), (.int (0 : Int32)), (.ref x2), (.ref x1)]))
  refine Rch.go (fun t k => XS.aconstNull X0.here hx rfl (hb hby d0_5) k) ?_
  show Rch p e below _ (T0.setTop (mkF m 6 #[.val (.ref x1), .val (.ref x2)] [.null, (.int (2 : Int32)), (.int (0 : Int32)), (.ref x2), (.ref x1)]))
  obtain ⟨v2, T2, L2, X2, Q2, st2⟩ := callSp X0 hx hZ (m36_init l Z a0 hw x1 x2 y6 kk3 y4 y5 h0 n0 Z0 O0 P2 P3 P1 P4 P5 P6 P7 P8 P9) e0 hown rfl (wd_8 hw) (wd_9 hw) (wd_11 hw) (wd_3 hw) (by decide) (hb hby d0_6) 0 (by decide) (by decide) (by decide) (by decide) (by rw [hml]; rfl) x1 [(.ref x2), (.int (0 : Int32)), (.int (2 : Int32)), .null] [] rfl (lenOf pd_3 rfl) rfl (Nat.le_of_eq rfl) (Ls := #[.val (.ref x1), .val (.ref x2)])
  obtain ⟨b2_0, k2_0, rfl, M2, K2, zz2_0, F2_0, F2_1, F2_2, F2_3⟩ := Q2
  have N2 := Fr.app N0 M2
  refine Rch.go st2 ?_
  have z3 : n0 ≤ T2.heap.size := (Nat.le_trans Z0 K2.1)
  have o4 := O0.keep K2 (allS P8 all0)
  have g_b2_0 : n0 ≤ b2_0 := Nat.le_trans Z0 zz2_0
  show Rch p e below _ (T2.setTop (mkF m 9 #[.val (.ref x1), .val (.ref x2)] []))
  refine Rch.void X2 hx hret hlk (hb hby d0_9) (by decide) (by decide) ?_
  exact ⟨b2_0, k2_0, rfl, N2, ((Keep.refl _ _).trans K2 (allS (Or.inl (List.mem_of_getElem? (i := 0) rfl)) all0)), (Nat.le_trans (Nat.le_refl _) zz2_0), F2_0, F2_1, F2_2, F2_3⟩
set_option maxRecDepth 65536 in
set_option maxHeartbeats 4000000 in
theorem ef_m42_isEmpty (m : MethodId) (x1 : Addr) (x2 : Addr) (kk3 : ClassId) (y4 : Int32) (y5 : Int32) : entryFrame m #[(.ref x1)] 1 = mkF m 0 #[.val (.ref x1)] [] := by first | rfl | (simp [entryFrame, mkF, argsToLocals, Value.category]; done)
set_option maxRecDepth 65536 in
set_option maxHeartbeats 40000000 in
theorem m42_isEmpty (l : Launch) (Z : State) (a0 : Array Value) (hw : ∀ d ∈ tables_1, d.before a0 Z = true) (x1 : Addr) (x2 : Addr) (kk3 : ClassId) (y4 : Int32) (y5 : Int32) (h0 : Heap) (n0 : Nat) (Z0 : n0 ≤ h0.size) (O0 : Old Z n0 h0) (P1 : Fld Z h0 x1 "java/lang/String" "value" "[B" (.ref x2)) (P2 : Arv Z h0 x2 kk3 .byte (2 : Int32) [(.int y4), (.int y5)] (.int (0 : Int32))) :
    Ctr l Z [] (⟨"java/lang/String", "isEmpty", "()Z"⟩ : MethodName) jdk_42_method_55_code 1 (some .boolean) #[(.ref x1)] h0 ({ frames := 0, cells := 0, slots := 0, locals := 0 } : Room) (fun v h L => v = some (.int (0 : Int32)) ∧ Fr n0 L ∧ h = h0) := by
  refine Ctr.of (plainFor_of_name pn_java_lang_String) (fun m => ef_m42_isEmpty m x1 x2 kk3 y4 y5) ?_
  intro p e s m below meth c T0 hx hZ hby hml hown hnm hret hlk X0 e0
  have N0 := Fr.nil n0
  show Rch p e below _ (T0.setTop (mkF m 0 #[.val (.ref x1)] []))
  refine Rch.go (fun t k => XS.aloadN X0.here hx rfl (hb hby d10_0) rfl rfl k) ?_
  show Rch p e below _ (T0.setTop (mkF m 1 #[.val (.ref x1)] [(.ref x1)]))
  obtain ⟨T1, X1, e1, st1⟩ := getF X0 hx hZ hown (host := "") (Or.inl (wd_29 hw)) Via.refl e0 P1 (g := (mkF m 1 #[.val (.ref x1)] [(.ref x1)])) rfl rfl (hb hby d10_1)
  refine Rch.go st1 ?_
  show Rch p e below _ (T1.setTop (mkF m 4 #[.val (.ref x1)] [(.ref x2)]))
  obtain ⟨c2, r2, q2, s2, u2, H2, G2⟩ := id P2
  refine Rch.go (fun t k => X1.arraylength hx (by rw [e1]; exact r2.1) (State.isArrayOf_alike hZ.alike r2.2.1) (g := (mkF m 4 #[.val (.ref x1)] [(.ref x2)])) rfl rfl (hb hby d10_4) t (by rw [len_of s2 u2]; exact k)) ?_
  show Rch p e below _ (T1.setTop (mkF m 5 #[.val (.ref x1)] [(.int (2 : Int32))]))
  refine Rch.go (fun t k => XS.ifYes X1.here hx rfl (pc0 := 5) (pc' := 12) rfl (hb hby d10_5) rfl (by decide) (by decide) (by decide) k) ?_
  show Rch p e below _ (T1.setTop (mkF m 12 #[.val (.ref x1)] []))
  refine Rch.go (fun t k => XS.iconst X1.here hx rfl (hb hby d10_12) k) ?_
  show Rch p e below _ (T1.setTop (mkF m 13 #[.val (.ref x1)] [(.int (0 : Int32))]))
  refine Rch.val X1 hx (t := .boolean) hret hlk rfl (mayI (by simp)) (hb hby d10_13) (by decide) (by decide) ?_
  try rw [e1]
  exact ⟨rfl, N0, rfl⟩
set_option maxRecDepth 65536 in
set_option maxHeartbeats 4000000 in
theorem ef_m41_init (m : MethodId) (x1 : Addr) (x2 : Addr) (x3 : Addr) (x4 : Addr) (kk5 : ClassId) (y6 : Int32) (y7 : Int32) : entryFrame m #[(.ref x1), (.ref x2), (.ref x3)] 3 = mkF m 0 #[.val (.ref x1), .val (.ref x2), .val (.ref x3)] [] := by first | rfl | (simp [entryFrame, mkF, argsToLocals, Value.category]; done)
set_option maxRecDepth 65536 in
set_option maxHeartbeats 40000000 in
theorem m41_init (l : Launch) (Z : State) (a0 : Array Value) (hw : ∀ d ∈ tables_1, d.before a0 Z = true) (x1 : Addr) (x2 : Addr) (x3 : Addr) (x4 : Addr) (kk5 : ClassId) (y6 : Int32) (y7 : Int32) (h0 : Heap) (n0 : Nat) (Z0 : n0 ≤ h0.size) (O0 : Old Z n0 h0) (P1 : Exa Z h0 x2 "java/lang/String") (P2 : Fld Z h0 x2 "java/lang/String" "value" "[B" (.ref x4)) (P3 : Arv Z h0 x4 kk5 .byte (2 : Int32) [(.int y6), (.int y7)] (.int (0 : Int32))) (P4 : Exa Z Z.heap x3 "java/util/ImmutableCollections$ListN") (P5 : Fld Z Z.heap x3 "java/util/ImmutableCollections$ListN" "allowNulls" "Z" (.int (0 : Int32))) (P6 : Exa Z h0 x1 "com/example/harpocrates/harpocrates/data/Taxonomy") (P7 : Fld Z h0 x1 "com/example/harpocrates/harpocrates/data/Taxonomy" "value" "Ljava/lang/String;" .null) (P8 : n0 ≤ x1) (P9 : Fld Z h0 x1 "com/example/harpocrates/harpocrates/data/Taxonomy" "children" "Ljava/util/List;" .null) :
    CtrW l Z [] (⟨"com/example/harpocrates/harpocrates/data/Taxonomy", "<init>", "(Ljava/lang/String;Ljava/util/List;)V"⟩ : MethodName) prog_9_method_1_code 3 none #[(.ref x1), (.ref x2), (.ref x3)] h0 ({ frames := 2, cells := 2, slots := 24, locals := 25 } : Room) (fun v h L => v = none ∧ Fr n0 L ∧ Keep h0 h [x1] ∧ Fld Z h x1 "com/example/harpocrates/harpocrates/data/Taxonomy" "value" "Ljava/lang/String;" (.ref x2) ∧ Fld Z h x1 "com/example/harpocrates/harpocrates/data/Taxonomy" "children" "Ljava/util/List;" (.ref x3)) := by
  refine CtrW.of (plainFor_of_name pn_com_example_harpocrates_harpocrates_data_Taxonomy) (fun m => ef_m41_init m x1 x2 x3 x4 kk5 y6 y7) ?_
  intro p e s vm0 m below meth c T0 hx hZ hby hml hown hnm hret hlk Y0 X0 e0
  have N0 := Fr.nil n0
  show Rch p e below _ (T0.setTop (mkF m 0 #[.val (.ref x1), .val (.ref x2), .val (.ref x3)] []))
  refine Rch.go (fun t k => XS.aloadN X0.here hx rfl (hb hby d7_0) rfl rfl k) ?_
  show Rch p e below _ (T0.setTop (mkF m 1 #[.val (.ref x1), .val (.ref x2), .val (.ref x3)] [(.ref x1)]))
  obtain ⟨v1, T1, L1, X1, Q1, st1⟩ := callSp X0 hx hZ (m9_init l Z a0 hw x1 h0 n0 Z0 O0 ) e0 hown rfl (wd_46 hw) (wd_47 hw) (wd_50 hw) (wd_49 hw) (by decide) (hb hby d7_1) 0 (by decide) (by decide) (by decide) (by decide) (by rw [hml]; rfl) x1 [] [] rfl (lenOf pd_6 rfl) rfl (Nat.le_of_eq rfl) (Ls := #[.val (.ref x1), .val (.ref x2), .val (.ref x3)])
  obtain ⟨rfl, M1, e1⟩ := Q1
  have N1 := Fr.app N0 M1
  refine Rch.go st1 ?_
  show Rch p e below _ (T1.setTop (mkF m 4 #[.val (.ref x1), .val (.ref x2), .val (.ref x3)] []))
  refine Rch.go (fun t k => XS.aloadN X1.here hx rfl (hb hby d7_4) rfl rfl k) ?_
  show Rch p e below _ (T1.setTop (mkF m 5 #[.val (.ref x1), .val (.ref x2), .val (.ref x3)] [(.ref x2)]))
  obtain ⟨b2, T2, h2, k2, X2, e2, E2, Y2, yk2, hZ2, hown2, st2⟩ := ldcS X1 hx hZ hown (wd_52 hw) (strW hw) e1 Y0 (Nat.le_refl _) (g := (mkF m 5 #[.val (.ref x1), .val (.ref x2), .val (.ref x3)] [(.ref x2)])) rfl (hb hby d7_5) (n := 20) (by decide) (by decide) (by decide) (by decide)
  refine Rch.go st2 ?_
  have z3 : n0 ≤ h2.size := (Nat.le_trans Z0 E2.1)
  have o4 := O0.ext E2
  show Rch p e below _ (T2.setTop (mkF m 7 #[.val (.ref x1), .val (.ref x2), .val (.ref x3)] [(.ref b2), (.ref x2)]))
  obtain ⟨v5, T5, L5, X5, Q5, st5⟩ := callSt X2 hx hZ2 (m10_requireNonNull l Z a0 hw x2 b2 h2 n0 z3 o4 ) e2 hown2 (wd_55 hw) (wd_56 hw) (wd_58 hw) (wd_57 hw) (by decide) (hb hby d7_7) 0 (by decide) (by decide) (by decide) (by decide) (by rw [hml]; rfl) [(.ref x2), (.ref b2)] [] rfl (lenOf pd_7 rfl) rfl (Nat.le_of_eq rfl) (Ls := #[.val (.ref x1), .val (.ref x2), .val (.ref x3)])
  obtain ⟨rfl, M5, e5⟩ := Q5
  have N5 := Fr.app N1 M5
  refine Rch.go st5 ?_
  show Rch p e below _ (T5.setTop (mkF m 10 #[.val (.ref x1), .val (.ref x2), .val (.ref x3)] [(.ref x2)]))
  refine Rch.go (fun t k => XS.pop X5.here hx rfl (hb hby d7_10) rfl rfl k) ?_
  show Rch p e below _ (T5.setTop (mkF m 11 #[.val (.ref x1), .val (.ref x2), .val (.ref x3)] []))
  refine Rch.go (fun t k => XS.aloadN X5.here hx rfl (hb hby d7_11) rfl rfl k) ?_
  show Rch p e below _ (T5.setTop (mkF m 12 #[.val (.ref x1), .val (.ref x2), .val (.ref x3)] [(.ref x2)]))
  have f6 := (P2.ext E2)
  have f7 := (P3.ext E2)
  have f9 := (P1.ext E2)
  obtain ⟨v8, T8, L8, X8, Q8, st8⟩ := callVi X5 hx hZ2 (m42_isEmpty l Z a0 hw x2 x4 kk5 y6 y7 h2 n0 z3 o4 f6 f7) e5 hown2 (wd_59 hw) (wd_60 hw) (wd_62 hw) (notFace_of_selects (args := #[]) (mvT hZ2 (wd_62 hw))) (wd_61 hw) (wd_63 hw) (wd_3 hw) (by decide) (hb hby d7_12) 0 (by decide) (by decide) (by decide) (by decide) (by rw [hml]; rfl) x2 f9 [] [] rfl (lenOf pd_8 rfl) rfl (Nat.le_of_eq rfl) (Ls := #[.val (.ref x1), .val (.ref x2), .val (.ref x3)])
  obtain ⟨rfl, M8, e8⟩ := Q8
  have N8 := Fr.app N5 M8
  refine Rch.go st8 ?_
  show Rch p e below _ (T8.setTop (mkF m 15 #[.val (.ref x1), .val (.ref x2), .val (.ref x3)] [(.int (0 : Int32))]))
  refine Rch.go (fun t k => XS.ifYes X8.here hx rfl (pc0 := 15) (pc' := 28) rfl (hb hby d7_15) rfl (by decide) (by decide) (by decide) k) ?_
  show Rch p e below _ (T8.setTop (mkF m 28 #[.val (.ref x1), .val (.ref x2), .val (.ref x3)] []))
  refine Rch.go (fun t k => XS.aloadN X8.here hx rfl (hb hby d7_28) rfl rfl k) ?_
  show Rch p e below _ (T8.setTop (mkF m 29 #[.val (.ref x1), .val (.ref x2), .val (.ref x3)] [(.ref x3)]))
  obtain ⟨v10, T10, L10, X10, Q10, st10⟩ := callSt X8 hx hZ2 (m12_copyOf l Z a0 hw x3 h2 n0 z3 o4 P4 P5) e8 hown2 (wd_64 hw) (wd_65 hw) (wd_66 hw) (wd_39 hw) (by decide) (hb hby d7_29) 0 (by decide) (by decide) (by decide) (by decide) (by rw [hml]; rfl) [(.ref x3)] [] rfl (lenOf pd_9 rfl) rfl (Nat.le_of_eq rfl) (Ls := #[.val (.ref x1), .val (.ref x2), .val (.ref x3)])
  obtain ⟨rfl, M10, e10⟩ := Q10
  have N10 := Fr.app N8 M10
  refine Rch.go st10 ?_
  show Rch p e below _ (T10.setTop (mkF m 32 #[.val (.ref x1), .val (.ref x2), .val (.ref x3)] [(.ref x3)]))
  refine Rch.go (fun t k => XS.astoreN X10.here hx rfl (hb hby d7_32) rfl rfl (l' := #[.val (.ref x1), .val (.ref x2), .val (.ref x3)]) rfl k) ?_
  show Rch p e below _ (T10.setTop (mkF m 33 #[.val (.ref x1), .val (.ref x2), .val (.ref x3)] []))
  refine Rch.go (fun t k => XS.aloadN X10.here hx rfl (hb hby d7_33) rfl rfl k) ?_
  show Rch p e below _ (T10.setTop (mkF m 34 #[.val (.ref x1), .val (.ref x2), .val (.ref x3)] [(.ref x1)]))
  refine Rch.go (fun t k => XS.aloadN X10.here hx rfl (hb hby d7_34) rfl rfl k) ?_
  show Rch p e below _ (T10.setTop (mkF m 35 #[.val (.ref x1), .val (.ref x2), .val (.ref x3)] [(.ref x2), (.ref x1)]))
  have f12 := (P7.ext E2)
  have f13 := (P6.ext E2)
  obtain ⟨T11, h11, X11, e11, W11, st11⟩ := putF X10 hx hZ2 hown2 (host := "") (Or.inl (wd_82 hw)) Via.refl e10 f12 f13 (Or.inr ⟨(wd_83 hw), rfl, hnm⟩) (wd_36 hw) (ty := (.object "java/lang/String")) (by decide) rfl rfl (g := (mkF m 35 #[.val (.ref x1), .val (.ref x2), .val (.ref x3)] [(.ref x2), (.ref x1)])) rfl rfl (hb hby d7_35)
  refine Rch.go st11 ?_
  have z14 : n0 ≤ h11.size := (Nat.le_trans z3 (Nat.le_of_eq W11.size.symm))
  have o15 := o4.wr W11 P8
  have F11 := f12.same W11
  have N11 := Fr.snoc X11 N10 P8
  show Rch p e below _ (T11.setTop (mkF m 38 #[.val (.ref x1), .val (.ref x2), .val (.ref x3)] []))
  refine Rch.go (fun t k => XS.aloadN X11.here hx rfl (hb hby d7_38) rfl rfl k) ?_
  show Rch p e below _ (T11.setTop (mkF m 39 #[.val (.ref x1), .val (.ref x2), .val (.ref x3)] [(.ref x1)]))
  refine Rch.go (fun t k => XS.aloadN X11.here hx rfl (hb hby d7_39) rfl rfl k) ?_
  show Rch p e below _ (T11.setTop (mkF m 40 #[.val (.ref x1), .val (.ref x2), .val (.ref x3)] [(.ref x3), (.ref x1)]))
  have f17 := ((P9.ext E2).other W11 (Or.inr (slot_ne (Or.inr (wd_85 hw)) (Or.inr (wd_83 hw)) (by decide) (t := (.object "java/util/List")) (t' := (.object "java/lang/String")) (by decide) (by decide))))
  have f18 := (f13.wr W11)
  obtain ⟨T16, h16, X16, e16, W16, st16⟩ := putF X11 hx hZ2 hown2 (host := "") (Or.inl (wd_84 hw)) Via.refl e11 f17 f18 (Or.inr ⟨(wd_85 hw), rfl, hnm⟩) (wd_36 hw) (ty := (.object "java/util/List")) (by decide) rfl rfl (g := (mkF m 40 #[.val (.ref x1), .val (.ref x2), .val (.ref x3)] [(.ref x3), (.ref x1)])) rfl rfl (hb hby d7_40)
  refine Rch.go st16 ?_
  have z19 : n0 ≤ h16.size := (Nat.le_trans z14 (Nat.le_of_eq W16.size.symm))
  have o20 := o15.wr W16 P8
  have F16 := f17.same W16
  have N16 := Fr.snoc X16 N11 P8
  show Rch p e below _ (T16.setTop (mkF m 43 #[.val (.ref x1), .val (.ref x2), .val (.ref x3)] []))
  have f21 := (F11.other W16 (Or.inr (slot_ne (Or.inr (wd_83 hw)) (Or.inr (wd_85 hw)) (by decide) (t := (.object "java/lang/String")) (t' := (.object "java/util/List")) (by decide) (by decide))))
  refine Rch.voidW X16 hx Y2 e16 (Nat.le_trans (Nat.le_trans yk2 (Nat.le_of_eq W11.size.symm)) (Nat.le_of_eq W16.size.symm)) hret hlk (hb hby d7_43) (by decide) (by decide) ?_
  exact ⟨rfl, N16, ((((Keep.refl _ _).ext E2).wr W11 (Or.inl (List.mem_of_getElem? (i := 0) rfl))).wr W16 (Or.inl (List.mem_of_getElem? (i := 0) rfl))), f21, F16⟩
set_option maxRecDepth 65536 in
set_option maxHeartbeats 4000000 in
theorem ef_m40_leaf (m : MethodId) (x1 : Addr) (x2 : Addr) (x3 : Addr) (kk4 : ClassId) (y5 : Int32) (y6 : Int32) : entryFrame m #[(.ref x1)] 1 = mkF m 0 #[.val (.ref x1)] [] := by first | rfl | (simp [entryFrame, mkF, argsToLocals, Value.category]; done)
set_option maxRecDepth 65536 in
set_option maxHeartbeats 40000000 in
theorem m40_leaf (l : Launch) (Z : State) (a0 : Array Value) (hw : ∀ d ∈ tables_1, d.before a0 Z = true) (x1 : Addr) (x2 : Addr) (x3 : Addr) (kk4 : ClassId) (y5 : Int32) (y6 : Int32) (h0 : Heap) (n0 : Nat) (Z0 : n0 ≤ h0.size) (O0 : Old Z n0 h0) (P1 : Sta Z Z.heap "java/util/ImmutableCollections" "EMPTY_LIST" "Ljava/util/ImmutableCollections$ListN;" (.ref x2)) (P2 : Exa Z h0 x1 "java/lang/String") (P3 : Fld Z h0 x1 "java/lang/String" "value" "[B" (.ref x3)) (P4 : Arv Z h0 x3 kk4 .byte (2 : Int32) [(.int y5), (.int y6)] (.int (0 : Int32))) (P5 : Exa Z Z.heap x2 "java/util/ImmutableCollections$ListN") (P6 : Fld Z Z.heap x2 "java/util/ImmutableCollections$ListN" "allowNulls" "Z" (.int (0 : Int32))) :
    CtrW l Z [] (⟨"com/example/harpocrates/harpocrates/data/Taxonomy", "leaf", "(Ljava/lang/String;)Lcom/example/harpocrates/harpocrates/data/Taxonomy;"⟩ : MethodName) prog_9_method_2_code 1 (some (.object "com/example/harpocrates/harpocrates/data/Taxonomy")) #[(.ref x1)] h0 ({ frames := 3, cells := 3, slots := 26, locals := 40 } : Room) (fun v h L => ∃ (b1 : Addr), v = some (.ref b1) ∧ Fr n0 L ∧ Keep h0 h [] ∧ h0.size ≤ b1 ∧ Exa Z h b1 "com/example/harpocrates/harpocrates/data/Taxonomy" ∧ Fld Z h b1 "com/example/harpocrates/harpocrates/data/Taxonomy" "value" "Ljava/lang/String;" (.ref x1) ∧ Fld Z h b1 "com/example/harpocrates/harpocrates/data/Taxonomy" "children" "Ljava/util/List;" (.ref x2)) := by
  refine CtrW.of (plainFor_of_name pn_com_example_harpocrates_harpocrates_data_Taxonomy) (fun m => ef_m40_leaf m x1 x2 x3 kk4 y5 y6) ?_
  intro p e s vm0 m below meth c T0 hx hZ hby hml hown hnm hret hlk Y0 X0 e0
  have N0 := Fr.nil n0
  show Rch p e below _ (T0.setTop (mkF m 0 #[.val (.ref x1)] []))
  obtain ⟨T1, h1, X1, e1, E1, A1, D1, -, st1⟩ := newO X0 hx hZ hown (wd_35 hw) (wd_36 hw) (wd_33 hw) e0 (g := (mkF m 0 #[.val (.ref x1)] [])) rfl (hb hby d5_0) (by decide) (by decide)
  obtain ⟨b1, g1⟩ : ∃ z, z = h0.size := ⟨_, rfl⟩
  rw [← g1] at A1 D1 st1
  refine Rch.go st1 ?_
  have z2 : n0 ≤ h1.size := (Nat.le_trans Z0 E1.1)
  have o3 := O0.ext E1
  have g_b1 : n0 ≤ b1 := Nat.le_trans Z0 (Nat.le_of_eq g1.symm)
  have F1_value : Fld Z h1 b1 "com/example/harpocrates/harpocrates/data/Taxonomy" "value" "Ljava/lang/String;" .null := (D1 (Or.inr (wd_83 hw)) (ty := (.object "java/lang/String")) (by decide))
  have F1_children : Fld Z h1 b1 "com/example/harpocrates/harpocrates/data/Taxonomy" "children" "Ljava/util/List;" .null := (D1 (Or.inr (wd_85 hw)) (ty := (.object "java/util/List")) (by decide))
  show Rch p e below _ (T1.setTop (mkF m 3 #[.val (.ref x1)] [(.ref b1)]))
  refine Rch.go (fun t k => XS.dup X1.here hx rfl (hb hby d5_3) rfl rfl k) ?_
  show Rch p e below _ (T1.setTop (mkF m 4 #[.val (.ref x1)] [(.ref b1), (.ref b1)]))
  refine Rch.go (fun t k => XS.aloadN X1.here hx rfl (hb hby d5_4) rfl rfl k) ?_
  show Rch p e below _ (T1.setTop (mkF m 5 #[.val (.ref x1)] [(.ref x1), (.ref b1), (.ref b1)]))
  obtain ⟨v4, T4, L4, X4, Q4, st4⟩ := callSt X1 hx hZ (m7_of l Z a0 hw x2 h1 n0 z2 o3 P1) e1 hown (wd_37 hw) (wd_38 hw) (wd_40 hw) (wd_39 hw) (by decide) (hb hby d5_5) 3 (by decide) (by decide) (by decide) (by decide) (by rw [hml]; rfl) [] [(.ref x1), (.ref b1), (.ref b1)] rfl (lenOf pd_5 rfl) rfl (Nat.le_of_eq rfl) (Ls := #[.val (.ref x1)])
  obtain ⟨rfl, M4, e4⟩ := Q4
  have N4 := Fr.app N0 M4
  refine Rch.go st4 ?_
  show Rch p e below _ (T4.setTop (mkF m 8 #[.val (.ref x1)] [(.ref x2), (.ref x1), (.ref b1), (.ref b1)]))
  have f5 := (P2.ext E1)
  have f6 := (P3.ext E1)
  have f7 := (P4.ext E1)
  obtain ⟨v8, T8, L8, X8, Q8, Y8, hZ8, hown8, st8⟩ := callSpW X4 hx hZ Y0 (Nat.le_trans (Nat.le_refl _) E1.1) (m41_init l Z a0 hw b1 x1 x2 x3 kk4 y5 y6 h1 n0 z2 o3 f5 f6 f7 P5 P6 A1 F1_value g_b1 F1_children) e4 hown rfl (wd_43 hw) (wd_44 hw) (wd_45 hw) (wd_33 hw) (by decide) (hb hby d5_8) 1 (by decide) (by decide) (by decide) (by decide) (by rw [hml]; rfl) b1 [(.ref x1), (.ref x2)] [(.ref b1)] rfl (lenOf pd_10 rfl) rfl (Nat.le_of_eq rfl) (Ls := #[.val (.ref x1)])
  obtain ⟨rfl, M8, K8, F8_0, F8_1⟩ := Q8
  have N8 := Fr.app N4 M8
  refine Rch.go st8 ?_
  have z9 : n0 ≤ T8.heap.size := (Nat.le_trans z2 K8.1)
  have o10 := o3.keep K8 (allS g_b1 all0)
  show Rch p e below _ (T8.setTop (mkF m 11 #[.val (.ref x1)] [(.ref b1)]))
  have f11 := (A1.keep K8)
  refine Rch.valW X8 hx Y8 rfl (Nat.le_refl _) (t := (.object "com/example/harpocrates/harpocrates/data/Taxonomy")) hret hlk rfl (Or.inr (Or.inr (Or.inr (Or.inr ⟨rfl, rfl, rfl⟩)))) (hb hby d5_11) (by decide) (by decide) ?_
  exact ⟨b1, rfl, N8, (((Keep.refl _ _).ext E1).trans K8 (allS (Or.inr (Nat.le_trans (Nat.le_refl _) (Nat.le_of_eq g1.symm))) all0)), (Nat.le_trans (Nat.le_refl _) (Nat.le_of_eq g1.symm)), f11, F8_0, F8_1⟩
set_option maxRecDepth 65536 in
set_option maxHeartbeats 4000000 in
theorem ef_m46_compress (m : MethodId) (x1 : Addr) (x2 : Addr) (kk3 : ClassId) (y4 : Int32) (y5 : Int32) (y6 : Int32) (kk7 : ClassId) : entryFrame m #[(.ref x1), (.int (0 : Int32)), (.ref x2), (.int (0 : Int32)), (.int (3 : Int32))] 7 = mkF m 0 #[.val (.ref x1), .val (.int (0 : Int32)), .val (.ref x2), .val (.int (0 : Int32)), .val (.int (3 : Int32)), .unset, .unset] [] := by first | rfl | (simp [entryFrame, mkF, argsToLocals, Value.category]; done)
set_option maxRecDepth 65536 in
set_option maxHeartbeats 40000000 in
theorem m46_compress (l : Launch) (Z : State) (a0 : Array Value) (hw : ∀ d ∈ tables_1, d.before a0 Z = true) (x1 : Addr) (x2 : Addr) (kk3 : ClassId) (y4 : Int32) (y5 : Int32) (y6 : Int32) (kk7 : ClassId) (h0 : Heap) (n0 : Nat) (Z0 : n0 ≤ h0.size) (O0 : Old Z n0 h0) (P1 : Arv Z h0 x1 kk3 .char (3 : Int32) [(.int y4), (.int y5), (.int y6)] (.int (0 : Int32))) (P2 : ¬ ((255 : Int32) < y4)) (P3 : Arv Z h0 x2 kk7 .byte (3 : Int32) [(.int (0 : Int32)), (.int (0 : Int32)), (.int (0 : Int32))] (.int (0 : Int32))) (P4 : n0 ≤ x2) (P5 : x1 ≠ x2) (P6 : ¬ ((255 : Int32) < y5)) (P7 : ¬ ((255 : Int32) < y6)) :
    Ctr l Z [] (⟨"java/lang/StringUTF16", "compress", "([CI[BII)I"⟩ : MethodName) jdk_52_method_21_code 7 (some .int) #[(.ref x1), (.int (0 : Int32)), (.ref x2), (.int (0 : Int32)), (.int (3 : Int32))] h0 ({ frames := 0, cells := 0, slots := 0, locals := 0 } : Room) (fun v h L => v = some (.int (3 : Int32)) ∧ Fr n0 L ∧ Keep h0 h [x2] ∧ Arv Z h x2 kk7 .byte (3 : Int32) [(.int (nar .byte (y4.toInt8.toInt32))), (.int (nar .byte (y5.toInt8.toInt32))), (.int (nar .byte (y6.toInt8.toInt32)))] (.int (0 : Int32))) := by
  refine Ctr.of (plainFor_of_name pn_java_lang_StringUTF16) (fun m => ef_m46_compress m x1 x2 kk3 y4 y5 y6 kk7) ?_
  intro p e s m below meth c T0 hx hZ hby hml hown hnm hret hlk X0 e0
  have N0 := Fr.nil n0
  show Rch p e below _ (T0.setTop (mkF m 0 #[.val (.ref x1), .val (.int (0 : Int32)), .val (.ref x2), .val (.int (0 : Int32)), .val (.int (3 : Int32)), .unset, .unset] []))
  refine Rch.go (fun t k => XS.iconst X0.here hx rfl (hb hby d3_0) k) ?_
  show Rch p e below _ (T0.setTop (mkF m 1 #[.val (.ref x1), .val (.int (0 : Int32)), .val (.ref x2), .val (.int (0 : Int32)), .val (.int (3 : Int32)), .unset, .unset] [(.int (0 : Int32))]))
  refine Rch.go (fun t k => XS.istore X0.here hx rfl (hb hby d3_1) rfl  (l' := #[.val (.ref x1), .val (.int (0 : Int32)), .val (.ref x2), .val (.int (0 : Int32)), .val (.int (3 : Int32)), .val (.int (0 : Int32)), .unset]) rfl k) ?_
  show Rch p e below _ (T0.setTop (mkF m 3 #[.val (.ref x1), .val (.int (0 : Int32)), .val (.ref x2), .val (.int (0 : Int32)), .val (.int (3 : Int32)), .val (.int (0 : Int32)), .unset] []))
  refine Rch.go (fun t k => XS.iload X0.here hx rfl (hb hby d3_3) rfl  k) ?_
  show Rch p e below _ (T0.setTop (mkF m 5 #[.val (.ref x1), .val (.int (0 : Int32)), .val (.ref x2), .val (.int (0 : Int32)), .val (.int (3 : Int32)), .val (.int (0 : Int32)), .unset] [(.int (0 : Int32))]))
  refine Rch.go (fun t k => XS.iload X0.here hx rfl (hb hby d3_5) rfl  k) ?_
  show Rch p e below _ (T0.setTop (mkF m 7 #[.val (.ref x1), .val (.int (0 : Int32)), .val (.ref x2), .val (.int (0 : Int32)), .val (.int (3 : Int32)), .val (.int (0 : Int32)), .unset] [(.int (3 : Int32)), (.int (0 : Int32))]))
  refine Rch.go (fun t k => XS.icmpNo X0.here hx rfl (hb hby d3_7) rfl (by decide) k) ?_
  show Rch p e below _ (T0.setTop (mkF m 10 #[.val (.ref x1), .val (.int (0 : Int32)), .val (.ref x2), .val (.int (0 : Int32)), .val (.int (3 : Int32)), .val (.int (0 : Int32)), .unset] []))
  refine Rch.go (fun t k => XS.aloadN X0.here hx rfl (hb hby d3_10) rfl rfl k) ?_
  show Rch p e below _ (T0.setTop (mkF m 11 #[.val (.ref x1), .val (.int (0 : Int32)), .val (.ref x2), .val (.int (0 : Int32)), .val (.int (3 : Int32)), .val (.int (0 : Int32)), .unset] [(.ref x1)]))
  refine Rch.go (fun t k => XS.iloadN X0.here hx rfl (hb hby d3_11) rfl  k) ?_
  show Rch p e below _ (T0.setTop (mkF m 12 #[.val (.ref x1), .val (.int (0 : Int32)), .val (.ref x2), .val (.int (0 : Int32)), .val (.int (3 : Int32)), .val (.int (0 : Int32)), .unset] [(.int (0 : Int32)), (.ref x1)]))
  obtain ⟨c1, r1, q1, s1, u1, H1, G1⟩ := id P1
  refine Rch.go (fun t k => X0.caload hx (j := (0 : Int32)) (v := (.int y4)) (by rw [e0]; exact r1.1) (State.isArrayOf_alike hZ.alike r1.2.1) r1.2.2 (inb_of s1 (by decide)) (H1.at (inb_of s1 (by decide)) rfl) (g := (mkF m 12 #[.val (.ref x1), .val (.int (0 : Int32)), .val (.ref x2), .val (.int (0 : Int32)), .val (.int (3 : Int32)), .val (.int (0 : Int32)), .unset] [(.int (0 : Int32)), (.ref x1)])) rfl rfl (hb hby d3_12) t k) ?_
  show Rch p e below _ (T0.setTop (mkF m 13 #[.val (.ref x1), .val (.int (0 : Int32)), .val (.ref x2), .val (.int (0 : Int32)), .val (.int (3 : Int32)), .val (.int (0 : Int32)), .unset] [(.int y4)]))
  refine Rch.go (fun t k => XS.istore X0.here hx rfl (hb hby d3_13) rfl  (l' := #[.val (.ref x1), .val (.int (0 : Int32)), .val (.ref x2), .val (.int (0 : Int32)), .val (.int (3 : Int32)), .val (.int (0 : Int32)), .val (.int y4)]) rfl k) ?_
  show Rch p e below _ (T0.setTop (mkF m 15 #[.val (.ref x1), .val (.int (0 : Int32)), .val (.ref x2), .val (.int (0 : Int32)), .val (.int (3 : Int32)), .val (.int (0 : Int32)), .val (.int y4)] []))
  refine Rch.go (fun t k => XS.iload X0.here hx rfl (hb hby d3_15) rfl  k) ?_
  show Rch p e below _ (T0.setTop (mkF m 17 #[.val (.ref x1), .val (.int (0 : Int32)), .val (.ref x2), .val (.int (0 : Int32)), .val (.int (3 : Int32)), .val (.int (0 : Int32)), .val (.int y4)] [(.int y4)]))
  refine Rch.go (fun t k => XS.sipush X0.here hx rfl (hb hby d3_17) k) ?_
  show Rch p e below _ (T0.setTop (mkF m 20 #[.val (.ref x1), .val (.int (0 : Int32)), .val (.ref x2), .val (.int (0 : Int32)), .val (.int (3 : Int32)), .val (.int (0 : Int32)), .val (.int y4)] [(.int (255 : Int32)), (.int y4)]))
  refine Rch.go (fun t k => XS.icmpYes X0.here hx rfl (pc0 := 20) (pc' := 26) rfl (hb hby d3_20) rfl (XT.ii_le_t P2) (by decide) (by decide) k) ?_
  show Rch p e below _ (T0.setTop (mkF m 26 #[.val (.ref x1), .val (.int (0 : Int32)), .val (.ref x2), .val (.int (0 : Int32)), .val (.int (3 : Int32)), .val (.int (0 : Int32)), .val (.int y4)] []))
  refine Rch.go (fun t k => XS.aloadN X0.here hx rfl (hb hby d3_26) rfl rfl k) ?_
  show Rch p e below _ (T0.setTop (mkF m 27 #[.val (.ref x1), .val (.int (0 : Int32)), .val (.ref x2), .val (.int (0 : Int32)), .val (.int (3 : Int32)), .val (.int (0 : Int32)), .val (.int y4)] [(.ref x2)]))
  refine Rch.go (fun t k => XS.iloadN X0.here hx rfl (hb hby d3_27) rfl  k) ?_
  show Rch p e below _ (T0.setTop (mkF m 28 #[.val (.ref x1), .val (.int (0 : Int32)), .val (.ref x2), .val (.int (0 : Int32)), .val (.int (3 : Int32)), .val (.int (0 : Int32)), .val (.int y4)] [(.int (0 : Int32)), (.ref x2)]))
  refine Rch.go (fun t k => XS.iload X0.here hx rfl (hb hby d3_28) rfl  k) ?_
  show Rch p e below _ (T0.setTop (mkF m 30 #[.val (.ref x1), .val (.int (0 : Int32)), .val (.ref x2), .val (.int (0 : Int32)), .val (.int (3 : Int32)), .val (.int (0 : Int32)), .val (.int y4)] [(.int y4), (.int (0 : Int32)), (.ref x2)]))
  refine Rch.go (fun t k => XS.i2b X0.here hx rfl (hb hby d3_30) rfl k) ?_
  show Rch p e below _ (T0.setTop (mkF m 31 #[.val (.ref x1), .val (.int (0 : Int32)), .val (.ref x2), .val (.int (0 : Int32)), .val (.int (3 : Int32)), .val (.int (0 : Int32)), .val (.int y4)] [(.int (y4.toInt8.toInt32)), (.int (0 : Int32)), (.ref x2)]))
  obtain ⟨c2, r2, q2, s2, u2, H2, G2⟩ := id P3
  obtain ⟨T3, h3, X3, e3, W3, st3⟩ := stB X0 hx hZ e0 r2 (j := (0 : Int32)) (inb_of s2 (by decide)) (g := (mkF m 31 #[.val (.ref x1), .val (.int (0 : Int32)), .val (.ref x2), .val (.int (0 : Int32)), .val (.int (3 : Int32)), .val (.int (0 : Int32)), .val (.int y4)] [(.int (y4.toInt8.toInt32)), (.int (0 : Int32)), (.ref x2)])) rfl rfl (hb hby d3_31)
  refine Rch.go st3 ?_
  have V3 : Arv Z h3 x2 kk7 .byte (3 : Int32) [(.int (nar .byte (y4.toInt8.toInt32))), (.int (0 : Int32)), (.int (0 : Int32))] (.int (0 : Int32)) := Arv.set r2 q2 s2 u2 H2 G2 (fits_nar_byte _) W3 0 rfl (Nat.le_of_ble_eq_true rfl)
  have z4 : n0 ≤ h3.size := (Nat.le_trans Z0 (Nat.le_of_eq W3.size.symm))
  have o5 := O0.wr W3 P4
  have N3 := Fr.snoc X3 N0 P4
  show Rch p e below _ (T3.setTop (mkF m 32 #[.val (.ref x1), .val (.int (0 : Int32)), .val (.ref x2), .val (.int (0 : Int32)), .val (.int (3 : Int32)), .val (.int (0 : Int32)), .val (.int y4)] []))
  refine Rch.go (fun t k => XS.iinc X3.here hx rfl (hb hby d3_32) rfl (l' := #[.val (.ref x1), .val (.int (1 : Int32)), .val (.ref x2), .val (.int (0 : Int32)), .val (.int (3 : Int32)), .val (.int (0 : Int32)), .val (.int y4)]) rfl k) ?_
  show Rch p e below _ (T3.setTop (mkF m 35 #[.val (.ref x1), .val (.int (1 : Int32)), .val (.ref x2), .val (.int (0 : Int32)), .val (.int (3 : Int32)), .val (.int (0 : Int32)), .val (.int y4)] []))
  refine Rch.go (fun t k => XS.iinc X3.here hx rfl (hb hby d3_35) rfl (l' := #[.val (.ref x1), .val (.int (1 : Int32)), .val (.ref x2), .val (.int (1 : Int32)), .val (.int (3 : Int32)), .val (.int (0 : Int32)), .val (.int y4)]) rfl k) ?_
  show Rch p e below _ (T3.setTop (mkF m 38 #[.val (.ref x1), .val (.int (1 : Int32)), .val (.ref x2), .val (.int (1 : Int32)), .val (.int (3 : Int32)), .val (.int (0 : Int32)), .val (.int y4)] []))
  refine Rch.go (fun t k => XS.iinc X3.here hx rfl (hb hby d3_38) rfl (l' := #[.val (.ref x1), .val (.int (1 : Int32)), .val (.ref x2), .val (.int (1 : Int32)), .val (.int (3 : Int32)), .val (.int (1 : Int32)), .val (.int y4)]) rfl k) ?_
  show Rch p e below _ (T3.setTop (mkF m 41 #[.val (.ref x1), .val (.int (1 : Int32)), .val (.ref x2), .val (.int (1 : Int32)), .val (.int (3 : Int32)), .val (.int (1 : Int32)), .val (.int y4)] []))
  refine Rch.go (fun t k => XS.goto X3.here hx rfl (pc0 := 41) (pc' := 3) rfl (hb hby d3_41) (by decide) (by decide) k) ?_
  show Rch p e below _ (T3.setTop (mkF m 3 #[.val (.ref x1), .val (.int (1 : Int32)), .val (.ref x2), .val (.int (1 : Int32)), .val (.int (3 : Int32)), .val (.int (1 : Int32)), .val (.int y4)] []))
  refine Rch.go (fun t k => XS.iload X3.here hx rfl (hb hby d3_3) rfl  k) ?_
  show Rch p e below _ (T3.setTop (mkF m 5 #[.val (.ref x1), .val (.int (1 : Int32)), .val (.ref x2), .val (.int (1 : Int32)), .val (.int (3 : Int32)), .val (.int (1 : Int32)), .val (.int y4)] [(.int (1 : Int32))]))
  refine Rch.go (fun t k => XS.iload X3.here hx rfl (hb hby d3_5) rfl  k) ?_
  show Rch p e below _ (T3.setTop (mkF m 7 #[.val (.ref x1), .val (.int (1 : Int32)), .val (.ref x2), .val (.int (1 : Int32)), .val (.int (3 : Int32)), .val (.int (1 : Int32)), .val (.int y4)] [(.int (3 : Int32)), (.int (1 : Int32))]))
  refine Rch.go (fun t k => XS.icmpNo X3.here hx rfl (hb hby d3_7) rfl (by decide) k) ?_
  show Rch p e below _ (T3.setTop (mkF m 10 #[.val (.ref x1), .val (.int (1 : Int32)), .val (.ref x2), .val (.int (1 : Int32)), .val (.int (3 : Int32)), .val (.int (1 : Int32)), .val (.int y4)] []))
  refine Rch.go (fun t k => XS.aloadN X3.here hx rfl (hb hby d3_10) rfl rfl k) ?_
  show Rch p e below _ (T3.setTop (mkF m 11 #[.val (.ref x1), .val (.int (1 : Int32)), .val (.ref x2), .val (.int (1 : Int32)), .val (.int (3 : Int32)), .val (.int (1 : Int32)), .val (.int y4)] [(.ref x1)]))
  refine Rch.go (fun t k => XS.iloadN X3.here hx rfl (hb hby d3_11) rfl  k) ?_
  show Rch p e below _ (T3.setTop (mkF m 12 #[.val (.ref x1), .val (.int (1 : Int32)), .val (.ref x2), .val (.int (1 : Int32)), .val (.int (3 : Int32)), .val (.int (1 : Int32)), .val (.int y4)] [(.int (1 : Int32)), (.ref x1)]))
  have f6 := (P1.other W3 P5)
  obtain ⟨c7, r7, q7, s7, u7, H7, G7⟩ := id f6
  refine Rch.go (fun t k => X3.caload hx (j := (1 : Int32)) (v := (.int y5)) (by rw [e3]; exact r7.1) (State.isArrayOf_alike hZ.alike r7.2.1) r7.2.2 (inb_of s7 (by decide)) (H7.at (inb_of s7 (by decide)) rfl) (g := (mkF m 12 #[.val (.ref x1), .val (.int (1 : Int32)), .val (.ref x2), .val (.int (1 : Int32)), .val (.int (3 : Int32)), .val (.int (1 : Int32)), .val (.int y4)] [(.int (1 : Int32)), (.ref x1)])) rfl rfl (hb hby d3_12) t k) ?_
  show Rch p e below _ (T3.setTop (mkF m 13 #[.val (.ref x1), .val (.int (1 : Int32)), .val (.ref x2), .val (.int (1 : Int32)), .val (.int (3 : Int32)), .val (.int (1 : Int32)), .val (.int y4)] [(.int y5)]))
  refine Rch.go (fun t k => XS.istore X3.here hx rfl (hb hby d3_13) rfl  (l' := #[.val (.ref x1), .val (.int (1 : Int32)), .val (.ref x2), .val (.int (1 : Int32)), .val (.int (3 : Int32)), .val (.int (1 : Int32)), .val (.int y5)]) rfl k) ?_
  show Rch p e below _ (T3.setTop (mkF m 15 #[.val (.ref x1), .val (.int (1 : Int32)), .val (.ref x2), .val (.int (1 : Int32)), .val (.int (3 : Int32)), .val (.int (1 : Int32)), .val (.int y5)] []))
  refine Rch.go (fun t k => XS.iload X3.here hx rfl (hb hby d3_15) rfl  k) ?_
  show Rch p e below _ (T3.setTop (mkF m 17 #[.val (.ref x1), .val (.int (1 : Int32)), .val (.ref x2), .val (.int (1 : Int32)), .val (.int (3 : Int32)), .val (.int (1 : Int32)), .val (.int y5)] [(.int y5)]))
  refine Rch.go (fun t k => XS.sipush X3.here hx rfl (hb hby d3_17) k) ?_
  show Rch p e below _ (T3.setTop (mkF m 20 #[.val (.ref x1), .val (.int (1 : Int32)), .val (.ref x2), .val (.int (1 : Int32)), .val (.int (3 : Int32)), .val (.int (1 : Int32)), .val (.int y5)] [(.int (255 : Int32)), (.int y5)]))
  refine Rch.go (fun t k => XS.icmpYes X3.here hx rfl (pc0 := 20) (pc' := 26) rfl (hb hby d3_20) rfl (XT.ii_le_t P6) (by decide) (by decide) k) ?_
  show Rch p e below _ (T3.setTop (mkF m 26 #[.val (.ref x1), .val (.int (1 : Int32)), .val (.ref x2), .val (.int (1 : Int32)), .val (.int (3 : Int32)), .val (.int (1 : Int32)), .val (.int y5)] []))
  refine Rch.go (fun t k => XS.aloadN X3.here hx rfl (hb hby d3_26) rfl rfl k) ?_
  show Rch p e below _ (T3.setTop (mkF m 27 #[.val (.ref x1), .val (.int (1 : Int32)), .val (.ref x2), .val (.int (1 : Int32)), .val (.int (3 : Int32)), .val (.int (1 : Int32)), .val (.int y5)] [(.ref x2)]))
  refine Rch.go (fun t k => XS.iloadN X3.here hx rfl (hb hby d3_27) rfl  k) ?_
  show Rch p e below _ (T3.setTop (mkF m 28 #[.val (.ref x1), .val (.int (1 : Int32)), .val (.ref x2), .val (.int (1 : Int32)), .val (.int (3 : Int32)), .val (.int (1 : Int32)), .val (.int y5)] [(.int (1 : Int32)), (.ref x2)]))
  refine Rch.go (fun t k => XS.iload X3.here hx rfl (hb hby d3_28) rfl  k) ?_
  show Rch p e below _ (T3.setTop (mkF m 30 #[.val (.ref x1), .val (.int (1 : Int32)), .val (.ref x2), .val (.int (1 : Int32)), .val (.int (3 : Int32)), .val (.int (1 : Int32)), .val (.int y5)] [(.int y5), (.int (1 : Int32)), (.ref x2)]))
  refine Rch.go (fun t k => XS.i2b X3.here hx rfl (hb hby d3_30) rfl k) ?_
  show Rch p e below _ (T3.setTop (mkF m 31 #[.val (.ref x1), .val (.int (1 : Int32)), .val (.ref x2), .val (.int (1 : Int32)), .val (.int (3 : Int32)), .val (.int (1 : Int32)), .val (.int y5)] [(.int (y5.toInt8.toInt32)), (.int (1 : Int32)), (.ref x2)]))
  obtain ⟨c8, r8, q8, s8, u8, H8, G8⟩ := id V3
  obtain ⟨T9, h9, X9, e9, W9, st9⟩ := stB X3 hx hZ e3 r8 (j := (1 : Int32)) (inb_of s8 (by decide)) (g := (mkF m 31 #[.val (.ref x1), .val (.int (1 : Int32)), .val (.ref x2), .val (.int (1 : Int32)), .val (.int (3 : Int32)), .val (.int (1 : Int32)), .val (.int y5)] [(.int (y5.toInt8.toInt32)), (.int (1 : Int32)), (.ref x2)])) rfl rfl (hb hby d3_31)
  refine Rch.go st9 ?_
  have V9 : Arv Z h9 x2 kk7 .byte (3 : Int32) [(.int (nar .byte (y4.toInt8.toInt32))), (.int (nar .byte (y5.toInt8.toInt32))), (.int (0 : Int32))] (.int (0 : Int32)) := Arv.set r8 q8 s8 u8 H8 G8 (fits_nar_byte _) W9 1 rfl (Nat.le_of_ble_eq_true rfl)
  have z10 : n0 ≤ h9.size := (Nat.le_trans z4 (Nat.le_of_eq W9.size.symm))
  have o11 := o5.wr W9 P4
  have N9 := Fr.snoc X9 N3 P4
  show Rch p e below _ (T9.setTop (mkF m 32 #[.val (.ref x1), .val (.int (1 : Int32)), .val (.ref x2), .val (.int (1 : Int32)), .val (.int (3 : Int32)), .val (.int (1 : Int32)), .val (.int y5)] []))
  refine Rch.go (fun t k => XS.iinc X9.here hx rfl (hb hby d3_32) rfl (l' := #[.val (.ref x1), .val (.int (2 : Int32)), .val (.ref x2), .val (.int (1 : Int32)), .val (.int (3 : Int32)), .val (.int (1 : Int32)), .val (.int y5)]) rfl k) ?_
  show Rch p e below _ (T9.setTop (mkF m 35 #[.val (.ref x1), .val (.int (2 : Int32)), .val (.ref x2), .val (.int (1 : Int32)), .val (.int (3 : Int32)), .val (.int (1 : Int32)), .val (.int y5)] []))
  refine Rch.go (fun t k => XS.iinc X9.here hx rfl (hb hby d3_35) rfl (l' := #[.val (.ref x1), .val (.int (2 : Int32)), .val (.ref x2), .val (.int (2 : Int32)), .val (.int (3 : Int32)), .val (.int (1 : Int32)), .val (.int y5)]) rfl k) ?_
  show Rch p e below _ (T9.setTop (mkF m 38 #[.val (.ref x1), .val (.int (2 : Int32)), .val (.ref x2), .val (.int (2 : Int32)), .val (.int (3 : Int32)), .val (.int (1 : Int32)), .val (.int y5)] []))
  refine Rch.go (fun t k => XS.iinc X9.here hx rfl (hb hby d3_38) rfl (l' := #[.val (.ref x1), .val (.int (2 : Int32)), .val (.ref x2), .val (.int (2 : Int32)), .val (.int (3 : Int32)), .val (.int (2 : Int32)), .val (.int y5)]) rfl k) ?_
  show Rch p e below _ (T9.setTop (mkF m 41 #[.val (.ref x1), .val (.int (2 : Int32)), .val (.ref x2), .val (.int (2 : Int32)), .val (.int (3 : Int32)), .val (.int (2 : Int32)), .val (.int y5)] []))
  refine Rch.go (fun t k => XS.goto X9.here hx rfl (pc0 := 41) (pc' := 3) rfl (hb hby d3_41) (by decide) (by decide) k) ?_
  show Rch p e below _ (T9.setTop (mkF m 3 #[.val (.ref x1), .val (.int (2 : Int32)), .val (.ref x2), .val (.int (2 : Int32)), .val (.int (3 : Int32)), .val (.int (2 : Int32)), .val (.int y5)] []))
  refine Rch.go (fun t k => XS.iload X9.here hx rfl (hb hby d3_3) rfl  k) ?_
  show Rch p e below _ (T9.setTop (mkF m 5 #[.val (.ref x1), .val (.int (2 : Int32)), .val (.ref x2), .val (.int (2 : Int32)), .val (.int (3 : Int32)), .val (.int (2 : Int32)), .val (.int y5)] [(.int (2 : Int32))]))
  refine Rch.go (fun t k => XS.iload X9.here hx rfl (hb hby d3_5) rfl  k) ?_
  show Rch p e below _ (T9.setTop (mkF m 7 #[.val (.ref x1), .val (.int (2 : Int32)), .val (.ref x2), .val (.int (2 : Int32)), .val (.int (3 : Int32)), .val (.int (2 : Int32)), .val (.int y5)] [(.int (3 : Int32)), (.int (2 : Int32))]))
  refine Rch.go (fun t k => XS.icmpNo X9.here hx rfl (hb hby d3_7) rfl (by decide) k) ?_
  show Rch p e below _ (T9.setTop (mkF m 10 #[.val (.ref x1), .val (.int (2 : Int32)), .val (.ref x2), .val (.int (2 : Int32)), .val (.int (3 : Int32)), .val (.int (2 : Int32)), .val (.int y5)] []))
  refine Rch.go (fun t k => XS.aloadN X9.here hx rfl (hb hby d3_10) rfl rfl k) ?_
  show Rch p e below _ (T9.setTop (mkF m 11 #[.val (.ref x1), .val (.int (2 : Int32)), .val (.ref x2), .val (.int (2 : Int32)), .val (.int (3 : Int32)), .val (.int (2 : Int32)), .val (.int y5)] [(.ref x1)]))
  refine Rch.go (fun t k => XS.iloadN X9.here hx rfl (hb hby d3_11) rfl  k) ?_
  show Rch p e below _ (T9.setTop (mkF m 12 #[.val (.ref x1), .val (.int (2 : Int32)), .val (.ref x2), .val (.int (2 : Int32)), .val (.int (3 : Int32)), .val (.int (2 : Int32)), .val (.int y5)] [(.int (2 : Int32)), (.ref x1)]))
  have f12 := (f6.other W9 P5)
  obtain ⟨c13, r13, q13, s13, u13, H13, G13⟩ := id f12
  refine Rch.go (fun t k => X9.caload hx (j := (2 : Int32)) (v := (.int y6)) (by rw [e9]; exact r13.1) (State.isArrayOf_alike hZ.alike r13.2.1) r13.2.2 (inb_of s13 (by decide)) (H13.at (inb_of s13 (by decide)) rfl) (g := (mkF m 12 #[.val (.ref x1), .val (.int (2 : Int32)), .val (.ref x2), .val (.int (2 : Int32)), .val (.int (3 : Int32)), .val (.int (2 : Int32)), .val (.int y5)] [(.int (2 : Int32)), (.ref x1)])) rfl rfl (hb hby d3_12) t k) ?_
  show Rch p e below _ (T9.setTop (mkF m 13 #[.val (.ref x1), .val (.int (2 : Int32)), .val (.ref x2), .val (.int (2 : Int32)), .val (.int (3 : Int32)), .val (.int (2 : Int32)), .val (.int y5)] [(.int y6)]))
  refine Rch.go (fun t k => XS.istore X9.here hx rfl (hb hby d3_13) rfl  (l' := #[.val (.ref x1), .val (.int (2 : Int32)), .val (.ref x2), .val (.int (2 : Int32)), .val (.int (3 : Int32)), .val (.int (2 : Int32)), .val (.int y6)]) rfl k) ?_
  show Rch p e below _ (T9.setTop (mkF m 15 #[.val (.ref x1), .val (.int (2 : Int32)), .val (.ref x2), .val (.int (2 : Int32)), .val (.int (3 : Int32)), .val (.int (2 : Int32)), .val (.int y6)] []))
  refine Rch.go (fun t k => XS.iload X9.here hx rfl (hb hby d3_15) rfl  k) ?_
  show Rch p e below _ (T9.setTop (mkF m 17 #[.val (.ref x1), .val (.int (2 : Int32)), .val (.ref x2), .val (.int (2 : Int32)), .val (.int (3 : Int32)), .val (.int (2 : Int32)), .val (.int y6)] [(.int y6)]))
  refine Rch.go (fun t k => XS.sipush X9.here hx rfl (hb hby d3_17) k) ?_
  show Rch p e below _ (T9.setTop (mkF m 20 #[.val (.ref x1), .val (.int (2 : Int32)), .val (.ref x2), .val (.int (2 : Int32)), .val (.int (3 : Int32)), .val (.int (2 : Int32)), .val (.int y6)] [(.int (255 : Int32)), (.int y6)]))
  refine Rch.go (fun t k => XS.icmpYes X9.here hx rfl (pc0 := 20) (pc' := 26) rfl (hb hby d3_20) rfl (XT.ii_le_t P7) (by decide) (by decide) k) ?_
  show Rch p e below _ (T9.setTop (mkF m 26 #[.val (.ref x1), .val (.int (2 : Int32)), .val (.ref x2), .val (.int (2 : Int32)), .val (.int (3 : Int32)), .val (.int (2 : Int32)), .val (.int y6)] []))
  refine Rch.go (fun t k => XS.aloadN X9.here hx rfl (hb hby d3_26) rfl rfl k) ?_
  show Rch p e below _ (T9.setTop (mkF m 27 #[.val (.ref x1), .val (.int (2 : Int32)), .val (.ref x2), .val (.int (2 : Int32)), .val (.int (3 : Int32)), .val (.int (2 : Int32)), .val (.int y6)] [(.ref x2)]))
  refine Rch.go (fun t k => XS.iloadN X9.here hx rfl (hb hby d3_27) rfl  k) ?_
  show Rch p e below _ (T9.setTop (mkF m 28 #[.val (.ref x1), .val (.int (2 : Int32)), .val (.ref x2), .val (.int (2 : Int32)), .val (.int (3 : Int32)), .val (.int (2 : Int32)), .val (.int y6)] [(.int (2 : Int32)), (.ref x2)]))
  refine Rch.go (fun t k => XS.iload X9.here hx rfl (hb hby d3_28) rfl  k) ?_
  show Rch p e below _ (T9.setTop (mkF m 30 #[.val (.ref x1), .val (.int (2 : Int32)), .val (.ref x2), .val (.int (2 : Int32)), .val (.int (3 : Int32)), .val (.int (2 : Int32)), .val (.int y6)] [(.int y6), (.int (2 : Int32)), (.ref x2)]))
  refine Rch.go (fun t k => XS.i2b X9.here hx rfl (hb hby d3_30) rfl k) ?_
  show Rch p e below _ (T9.setTop (mkF m 31 #[.val (.ref x1), .val (.int (2 : Int32)), .val (.ref x2), .val (.int (2 : Int32)), .val (.int (3 : Int32)), .val (.int (2 : Int32)), .val (.int y6)] [(.int (y6.toInt8.toInt32)), (.int (2 : Int32)), (.ref x2)]))
  obtain ⟨c14, r14, q14, s14, u14, H14, G14⟩ := id V9
  obtain ⟨T15, h15, X15, e15, W15, st15⟩ := stB X9 hx hZ e9 r14 (j := (2 : Int32)) (inb_of s14 (by decide)) (g := (mkF m 31 #[.val (.ref x1), .val (.int (2 : Int32)), .val (.ref x2), .val (.int (2 : Int32)), .val (.int (3 : Int32)), .val (.int (2 : Int32)), .val (.int y6)] [(.int (y6.toInt8.toInt32)), (.int (2 : Int32)), (.ref x2)])) rfl rfl (hb hby d3_31)
  refine Rch.go st15 ?_
  have V15 : Arv Z h15 x2 kk7 .byte (3 : Int32) [(.int (nar .byte (y4.toInt8.toInt32))), (.int (nar .byte (y5.toInt8.toInt32))), (.int (nar .byte (y6.toInt8.toInt32)))] (.int (0 : Int32)) := Arv.set r14 q14 s14 u14 H14 G14 (fits_nar_byte _) W15 2 rfl (Nat.le_of_ble_eq_true rfl)
  have z16 : n0 ≤ h15.size := (Nat.le_trans z10 (Nat.le_of_eq W15.size.symm))
  have o17 := o11.wr W15 P4
  have N15 := Fr.snoc X15 N9 P4
  show Rch p e below _ (T15.setTop (mkF m 32 #[.val (.ref x1), .val (.int (2 : Int32)), .val (.ref x2), .val (.int (2 : Int32)), .val (.int (3 : Int32)), .val (.int (2 : Int32)), .val (.int y6)] []))
  refine Rch.go (fun t k => XS.iinc X15.here hx rfl (hb hby d3_32) rfl (l' := #[.val (.ref x1), .val (.int (3 : Int32)), .val (.ref x2), .val (.int (2 : Int32)), .val (.int (3 : Int32)), .val (.int (2 : Int32)), .val (.int y6)]) rfl k) ?_
  show Rch p e below _ (T15.setTop (mkF m 35 #[.val (.ref x1), .val (.int (3 : Int32)), .val (.ref x2), .val (.int (2 : Int32)), .val (.int (3 : Int32)), .val (.int (2 : Int32)), .val (.int y6)] []))
  refine Rch.go (fun t k => XS.iinc X15.here hx rfl (hb hby d3_35) rfl (l' := #[.val (.ref x1), .val (.int (3 : Int32)), .val (.ref x2), .val (.int (3 : Int32)), .val (.int (3 : Int32)), .val (.int (2 : Int32)), .val (.int y6)]) rfl k) ?_
  show Rch p e below _ (T15.setTop (mkF m 38 #[.val (.ref x1), .val (.int (3 : Int32)), .val (.ref x2), .val (.int (3 : Int32)), .val (.int (3 : Int32)), .val (.int (2 : Int32)), .val (.int y6)] []))
  refine Rch.go (fun t k => XS.iinc X15.here hx rfl (hb hby d3_38) rfl (l' := #[.val (.ref x1), .val (.int (3 : Int32)), .val (.ref x2), .val (.int (3 : Int32)), .val (.int (3 : Int32)), .val (.int (3 : Int32)), .val (.int y6)]) rfl k) ?_
  show Rch p e below _ (T15.setTop (mkF m 41 #[.val (.ref x1), .val (.int (3 : Int32)), .val (.ref x2), .val (.int (3 : Int32)), .val (.int (3 : Int32)), .val (.int (3 : Int32)), .val (.int y6)] []))
  refine Rch.go (fun t k => XS.goto X15.here hx rfl (pc0 := 41) (pc' := 3) rfl (hb hby d3_41) (by decide) (by decide) k) ?_
  show Rch p e below _ (T15.setTop (mkF m 3 #[.val (.ref x1), .val (.int (3 : Int32)), .val (.ref x2), .val (.int (3 : Int32)), .val (.int (3 : Int32)), .val (.int (3 : Int32)), .val (.int y6)] []))
  refine Rch.go (fun t k => XS.iload X15.here hx rfl (hb hby d3_3) rfl  k) ?_
  show Rch p e below _ (T15.setTop (mkF m 5 #[.val (.ref x1), .val (.int (3 : Int32)), .val (.ref x2), .val (.int (3 : Int32)), .val (.int (3 : Int32)), .val (.int (3 : Int32)), .val (.int y6)] [(.int (3 : Int32))]))
  refine Rch.go (fun t k => XS.iload X15.here hx rfl (hb hby d3_5) rfl  k) ?_
  show Rch p e below _ (T15.setTop (mkF m 7 #[.val (.ref x1), .val (.int (3 : Int32)), .val (.ref x2), .val (.int (3 : Int32)), .val (.int (3 : Int32)), .val (.int (3 : Int32)), .val (.int y6)] [(.int (3 : Int32)), (.int (3 : Int32))]))
  refine Rch.go (fun t k => XS.icmpYes X15.here hx rfl (pc0 := 7) (pc' := 44) rfl (hb hby d3_7) rfl (by decide) (by decide) (by decide) k) ?_
  show Rch p e below _ (T15.setTop (mkF m 44 #[.val (.ref x1), .val (.int (3 : Int32)), .val (.ref x2), .val (.int (3 : Int32)), .val (.int (3 : Int32)), .val (.int (3 : Int32)), .val (.int y6)] []))
  refine Rch.go (fun t k => XS.iload X15.here hx rfl (hb hby d3_44) rfl  k) ?_
  show Rch p e below _ (T15.setTop (mkF m 46 #[.val (.ref x1), .val (.int (3 : Int32)), .val (.ref x2), .val (.int (3 : Int32)), .val (.int (3 : Int32)), .val (.int (3 : Int32)), .val (.int y6)] [(.int (3 : Int32))]))
  refine Rch.val X15 hx (t := .int) hret hlk rfl (mayI (by simp)) (hb hby d3_46) (by decide) (by decide) ?_
  try rw [e15]
  exact ⟨rfl, N15, ((((Keep.refl _ _).wr W3 (Or.inl (List.mem_of_getElem? (i := 0) rfl))).wr W9 (Or.inl (List.mem_of_getElem? (i := 0) rfl))).wr W15 (Or.inl (List.mem_of_getElem? (i := 0) rfl))), V15⟩
set_option maxRecDepth 65536 in
set_option maxHeartbeats 4000000 in
theorem ef_m45_compress (m : MethodId) (x1 : Addr) (kk2 : ClassId) (y3 : Int32) (y4 : Int32) (y5 : Int32) : entryFrame m #[(.ref x1), (.int (0 : Int32)), (.int (3 : Int32))] 6 = mkF m 0 #[.val (.ref x1), .val (.int (0 : Int32)), .val (.int (3 : Int32)), .unset, .unset, .unset] [] := by first | rfl | (simp [entryFrame, mkF, argsToLocals, Value.category]; done)
set_option maxRecDepth 65536 in
set_option maxHeartbeats 40000000 in
theorem m45_compress (l : Launch) (Z : State) (a0 : Array Value) (hw : ∀ d ∈ tables_1, d.before a0 Z = true) (x1 : Addr) (kk2 : ClassId) (y3 : Int32) (y4 : Int32) (y5 : Int32) (h0 : Heap) (n0 : Nat) (Z0 : n0 ≤ h0.size) (O0 : Old Z n0 h0) (P1 : Arv Z h0 x1 kk2 .char (3 : Int32) [(.int y3), (.int y4), (.int y5)] (.int (0 : Int32))) (P2 : ¬ ((255 : Int32) < y3)) (P3 : ¬ ((255 : Int32) < y4)) (P4 : ¬ ((255 : Int32) < y5)) :
    Ctr l Z [] (⟨"java/lang/StringUTF16", "compress", "([CII)[B"⟩ : MethodName) jdk_52_method_16_code 6 (some (.array .byte)) #[(.ref x1), (.int (0 : Int32)), (.int (3 : Int32))] h0 ({ frames := 1, cells := 1, slots := 3, locals := 18 } : Room) (fun v h L => ∃ (b1 : Addr) (k1 : ClassId), v = some (.ref b1) ∧ Fr n0 L ∧ Keep h0 h [] ∧ h0.size ≤ b1 ∧ Exa Z h b1 "[B" ∧ Arv Z h b1 k1 .byte (3 : Int32) [(.int (nar .byte (y3.toInt8.toInt32))), (.int (nar .byte (y4.toInt8.toInt32))), (.int (nar .byte (y5.toInt8.toInt32)))] (.int (0 : Int32))) := by
  refine Ctr.of (plainFor_of_name pn_java_lang_StringUTF16) (fun m => ef_m45_compress m x1 kk2 y3 y4 y5) ?_
  intro p e s m below meth c T0 hx hZ hby hml hown hnm hret hlk X0 e0
  have N0 := Fr.nil n0
  show Rch p e below _ (T0.setTop (mkF m 0 #[.val (.ref x1), .val (.int (0 : Int32)), .val (.int (3 : Int32)), .unset, .unset, .unset] []))
  refine Rch.go (fun t k => XS.iloadN X0.here hx rfl (hb hby d2_0) rfl  k) ?_
  show Rch p e below _ (T0.setTop (mkF m 1 #[.val (.ref x1), .val (.int (0 : Int32)), .val (.int (3 : Int32)), .unset, .unset, .unset] [(.int (3 : Int32))]))
  obtain ⟨T1, h1, k1, X1, e1, E1, A1, B1, st1⟩ := newPE (aty := .byte) X0 hx hZ (wd_20 hw) e0 (g := (mkF m 1 #[.val (.ref x1), .val (.int (0 : Int32)), .val (.int (3 : Int32)), .unset, .unset, .unset] [(.int (3 : Int32))])) rfl (hb hby d2_1) rfl (by decide) (cap := 3) (by decide) (by decide) (by decide) (by decide) (ad := "[B") (by decide +kernel)
  obtain ⟨b1, g1⟩ : ∃ z, z = h0.size := ⟨_, rfl⟩
  rw [← g1] at A1 B1 st1
  refine Rch.go st1 ?_
  have z2 : n0 ≤ h1.size := (Nat.le_trans Z0 E1.1)
  have o3 := O0.ext E1
  have g_b1 : n0 ≤ b1 := Nat.le_trans Z0 (Nat.le_of_eq g1.symm)
  have V1 : Arv Z h1 b1 k1 .byte (3 : Int32) [(.int (0 : Int32)), (.int (0 : Int32)), (.int (0 : Int32))] (.int (0 : Int32)) := (Arv.new A1 (by decide)).pad (pad_rep [] (.int (0 : Int32)) 3)
  show Rch p e below _ (T1.setTop (mkF m 3 #[.val (.ref x1), .val (.int (0 : Int32)), .val (.int (3 : Int32)), .unset, .unset, .unset] [(.ref b1)]))
  refine Rch.go (fun t k => XS.astoreN X1.here hx rfl (hb hby d2_3) rfl rfl (l' := #[.val (.ref x1), .val (.int (0 : Int32)), .val (.int (3 : Int32)), .val (.ref b1), .unset, .unset]) rfl k) ?_
  show Rch p e below _ (T1.setTop (mkF m 4 #[.val (.ref x1), .val (.int (0 : Int32)), .val (.int (3 : Int32)), .val (.ref b1), .unset, .unset] []))
  refine Rch.go (fun t k => XS.aloadN X1.here hx rfl (hb hby d2_4) rfl rfl k) ?_
  show Rch p e below _ (T1.setTop (mkF m 5 #[.val (.ref x1), .val (.int (0 : Int32)), .val (.int (3 : Int32)), .val (.ref b1), .unset, .unset] [(.ref x1)]))
  refine Rch.go (fun t k => XS.iloadN X1.here hx rfl (hb hby d2_5) rfl  k) ?_
  show Rch p e below _ (T1.setTop (mkF m 6 #[.val (.ref x1), .val (.int (0 : Int32)), .val (.int (3 : Int32)), .val (.ref b1), .unset, .unset] [(.int (0 : Int32)), (.ref x1)]))
  refine Rch.go (fun t k => XS.aloadN X1.here hx rfl (hb hby d2_6) rfl rfl k) ?_
  show Rch p e below _ (T1.setTop (mkF m 7 #[.val (.ref x1), .val (.int (0 : Int32)), .val (.int (3 : Int32)), .val (.ref b1), .unset, .unset] [(.ref b1), (.int (0 : Int32)), (.ref x1)]))
  refine Rch.go (fun t k => XS.iconst X1.here hx rfl (hb hby d2_7) k) ?_
  show Rch p e below _ (T1.setTop (mkF m 8 #[.val (.ref x1), .val (.int (0 : Int32)), .val (.int (3 : Int32)), .val (.ref b1), .unset, .unset] [(.int (0 : Int32)), (.ref b1), (.int (0 : Int32)), (.ref x1)]))
  refine Rch.go (fun t k => XS.iloadN X1.here hx rfl (hb hby d2_8) rfl  k) ?_
  show Rch p e below _ (T1.setTop (mkF m 9 #[.val (.ref x1), .val (.int (0 : Int32)), .val (.int (3 : Int32)), .val (.ref b1), .unset, .unset] [(.int (3 : Int32)), (.int (0 : Int32)), (.ref b1), (.int (0 : Int32)), (.ref x1)]))
  have f4 := (P1.ext E1)
  have lt5 := P1.lt
  have ne6 : x1 ≠ b1 := Nat.ne_of_lt (Nat.lt_of_lt_of_le lt5 (Nat.le_of_eq g1.symm))
  obtain ⟨v7, T7, L7, X7, Q7, st7⟩ := callSt X1 hx hZ (m46_compress l Z a0 hw x1 b1 kk2 y3 y4 y5 k1 h1 n0 z2 o3 f4 P2 V1 g_b1 ne6 P3 P4) e1 hown (wd_21 hw) (wd_22 hw) (wd_23 hw) (wd_18 hw) (by decide) (hb hby d2_9) 0 (by decide) (by decide) (by decide) (by decide) (by rw [hml]; rfl) [(.ref x1), (.int (0 : Int32)), (.ref b1), (.int (0 : Int32)), (.int (3 : Int32))] [] rfl (lenOf pd_0 rfl) rfl (Nat.le_of_eq rfl) (Ls := #[.val (.ref x1), .val (.int (0 : Int32)), .val (.int (3 : Int32)), .val (.ref b1), .unset, .unset])
  obtain ⟨rfl, M7, K7, F7_0⟩ := Q7
  have N7 := Fr.app N0 M7
  refine Rch.go st7 ?_
  have z8 : n0 ≤ T7.heap.size := (Nat.le_trans z2 K7.1)
  have o9 := o3.keep K7 (allS g_b1 all0)
  show Rch p e below _ (T7.setTop (mkF m 12 #[.val (.ref x1), .val (.int (0 : Int32)), .val (.int (3 : Int32)), .val (.ref b1), .unset, .unset] [(.int (3 : Int32))]))
  refine Rch.go (fun t k => XS.istore X7.here hx rfl (hb hby d2_12) rfl  (l' := #[.val (.ref x1), .val (.int (0 : Int32)), .val (.int (3 : Int32)), .val (.ref b1), .val (.int (3 : Int32)), .unset]) rfl k) ?_
  show Rch p e below _ (T7.setTop (mkF m 14 #[.val (.ref x1), .val (.int (0 : Int32)), .val (.int (3 : Int32)), .val (.ref b1), .val (.int (3 : Int32)), .unset] []))
  refine Rch.go (fun t k => XS.iload X7.here hx rfl (hb hby d2_14) rfl  k) ?_
  show Rch p e below _ (T7.setTop (mkF m 16 #[.val (.ref x1), .val (.int (0 : Int32)), .val (.int (3 : Int32)), .val (.ref b1), .val (.int (3 : Int32)), .unset] [(.int (3 : Int32))]))
  refine Rch.go (fun t k => XS.iloadN X7.here hx rfl (hb hby d2_16) rfl  k) ?_
  show Rch p e below _ (T7.setTop (mkF m 17 #[.val (.ref x1), .val (.int (0 : Int32)), .val (.int (3 : Int32)), .val (.ref b1), .val (.int (3 : Int32)), .unset] [(.int (3 : Int32)), (.int (3 : Int32))]))
  refine Rch.go (fun t k => XS.icmpYes X7.here hx rfl (pc0 := 17) (pc' := 57) rfl (hb hby d2_17) rfl (by decide) (by decide) (by decide) k) ?_
  show Rch p e below _ (T7.setTop (mkF m 57 #[.val (.ref x1), .val (.int (0 : Int32)), .val (.int (3 : Int32)), .val (.ref b1), .val (.int (3 : Int32)), .unset] []))
  refine Rch.go (fun t k => XS.aloadN X7.here hx rfl (hb hby d2_57) rfl rfl k) ?_
  show Rch p e below _ (T7.setTop (mkF m 58 #[.val (.ref x1), .val (.int (0 : Int32)), .val (.int (3 : Int32)), .val (.ref b1), .val (.int (3 : Int32)), .unset] [(.ref b1)]))
  have f10 := (B1.keep K7)
  refine Rch.val X7 hx (t := (.array .byte)) hret hlk rfl (Or.inr (Or.inr (Or.inr (Or.inr ⟨rfl, rfl, rfl⟩)))) (hb hby d2_58) (by decide) (by decide) ?_
  exact ⟨b1, k1, rfl, N7, (((Keep.refl _ _).ext E1).trans K7 (allS (Or.inr (Nat.le_trans (Nat.le_refl _) (Nat.le_of_eq g1.symm))) all0)), (Nat.le_trans (Nat.le_refl _) (Nat.le_of_eq g1.symm)), f10, F7_0⟩
set_option maxRecDepth 65536 in
set_option maxHeartbeats 4000000 in
theorem ef_m47_coderFromArrayLen (m : MethodId) (x1 : Addr) (kk2 : ClassId) (y3 : Int32) (y4 : Int32) (y5 : Int32) : entryFrame m #[(.ref x1), (.int (3 : Int32))] 2 = mkF m 0 #[.val (.ref x1), .val (.int (3 : Int32))] [] := by first | rfl | (simp [entryFrame, mkF, argsToLocals, Value.category]; done)
set_option maxRecDepth 65536 in
set_option maxHeartbeats 40000000 in
theorem m47_coderFromArrayLen (l : Launch) (Z : State) (a0 : Array Value) (hw : ∀ d ∈ tables_1, d.before a0 Z = true) (x1 : Addr) (kk2 : ClassId) (y3 : Int32) (y4 : Int32) (y5 : Int32) (h0 : Heap) (n0 : Nat) (Z0 : n0 ≤ h0.size) (O0 : Old Z n0 h0) (P1 : Arv Z h0 x1 kk2 .byte (3 : Int32) [(.int y3), (.int y4), (.int y5)] (.int (0 : Int32))) :
    Ctr l Z [] (⟨"java/lang/StringUTF16", "coderFromArrayLen", "([BI)B"⟩ : MethodName) jdk_52_method_15_code 2 (some .byte) #[(.ref x1), (.int (3 : Int32))] h0 ({ frames := 0, cells := 0, slots := 0, locals := 0 } : Room) (fun v h L => v = some (.int (0 : Int32)) ∧ Fr n0 L ∧ h = h0) := by
  refine Ctr.of (plainFor_of_name pn_java_lang_StringUTF16) (fun m => ef_m47_coderFromArrayLen m x1 kk2 y3 y4 y5) ?_
  intro p e s m below meth c T0 hx hZ hby hml hown hnm hret hlk X0 e0
  have N0 := Fr.nil n0
  show Rch p e below _ (T0.setTop (mkF m 0 #[.val (.ref x1), .val (.int (3 : Int32))] []))
  refine Rch.go (fun t k => XS.iloadN X0.here hx rfl (hb hby d4_0) rfl  k) ?_
  show Rch p e below _ (T0.setTop (mkF m 1 #[.val (.ref x1), .val (.int (3 : Int32))] [(.int (3 : Int32))]))
  refine Rch.go (fun t k => XS.aloadN X0.here hx rfl (hb hby d4_1) rfl rfl k) ?_
  show Rch p e below _ (T0.setTop (mkF m 2 #[.val (.ref x1), .val (.int (3 : Int32))] [(.ref x1), (.int (3 : Int32))]))
  obtain ⟨c1, r1, q1, s1, u1, H1, G1⟩ := id P1
  refine Rch.go (fun t k => X0.arraylength hx (by rw [e0]; exact r1.1) (State.isArrayOf_alike hZ.alike r1.2.1) (g := (mkF m 2 #[.val (.ref x1), .val (.int (3 : Int32))] [(.ref x1), (.int (3 : Int32))])) rfl rfl (hb hby d4_2) t (by rw [len_of s1 u1]; exact k)) ?_
  show Rch p e below _ (T0.setTop (mkF m 3 #[.val (.ref x1), .val (.int (3 : Int32))] [(.int (3 : Int32)), (.int (3 : Int32))]))
  refine Rch.go (fun t k => XS.isub X0.here hx rfl (hb hby d4_3) rfl k) ?_
  show Rch p e below _ (T0.setTop (mkF m 4 #[.val (.ref x1), .val (.int (3 : Int32))] [(.int (0 : Int32))]))
  refine Rch.go (fun t k => XS.bipush X0.here hx rfl (hb hby d4_4) k) ?_
  show Rch p e below _ (T0.setTop (mkF m 6 #[.val (.ref x1), .val (.int (3 : Int32))] [(.int (31 : Int32)), (.int (0 : Int32))]))
  refine Rch.go (fun t k => XS.iushr X0.here hx rfl (hb hby d4_6) rfl k) ?_
  show Rch p e below _ (T0.setTop (mkF m 7 #[.val (.ref x1), .val (.int (3 : Int32))] [(.int (0 : Int32))]))
  refine Rch.go (fun t k => XS.i2b X0.here hx rfl (hb hby d4_7) rfl k) ?_
  show Rch p e below _ (T0.setTop (mkF m 8 #[.val (.ref x1), .val (.int (3 : Int32))] [(.int (0 : Int32))]))
  refine Rch.val X0 hx (t := .byte) hret hlk rfl (mayI (by simp)) (hb hby d4_8) (by decide) (by decide) ?_
  try rw [e0]
  exact ⟨rfl, N0, rfl⟩
set_option maxRecDepth 65536 in
set_option maxHeartbeats 4000000 in
theorem ef_m44_init (m : MethodId) (x1 : Addr) (x2 : Addr) (y3 : Int32) (kk4 : ClassId) (y5 : Int32) (y6 : Int32) (y7 : Int32) : entryFrame m #[(.ref x1), (.ref x2), (.int (0 : Int32)), (.int (3 : Int32)), .null] 6 = mkF m 0 #[.val (.ref x1), .val (.ref x2), .val (.int (0 : Int32)), .val (.int (3 : Int32)), .val .null, .unset] [] := by first | rfl | (simp [entryFrame, mkF, argsToLocals, Value.category]; done)
set_option maxRecDepth 65536 in
set_option maxHeartbeats 40000000 in
theorem m44_init (l : Launch) (Z : State) (a0 : Array Value) (hw : ∀ d ∈ tables_1, d.before a0 Z = true) (x1 : Addr) (x2 : Addr) (y3 : Int32) (kk4 : ClassId) (y5 : Int32) (y6 : Int32) (y7 : Int32) (h0 : Heap) (n0 : Nat) (Z0 : n0 ≤ h0.size) (O0 : Old Z n0 h0) (P1 : Sta Z Z.heap "java/lang/String" "COMPACT_STRINGS" "Z" (.int y3)) (P2 : ¬ (y3 = (0 : Int32))) (P3 : Arv Z h0 x2 kk4 .char (3 : Int32) [(.int y5), (.int y6), (.int y7)] (.int (0 : Int32))) (P4 : ¬ ((255 : Int32) < y5)) (P5 : ¬ ((255 : Int32) < y6)) (P6 : ¬ ((255 : Int32) < y7)) (P7 : Exa Z h0 x1 "java/lang/String") (P8 : Fld Z h0 x1 "java/lang/String" "coder" "B" (.int (0 : Int32))) (P9 : n0 ≤ x1) (P10 : Fld Z h0 x1 "java/lang/String" "value" "[B" .null) :
    Ctr l Z [] (⟨"java/lang/String", "<init>", "([CIILjava/lang/Void;)V"⟩ : MethodName) jdk_42_method_149_code 6 none #[(.ref x1), (.ref x2), (.int (0 : Int32)), (.int (3 : Int32)), .null] h0 ({ frames := 2, cells := 1, slots := 3, locals := 35 } : Room) (fun v h L => ∃ (b3_0 : Addr) (k3_0 : ClassId), v = none ∧ Fr n0 L ∧ Keep h0 h [x1] ∧ h0.size ≤ b3_0 ∧ Exa Z h b3_0 "[B" ∧ Arv Z h b3_0 k3_0 .byte (3 : Int32) [(.int (nar .byte (y5.toInt8.toInt32))), (.int (nar .byte (y6.toInt8.toInt32))), (.int (nar .byte (y7.toInt8.toInt32)))] (.int (0 : Int32)) ∧ Fld Z h x1 "java/lang/String" "coder" "B" (.int (0 : Int32)) ∧ Fld Z h x1 "java/lang/String" "value" "[B" (.ref b3_0)) := by
  refine Ctr.of (plainFor_of_name pn_java_lang_String) (fun m => ef_m44_init m x1 x2 y3 kk4 y5 y6 y7) ?_
  intro p e s m below meth c T0 hx hZ hby hml hown hnm hret hlk X0 e0
  have N0 := Fr.nil n0
  show Rch p e below _ (T0.setTop (mkF m 0 #[.val (.ref x1), .val (.ref x2), .val (.int (0 : Int32)), .val (.int (3 : Int32)), .val .null, .unset] []))
  refine Rch.go (fun t k => XS.aloadN X0.here hx rfl (hb hby d1_0) rfl rfl k) ?_
  show Rch p e below _ (T0.setTop (mkF m 1 #[.val (.ref x1), .val (.ref x2), .val (.int (0 : Int32)), .val (.int (3 : Int32)), .val .null, .unset] [(.ref x1)]))
  obtain ⟨T1, X1, e1, st1⟩ := initO X0 hx hZ hown (wd_12 hw) (wd_13 hw) (wd_14 hw) e0 (g := (mkF m 1 #[.val (.ref x1), .val (.ref x2), .val (.int (0 : Int32)), .val (.int (3 : Int32)), .val .null, .unset] [(.ref x1)])) rfl (by rw [hml]; rfl) rfl (hb hby d1_1) (by decide) (W := 0) (by show 2 * 0 + _ ≤ _; exact Nat.le_of_eq rfl) (by decide)
  refine Rch.go st1 ?_
  show Rch p e below _ (T1.setTop (mkF m 4 #[.val (.ref x1), .val (.ref x2), .val (.int (0 : Int32)), .val (.int (3 : Int32)), .val .null, .unset] []))
  refine Rch.go (fun t k => XS.iloadN X1.here hx rfl (hb hby d1_4) rfl  k) ?_
  show Rch p e below _ (T1.setTop (mkF m 5 #[.val (.ref x1), .val (.ref x2), .val (.int (0 : Int32)), .val (.int (3 : Int32)), .val .null, .unset] [(.int (3 : Int32))]))
  refine Rch.go (fun t k => XS.ifYes X1.here hx rfl (pc0 := 5) (pc' := 27) rfl (hb hby d1_5) rfl (by decide) (by decide) (by decide) k) ?_
  show Rch p e below _ (T1.setTop (mkF m 27 #[.val (.ref x1), .val (.ref x2), .val (.int (0 : Int32)), .val (.int (3 : Int32)), .val .null, .unset] []))
  obtain ⟨T2, X2, e2, st2⟩ := getS2 X1 hx hZ hown (host := "") (Or.inl (wd_15 hw)) Via.refl e1 (P1.ext O0.2) (g := (mkF m 27 #[.val (.ref x1), .val (.ref x2), .val (.int (0 : Int32)), .val (.int (3 : Int32)), .val .null, .unset] [])) rfl (hb hby d1_27)
  refine Rch.go st2 ?_
  show Rch p e below _ (T2.setTop (mkF m 30 #[.val (.ref x1), .val (.ref x2), .val (.int (0 : Int32)), .val (.int (3 : Int32)), .val .null, .unset] [(.int y3)]))
  refine Rch.go (fun t k => XS.ifNo X2.here hx rfl (hb hby d1_30) rfl (XT.i0_eq_f P2) k) ?_
  show Rch p e below _ (T2.setTop (mkF m 33 #[.val (.ref x1), .val (.ref x2), .val (.int (0 : Int32)), .val (.int (3 : Int32)), .val .null, .unset] []))
  refine Rch.go (fun t k => XS.aloadN X2.here hx rfl (hb hby d1_33) rfl rfl k) ?_
  show Rch p e below _ (T2.setTop (mkF m 34 #[.val (.ref x1), .val (.ref x2), .val (.int (0 : Int32)), .val (.int (3 : Int32)), .val .null, .unset] [(.ref x2)]))
  refine Rch.go (fun t k => XS.iloadN X2.here hx rfl (hb hby d1_34) rfl  k) ?_
  show Rch p e below _ (T2.setTop (mkF m 35 #[.val (.ref x1), .val (.ref x2), .val (.int (0 : Int32)), .val (.int (3 : Int32)), .val .null, .unset] [(.int (0 : Int32)), (.ref x2)]))
  refine Rch.go (fun t k => XS.iloadN X2.here hx rfl (hb hby d1_35) rfl  k) ?_
  show Rch p e below _ (T2.setTop (mkF m 36 #[.val (.ref x1), .val (.ref x2), .val (.int (0 : Int32)), .val (.int (3 : Int32)), .val .null, .unset] [(.int (3 : Int32)), (.int (0 : Int32)), (.ref x2)]))
  obtain ⟨v3, T3, L3, X3, Q3, st3⟩ := callSt X2 hx hZ (m45_compress l Z a0 hw x2 kk4 y5 y6 y7 h0 n0 Z0 O0 P3 P4 P5 P6) e2 hown (wd_16 hw) (wd_17 hw) (wd_19 hw) (wd_18 hw) (by decide) (hb hby d1_36) 0 (by decide) (by decide) (by decide) (by decide) (by rw [hml]; rfl) [(.ref x2), (.int (0 : Int32)), (.int (3 : Int32))] [] rfl (lenOf pd_1 rfl) rfl (Nat.le_of_eq rfl) (Ls := #[.val (.ref x1), .val (.ref x2), .val (.int (0 : Int32)), .val (.int (3 : Int32)), .val .null, .unset])
  obtain ⟨b3_0, k3_0, rfl, M3, K3, zz3_0, F3_0, F3_1⟩ := Q3
  have N3 := Fr.app N0 M3
  refine Rch.go st3 ?_
  have z4 : n0 ≤ T3.heap.size := (Nat.le_trans Z0 K3.1)
  have o5 := O0.keep K3 all0
  have g_b3_0 : n0 ≤ b3_0 := Nat.le_trans Z0 zz3_0
  show Rch p e below _ (T3.setTop (mkF m 39 #[.val (.ref x1), .val (.ref x2), .val (.int (0 : Int32)), .val (.int (3 : Int32)), .val .null, .unset] [(.ref b3_0)]))
  refine Rch.go (fun t k => XS.astore X3.here hx rfl (hb hby d1_39) rfl rfl (l' := #[.val (.ref x1), .val (.ref x2), .val (.int (0 : Int32)), .val (.int (3 : Int32)), .val .null, .val (.ref b3_0)]) rfl k) ?_
  show Rch p e below _ (T3.setTop (mkF m 41 #[.val (.ref x1), .val (.ref x2), .val (.int (0 : Int32)), .val (.int (3 : Int32)), .val .null, .val (.ref b3_0)] []))
  refine Rch.go (fun t k => XS.aloadN X3.here hx rfl (hb hby d1_41) rfl rfl k) ?_
  show Rch p e below _ (T3.setTop (mkF m 42 #[.val (.ref x1), .val (.ref x2), .val (.int (0 : Int32)), .val (.int (3 : Int32)), .val .null, .val (.ref b3_0)] [(.ref x1)]))
  refine Rch.go (fun t k => XS.aload X3.here hx rfl (hb hby d1_42) rfl rfl k) ?_
  show Rch p e below _ (T3.setTop (mkF m 44 #[.val (.ref x1), .val (.ref x2), .val (.int (0 : Int32)), .val (.int (3 : Int32)), .val .null, .val (.ref b3_0)] [(.ref b3_0), (.ref x1)]))
  refine Rch.go (fun t k => XS.iloadN X3.here hx rfl (hb hby d1_44) rfl  k) ?_
  show Rch p e below _ (T3.setTop (mkF m 45 #[.val (.ref x1), .val (.ref x2), .val (.int (0 : Int32)), .val (.int (3 : Int32)), .val .null, .val (.ref b3_0)] [(.int (3 : Int32)), (.ref b3_0), (.ref x1)]))
  obtain ⟨v6, T6, L6, X6, Q6, st6⟩ := callSt X3 hx hZ (m47_coderFromArrayLen l Z a0 hw b3_0 k3_0 (nar .byte (y5.toInt8.toInt32)) (nar .byte (y6.toInt8.toInt32)) (nar .byte (y7.toInt8.toInt32)) T3.heap n0 z4 o5 F3_1) rfl hown (wd_24 hw) (wd_25 hw) (wd_26 hw) (wd_18 hw) (by decide) (hb hby d1_45) 1 (by decide) (by decide) (by decide) (by decide) (by rw [hml]; rfl) [(.ref b3_0), (.int (3 : Int32))] [(.ref x1)] rfl (lenOf pd_2 rfl) rfl (Nat.le_of_eq rfl) (Ls := #[.val (.ref x1), .val (.ref x2), .val (.int (0 : Int32)), .val (.int (3 : Int32)), .val .null, .val (.ref b3_0)])
  obtain ⟨rfl, M6, e6⟩ := Q6
  have N6 := Fr.app N3 M6
  refine Rch.go st6 ?_
  show Rch p e below _ (T6.setTop (mkF m 48 #[.val (.ref x1), .val (.ref x2), .val (.int (0 : Int32)), .val (.int (3 : Int32)), .val .null, .val (.ref b3_0)] [(.int (0 : Int32)), (.ref x1)]))
  have f8 := (P8.keep K3 nin0)
  have f9 := (P7.keep K3)
  obtain ⟨T7, h7, X7, e7, W7, st7⟩ := putFN X6 hx hZ hown (wd_27 hw) Via.refl e6 f8 f9 (Or.inr ⟨(wd_28 hw), rfl, hnm⟩) (wd_2 hw) (ty := .byte) (v' := (.int (0 : Int32))) (by decide) rfl rfl (g := (mkF m 48 #[.val (.ref x1), .val (.ref x2), .val (.int (0 : Int32)), .val (.int (3 : Int32)), .val .null, .val (.ref b3_0)] [(.int (0 : Int32)), (.ref x1)])) rfl rfl (hb hby d1_48)
  refine Rch.go st7 ?_
  have z10 : n0 ≤ h7.size := (Nat.le_trans z4 (Nat.le_of_eq W7.size.symm))
  have o11 := o5.wr W7 P9
  have F7 := f8.same W7
  have N7 := Fr.snoc X7 N6 P9
  show Rch p e below _ (T7.setTop (mkF m 51 #[.val (.ref x1), .val (.ref x2), .val (.int (0 : Int32)), .val (.int (3 : Int32)), .val .null, .val (.ref b3_0)] []))
  refine Rch.go (fun t k => XS.aloadN X7.here hx rfl (hb hby d1_51) rfl rfl k) ?_
  show Rch p e below _ (T7.setTop (mkF m 52 #[.val (.ref x1), .val (.ref x2), .val (.int (0 : Int32)), .val (.int (3 : Int32)), .val .null, .val (.ref b3_0)] [(.ref x1)]))
  refine Rch.go (fun t k => XS.aload X7.here hx rfl (hb hby d1_52) rfl rfl k) ?_
  show Rch p e below _ (T7.setTop (mkF m 54 #[.val (.ref x1), .val (.ref x2), .val (.int (0 : Int32)), .val (.int (3 : Int32)), .val .null, .val (.ref b3_0)] [(.ref b3_0), (.ref x1)]))
  have f13 := ((P10.keep K3 nin0).other W7 (Or.inr (slot_ne (Or.inr (wd_30 hw)) (Or.inr (wd_28 hw)) (by decide) (t := (.array .byte)) (t' := .byte) (by decide) (by decide))))
  have f14 := (f9.wr W7)
  obtain ⟨T12, h12, X12, e12, W12, st12⟩ := putF X7 hx hZ hown (host := "") (Or.inl (wd_29 hw)) Via.refl e7 f13 f14 (Or.inr ⟨(wd_30 hw), rfl, hnm⟩) (wd_2 hw) (ty := (.array .byte)) (by decide) rfl rfl (g := (mkF m 54 #[.val (.ref x1), .val (.ref x2), .val (.int (0 : Int32)), .val (.int (3 : Int32)), .val .null, .val (.ref b3_0)] [(.ref b3_0), (.ref x1)])) rfl rfl (hb hby d1_54)
  refine Rch.go st12 ?_
  have z15 : n0 ≤ h12.size := (Nat.le_trans z10 (Nat.le_of_eq W12.size.symm))
  have o16 := o11.wr W12 P9
  have F12 := f13.same W12
  have N12 := Fr.snoc X12 N7 P9
  show Rch p e below _ (T12.setTop (mkF m 57 #[.val (.ref x1), .val (.ref x2), .val (.int (0 : Int32)), .val (.int (3 : Int32)), .val .null, .val (.ref b3_0)] []))
  have f17 := ((F3_0.wr W7).wr W12)
  have lt18 := P7.lt
  have ne19 : x1 ≠ b3_0 := Nat.ne_of_lt (Nat.lt_of_lt_of_le lt18 zz3_0)
  have f20 := ((F3_1.other W7 (Ne.symm ne19)).other W12 (Ne.symm ne19))
  have f21 := (F7.other W12 (Or.inr (slot_ne (Or.inr (wd_28 hw)) (Or.inr (wd_30 hw)) (by decide) (t := .byte) (t' := (.array .byte)) (by decide) (by decide))))
  refine Rch.void X12 hx hret hlk (hb hby d1_57) (by decide) (by decide) ?_
  try rw [e12]
  exact ⟨b3_0, k3_0, rfl, N12, ((((Keep.refl _ _).trans K3 all0).wr W7 (Or.inl (List.mem_of_getElem? (i := 0) rfl))).wr W12 (Or.inl (List.mem_of_getElem? (i := 0) rfl))), (Nat.le_trans (Nat.le_refl _) zz3_0), f17, f20, f21, F12⟩
set_option maxRecDepth 65536 in
set_option maxHeartbeats 4000000 in
theorem ef_m43_init (m : MethodId) (x1 : Addr) (x2 : Addr) (kk3 : ClassId) (y4 : Int32) (y5 : Int32) (y6 : Int32) (y7 : Int32) : entryFrame m #[(.ref x1), (.ref x2)] 2 = mkF m 0 #[.val (.ref x1), .val (.ref x2)] [] := by first | rfl | (simp [entryFrame, mkF, argsToLocals, Value.category]; done)
set_option maxRecDepth 65536 in
set_option maxHeartbeats 40000000 in
theorem m43_init (l : Launch) (Z : State) (a0 : Array Value) (hw : ∀ d ∈ tables_1, d.before a0 Z = true) (x1 : Addr) (x2 : Addr) (kk3 : ClassId) (y4 : Int32) (y5 : Int32) (y6 : Int32) (y7 : Int32) (h0 : Heap) (n0 : Nat) (Z0 : n0 ≤ h0.size) (O0 : Old Z n0 h0) (P1 : Arv Z h0 x2 kk3 .char (3 : Int32) [(.int y4), (.int y5), (.int y6)] (.int (0 : Int32))) (P2 : Sta Z Z.heap "java/lang/String" "COMPACT_STRINGS" "Z" (.int y7)) (P3 : ¬ (y7 = (0 : Int32))) (P4 : ¬ ((255 : Int32) < y4)) (P5 : ¬ ((255 : Int32) < y5)) (P6 : ¬ ((255 : Int32) < y6)) (P7 : Exa Z h0 x1 "java/lang/String") (P8 : Fld Z h0 x1 "java/lang/String" "coder" "B" (.int (0 : Int32))) (P9 : n0 ≤ x1) (P10 : Fld Z h0 x1 "java/lang/String" "value" "[B" .null) :
    Ctr l Z [] (⟨"java/lang/String", "<init>", "([C)V"⟩ : MethodName) jdk_42_method_3_code 2 none #[(.ref x1), (.ref x2)] h0 ({ frames := 3, cells := 1, slots := 3, locals := 52 } : Room) (fun v h L => ∃ (b2_0 : Addr) (k2_0 : ClassId), v = none ∧ Fr n0 L ∧ Keep h0 h [x1] ∧ h0.size ≤ b2_0 ∧ Exa Z h b2_0 "[B" ∧ Arv Z h b2_0 k2_0 .byte (3 : Int32) [(.int (nar .byte (y4.toInt8.toInt32))), (.int (nar .byte (y5.toInt8.toInt32))), (.int (nar .byte (y6.toInt8.toInt32)))] (.int (0 : Int32)) ∧ Fld Z h x1 "java/lang/String" "coder" "B" (.int (0 : Int32)) ∧ Fld Z h x1 "java/lang/String" "value" "[B" (.ref b2_0)) := by
  refine Ctr.of (plainFor_of_name pn_java_lang_String) (fun m => ef_m43_init m x1 x2 kk3 y4 y5 y6 y7) ?_
  intro p e s m below meth c T0 hx hZ hby hml hown hnm hret hlk X0 e0
  have N0 := Fr.nil n0
  show Rch p e below _ (T0.setTop (mkF m 0 #[.val (.ref x1), .val (.ref x2)] []))
  refine Rch.go (fun t k => XS.aloadN X0.here hx rfl (hb hby d0_0) rfl rfl k) ?_
  show Rch p e below _ (T0.setTop (mkF m 1 #[.val (.ref x1), .val (.ref x2)] [(.ref x1)]))
  refine Rch.go (fun t k => XS.aloadN X0.here hx rfl (hb hby d0_1) rfl rfl k) ?_
  show Rch p e below _ (T0.setTop (mkF m 2 #[.val (.ref x1), .val (.ref x2)] [(.ref x2), (.ref x1)]))
  refine Rch.go (fun t k => XS.iconst X0.here hx rfl (hb hby d0_2) k) ?_
  show Rch p e below _ (T0.setTop (mkF m 3 #[.val (.ref x1), .val (.ref x2)] [(.int (0 : Int32)), (.ref x2), (.ref x1)]))
  refine Rch.go (fun t k => XS.aloadN X0.here hx rfl (hb hby d0_3) rfl rfl k) ?_
  show Rch p e below _ (T0.setTop (mkF m 4 #[.val (.ref x1), .val (.ref x2)] [(.ref x2), (.int (0 : Int32)), (.ref x2), (.ref x1)]))
  obtain ⟨c1, r1, q1, s1, u1, H1, G1⟩ := id P1
  refine Rch.go (fun t k => X0.arraylength hx (by rw [e0]; exact r1.1) (State.isArrayOf_alike hZ.alike r1.2.1) (g := (mkF m 4 #[.val (.ref x1), .val (.ref x2)] [(.ref x2), (.int (0 : Int32)), (.ref x2), (.ref x1)])) rfl rfl (hb hby d0_4) t (by rw [len_of s1 u1]; exact k)) ?_
  show Rch p e below _ (T0.setTop (mkF m 5 #[.val (.ref x1), .val (.ref x2)] [(.int (3 : Int32)), (.int (0 : Int32)), (.ref x2), (.ref x1)]))
  refine Rch.go (fun t k => XS.aconstNull X0.here hx rfl (hb hby d0_5) k) ?_
  show Rch p e below _ (T0.setTop (mkF m 6 #[.val (.ref x1), .val (.ref x2)] [.null, (.int (3 : Int32)), (.int (0 : Int32)), (.ref x2), (.ref x1)]))
  obtain ⟨v2, T2, L2, X2, Q2, st2⟩ := callSp X0 hx hZ (m44_init l Z a0 hw x1 x2 y7 kk3 y4 y5 y6 h0 n0 Z0 O0 P2 P3 P1 P4 P5 P6 P7 P8 P9 P10) e0 hown rfl (wd_8 hw) (wd_9 hw) (wd_11 hw) (wd_3 hw) (by decide) (hb hby d0_6) 0 (by decide) (by decide) (by decide) (by decide) (by rw [hml]; rfl) x1 [(.ref x2), (.int (0 : Int32)), (.int (3 : Int32)), .null] [] rfl (lenOf pd_3 rfl) rfl (Nat.le_of_eq rfl) (Ls := #[.val (.ref x1), .val (.ref x2)])
  obtain ⟨b2_0, k2_0, rfl, M2, K2, zz2_0, F2_0, F2_1, F2_2, F2_3⟩ := Q2
  have N2 := Fr.app N0 M2
  refine Rch.go st2 ?_
  have z3 : n0 ≤ T2.heap.size := (Nat.le_trans Z0 K2.1)
  have o4 := O0.keep K2 (allS P9 all0)
  have g_b2_0 : n0 ≤ b2_0 := Nat.le_trans Z0 zz2_0
  show Rch p e below _ (T2.setTop (mkF m 9 #[.val (.ref x1), .val (.ref x2)] []))
  refine Rch.void X2 hx hret hlk (hb hby d0_9) (by decide) (by decide) ?_
  exact ⟨b2_0, k2_0, rfl, N2, ((Keep.refl _ _).trans K2 (allS (Or.inl (List.mem_of_getElem? (i := 0) rfl)) all0)), (Nat.le_trans (Nat.le_refl _) zz2_0), F2_0, F2_1, F2_2, F2_3⟩
set_option maxRecDepth 65536 in
set_option maxHeartbeats 4000000 in
theorem ef_m50_isEmpty (m : MethodId) (x1 : Addr) (x2 : Addr) (kk3 : ClassId) (y4 : Int32) (y5 : Int32) (y6 : Int32) : entryFrame m #[(.ref x1)] 1 = mkF m 0 #[.val (.ref x1)] [] := by first | rfl | (simp [entryFrame, mkF, argsToLocals, Value.category]; done)
set_option maxRecDepth 65536 in
set_option maxHeartbeats 40000000 in
theorem m50_isEmpty (l : Launch) (Z : State) (a0 : Array Value) (hw : ∀ d ∈ tables_1, d.before a0 Z = true) (x1 : Addr) (x2 : Addr) (kk3 : ClassId) (y4 : Int32) (y5 : Int32) (y6 : Int32) (h0 : Heap) (n0 : Nat) (Z0 : n0 ≤ h0.size) (O0 : Old Z n0 h0) (P1 : Fld Z h0 x1 "java/lang/String" "value" "[B" (.ref x2)) (P2 : Arv Z h0 x2 kk3 .byte (3 : Int32) [(.int y4), (.int y5), (.int y6)] (.int (0 : Int32))) :
    Ctr l Z [] (⟨"java/lang/String", "isEmpty", "()Z"⟩ : MethodName) jdk_42_method_55_code 1 (some .boolean) #[(.ref x1)] h0 ({ frames := 0, cells := 0, slots := 0, locals := 0 } : Room) (fun v h L => v = some (.int (0 : Int32)) ∧ Fr n0 L ∧ h = h0) := by
  refine Ctr.of (plainFor_of_name pn_java_lang_String) (fun m => ef_m50_isEmpty m x1 x2 kk3 y4 y5 y6) ?_
  intro p e s m below meth c T0 hx hZ hby hml hown hnm hret hlk X0 e0
  have N0 := Fr.nil n0
  show Rch p e below _ (T0.setTop (mkF m 0 #[.val (.ref x1)] []))
  refine Rch.go (fun t k => XS.aloadN X0.here hx rfl (hb hby d10_0) rfl rfl k) ?_
  show Rch p e below _ (T0.setTop (mkF m 1 #[.val (.ref x1)] [(.ref x1)]))
  obtain ⟨T1, X1, e1, st1⟩ := getF X0 hx hZ hown (host := "") (Or.inl (wd_29 hw)) Via.refl e0 P1 (g := (mkF m 1 #[.val (.ref x1)] [(.ref x1)])) rfl rfl (hb hby d10_1)
  refine Rch.go st1 ?_
  show Rch p e below _ (T1.setTop (mkF m 4 #[.val (.ref x1)] [(.ref x2)]))
  obtain ⟨c2, r2, q2, s2, u2, H2, G2⟩ := id P2
  refine Rch.go (fun t k => X1.arraylength hx (by rw [e1]; exact r2.1) (State.isArrayOf_alike hZ.alike r2.2.1) (g := (mkF m 4 #[.val (.ref x1)] [(.ref x2)])) rfl rfl (hb hby d10_4) t (by rw [len_of s2 u2]; exact k)) ?_
  show Rch p e below _ (T1.setTop (mkF m 5 #[.val (.ref x1)] [(.int (3 : Int32))]))
  refine Rch.go (fun t k => XS.ifYes X1.here hx rfl (pc0 := 5) (pc' := 12) rfl (hb hby d10_5) rfl (by decide) (by decide) (by decide) k) ?_
  show Rch p e below _ (T1.setTop (mkF m 12 #[.val (.ref x1)] []))
  refine Rch.go (fun t k => XS.iconst X1.here hx rfl (hb hby d10_12) k) ?_
  show Rch p e below _ (T1.setTop (mkF m 13 #[.val (.ref x1)] [(.int (0 : Int32))]))
  refine Rch.val X1 hx (t := .boolean) hret hlk rfl (mayI (by simp)) (hb hby d10_13) (by decide) (by decide) ?_
  try rw [e1]
  exact ⟨rfl, N0, rfl⟩
set_option maxRecDepth 65536 in
set_option maxHeartbeats 4000000 in
theorem ef_m49_init (m : MethodId) (x1 : Addr) (x2 : Addr) (x3 : Addr) (x4 : Addr) (kk5 : ClassId) (y6 : Int32) (y7 : Int32) (y8 : Int32) : entryFrame m #[(.ref x1), (.ref x2), (.ref x3)] 3 = mkF m 0 #[.val (.ref x1), .val (.ref x2), .val (.ref x3)] [] := by first | rfl | (simp [entryFrame, mkF, argsToLocals, Value.category]; done)
set_option maxRecDepth 65536 in
set_option maxHeartbeats 40000000 in
theorem m49_init (l : Launch) (Z : State) (a0 : Array Value) (hw : ∀ d ∈ tables_1, d.before a0 Z = true) (x1 : Addr) (x2 : Addr) (x3 : Addr) (x4 : Addr) (kk5 : ClassId) (y6 : Int32) (y7 : Int32) (y8 : Int32) (h0 : Heap) (n0 : Nat) (Z0 : n0 ≤ h0.size) (O0 : Old Z n0 h0) (P1 : Exa Z h0 x2 "java/lang/String") (P2 : Fld Z h0 x2 "java/lang/String" "value" "[B" (.ref x4)) (P3 : Arv Z h0 x4 kk5 .byte (3 : Int32) [(.int y6), (.int y7), (.int y8)] (.int (0 : Int32))) (P4 : Exa Z Z.heap x3 "java/util/ImmutableCollections$ListN") (P5 : Fld Z Z.heap x3 "java/util/ImmutableCollections$ListN" "allowNulls" "Z" (.int (0 : Int32))) (P6 : Exa Z h0 x1 "com/example/harpocrates/harpocrates/data/Taxonomy") (P7 : Fld Z h0 x1 "com/example/harpocrates/harpocrates/data/Taxonomy" "value" "Ljava/lang/String;" .null) (P8 : n0 ≤ x1) (P9 : Fld Z h0 x1 "com/example/harpocrates/harpocrates/data/Taxonomy" "children" "Ljava/util/List;" .null) :
    CtrW l Z [] (⟨"com/example/harpocrates/harpocrates/data/Taxonomy", "<init>", "(Ljava/lang/String;Ljava/util/List;)V"⟩ : MethodName) prog_9_method_1_code 3 none #[(.ref x1), (.ref x2), (.ref x3)] h0 ({ frames := 2, cells := 2, slots := 24, locals := 25 } : Room) (fun v h L => v = none ∧ Fr n0 L ∧ Keep h0 h [x1] ∧ Fld Z h x1 "com/example/harpocrates/harpocrates/data/Taxonomy" "value" "Ljava/lang/String;" (.ref x2) ∧ Fld Z h x1 "com/example/harpocrates/harpocrates/data/Taxonomy" "children" "Ljava/util/List;" (.ref x3)) := by
  refine CtrW.of (plainFor_of_name pn_com_example_harpocrates_harpocrates_data_Taxonomy) (fun m => ef_m49_init m x1 x2 x3 x4 kk5 y6 y7 y8) ?_
  intro p e s vm0 m below meth c T0 hx hZ hby hml hown hnm hret hlk Y0 X0 e0
  have N0 := Fr.nil n0
  show Rch p e below _ (T0.setTop (mkF m 0 #[.val (.ref x1), .val (.ref x2), .val (.ref x3)] []))
  refine Rch.go (fun t k => XS.aloadN X0.here hx rfl (hb hby d7_0) rfl rfl k) ?_
  show Rch p e below _ (T0.setTop (mkF m 1 #[.val (.ref x1), .val (.ref x2), .val (.ref x3)] [(.ref x1)]))
  obtain ⟨v1, T1, L1, X1, Q1, st1⟩ := callSp X0 hx hZ (m9_init l Z a0 hw x1 h0 n0 Z0 O0 ) e0 hown rfl (wd_46 hw) (wd_47 hw) (wd_50 hw) (wd_49 hw) (by decide) (hb hby d7_1) 0 (by decide) (by decide) (by decide) (by decide) (by rw [hml]; rfl) x1 [] [] rfl (lenOf pd_6 rfl) rfl (Nat.le_of_eq rfl) (Ls := #[.val (.ref x1), .val (.ref x2), .val (.ref x3)])
  obtain ⟨rfl, M1, e1⟩ := Q1
  have N1 := Fr.app N0 M1
  refine Rch.go st1 ?_
  show Rch p e below _ (T1.setTop (mkF m 4 #[.val (.ref x1), .val (.ref x2), .val (.ref x3)] []))
  refine Rch.go (fun t k => XS.aloadN X1.here hx rfl (hb hby d7_4) rfl rfl k) ?_
  show Rch p e below _ (T1.setTop (mkF m 5 #[.val (.ref x1), .val (.ref x2), .val (.ref x3)] [(.ref x2)]))
  obtain ⟨b2, T2, h2, k2, X2, e2, E2, Y2, yk2, hZ2, hown2, st2⟩ := ldcS X1 hx hZ hown (wd_52 hw) (strW hw) e1 Y0 (Nat.le_refl _) (g := (mkF m 5 #[.val (.ref x1), .val (.ref x2), .val (.ref x3)] [(.ref x2)])) rfl (hb hby d7_5) (n := 20) (by decide) (by decide) (by decide) (by decide)
  refine Rch.go st2 ?_
  have z3 : n0 ≤ h2.size := (Nat.le_trans Z0 E2.1)
  have o4 := O0.ext E2
  show Rch p e below _ (T2.setTop (mkF m 7 #[.val (.ref x1), .val (.ref x2), .val (.ref x3)] [(.ref b2), (.ref x2)]))
  obtain ⟨v5, T5, L5, X5, Q5, st5⟩ := callSt X2 hx hZ2 (m10_requireNonNull l Z a0 hw x2 b2 h2 n0 z3 o4 ) e2 hown2 (wd_55 hw) (wd_56 hw) (wd_58 hw) (wd_57 hw) (by decide) (hb hby d7_7) 0 (by decide) (by decide) (by decide) (by decide) (by rw [hml]; rfl) [(.ref x2), (.ref b2)] [] rfl (lenOf pd_7 rfl) rfl (Nat.le_of_eq rfl) (Ls := #[.val (.ref x1), .val (.ref x2), .val (.ref x3)])
  obtain ⟨rfl, M5, e5⟩ := Q5
  have N5 := Fr.app N1 M5
  refine Rch.go st5 ?_
  show Rch p e below _ (T5.setTop (mkF m 10 #[.val (.ref x1), .val (.ref x2), .val (.ref x3)] [(.ref x2)]))
  refine Rch.go (fun t k => XS.pop X5.here hx rfl (hb hby d7_10) rfl rfl k) ?_
  show Rch p e below _ (T5.setTop (mkF m 11 #[.val (.ref x1), .val (.ref x2), .val (.ref x3)] []))
  refine Rch.go (fun t k => XS.aloadN X5.here hx rfl (hb hby d7_11) rfl rfl k) ?_
  show Rch p e below _ (T5.setTop (mkF m 12 #[.val (.ref x1), .val (.ref x2), .val (.ref x3)] [(.ref x2)]))
  have f6 := (P2.ext E2)
  have f7 := (P3.ext E2)
  have f9 := (P1.ext E2)
  obtain ⟨v8, T8, L8, X8, Q8, st8⟩ := callVi X5 hx hZ2 (m50_isEmpty l Z a0 hw x2 x4 kk5 y6 y7 y8 h2 n0 z3 o4 f6 f7) e5 hown2 (wd_59 hw) (wd_60 hw) (wd_62 hw) (notFace_of_selects (args := #[]) (mvT hZ2 (wd_62 hw))) (wd_61 hw) (wd_63 hw) (wd_3 hw) (by decide) (hb hby d7_12) 0 (by decide) (by decide) (by decide) (by decide) (by rw [hml]; rfl) x2 f9 [] [] rfl (lenOf pd_8 rfl) rfl (Nat.le_of_eq rfl) (Ls := #[.val (.ref x1), .val (.ref x2), .val (.ref x3)])
  obtain ⟨rfl, M8, e8⟩ := Q8
  have N8 := Fr.app N5 M8
  refine Rch.go st8 ?_
  show Rch p e below _ (T8.setTop (mkF m 15 #[.val (.ref x1), .val (.ref x2), .val (.ref x3)] [(.int (0 : Int32))]))
  refine Rch.go (fun t k => XS.ifYes X8.here hx rfl (pc0 := 15) (pc' := 28) rfl (hb hby d7_15) rfl (by decide) (by decide) (by decide) k) ?_
  show Rch p e below _ (T8.setTop (mkF m 28 #[.val (.ref x1), .val (.ref x2), .val (.ref x3)] []))
  refine Rch.go (fun t k => XS.aloadN X8.here hx rfl (hb hby d7_28) rfl rfl k) ?_
  show Rch p e below _ (T8.setTop (mkF m 29 #[.val (.ref x1), .val (.ref x2), .val (.ref x3)] [(.ref x3)]))
  obtain ⟨v10, T10, L10, X10, Q10, st10⟩ := callSt X8 hx hZ2 (m12_copyOf l Z a0 hw x3 h2 n0 z3 o4 P4 P5) e8 hown2 (wd_64 hw) (wd_65 hw) (wd_66 hw) (wd_39 hw) (by decide) (hb hby d7_29) 0 (by decide) (by decide) (by decide) (by decide) (by rw [hml]; rfl) [(.ref x3)] [] rfl (lenOf pd_9 rfl) rfl (Nat.le_of_eq rfl) (Ls := #[.val (.ref x1), .val (.ref x2), .val (.ref x3)])
  obtain ⟨rfl, M10, e10⟩ := Q10
  have N10 := Fr.app N8 M10
  refine Rch.go st10 ?_
  show Rch p e below _ (T10.setTop (mkF m 32 #[.val (.ref x1), .val (.ref x2), .val (.ref x3)] [(.ref x3)]))
  refine Rch.go (fun t k => XS.astoreN X10.here hx rfl (hb hby d7_32) rfl rfl (l' := #[.val (.ref x1), .val (.ref x2), .val (.ref x3)]) rfl k) ?_
  show Rch p e below _ (T10.setTop (mkF m 33 #[.val (.ref x1), .val (.ref x2), .val (.ref x3)] []))
  refine Rch.go (fun t k => XS.aloadN X10.here hx rfl (hb hby d7_33) rfl rfl k) ?_
  show Rch p e below _ (T10.setTop (mkF m 34 #[.val (.ref x1), .val (.ref x2), .val (.ref x3)] [(.ref x1)]))
  refine Rch.go (fun t k => XS.aloadN X10.here hx rfl (hb hby d7_34) rfl rfl k) ?_
  show Rch p e below _ (T10.setTop (mkF m 35 #[.val (.ref x1), .val (.ref x2), .val (.ref x3)] [(.ref x2), (.ref x1)]))
  have f12 := (P7.ext E2)
  have f13 := (P6.ext E2)
  obtain ⟨T11, h11, X11, e11, W11, st11⟩ := putF X10 hx hZ2 hown2 (host := "") (Or.inl (wd_82 hw)) Via.refl e10 f12 f13 (Or.inr ⟨(wd_83 hw), rfl, hnm⟩) (wd_36 hw) (ty := (.object "java/lang/String")) (by decide) rfl rfl (g := (mkF m 35 #[.val (.ref x1), .val (.ref x2), .val (.ref x3)] [(.ref x2), (.ref x1)])) rfl rfl (hb hby d7_35)
  refine Rch.go st11 ?_
  have z14 : n0 ≤ h11.size := (Nat.le_trans z3 (Nat.le_of_eq W11.size.symm))
  have o15 := o4.wr W11 P8
  have F11 := f12.same W11
  have N11 := Fr.snoc X11 N10 P8
  show Rch p e below _ (T11.setTop (mkF m 38 #[.val (.ref x1), .val (.ref x2), .val (.ref x3)] []))
  refine Rch.go (fun t k => XS.aloadN X11.here hx rfl (hb hby d7_38) rfl rfl k) ?_
  show Rch p e below _ (T11.setTop (mkF m 39 #[.val (.ref x1), .val (.ref x2), .val (.ref x3)] [(.ref x1)]))
  refine Rch.go (fun t k => XS.aloadN X11.here hx rfl (hb hby d7_39) rfl rfl k) ?_
  show Rch p e below _ (T11.setTop (mkF m 40 #[.val (.ref x1), .val (.ref x2), .val (.ref x3)] [(.ref x3), (.ref x1)]))
  have f17 := ((P9.ext E2).other W11 (Or.inr (slot_ne (Or.inr (wd_85 hw)) (Or.inr (wd_83 hw)) (by decide) (t := (.object "java/util/List")) (t' := (.object "java/lang/String")) (by decide) (by decide))))
  have f18 := (f13.wr W11)
  obtain ⟨T16, h16, X16, e16, W16, st16⟩ := putF X11 hx hZ2 hown2 (host := "") (Or.inl (wd_84 hw)) Via.refl e11 f17 f18 (Or.inr ⟨(wd_85 hw), rfl, hnm⟩) (wd_36 hw) (ty := (.object "java/util/List")) (by decide) rfl rfl (g := (mkF m 40 #[.val (.ref x1), .val (.ref x2), .val (.ref x3)] [(.ref x3), (.ref x1)])) rfl rfl (hb hby d7_40)
  refine Rch.go st16 ?_
  have z19 : n0 ≤ h16.size := (Nat.le_trans z14 (Nat.le_of_eq W16.size.symm))
  have o20 := o15.wr W16 P8
  have F16 := f17.same W16
  have N16 := Fr.snoc X16 N11 P8
  show Rch p e below _ (T16.setTop (mkF m 43 #[.val (.ref x1), .val (.ref x2), .val (.ref x3)] []))
  have f21 := (F11.other W16 (Or.inr (slot_ne (Or.inr (wd_83 hw)) (Or.inr (wd_85 hw)) (by decide) (t := (.object "java/lang/String")) (t' := (.object "java/util/List")) (by decide) (by decide))))
  refine Rch.voidW X16 hx Y2 e16 (Nat.le_trans (Nat.le_trans yk2 (Nat.le_of_eq W11.size.symm)) (Nat.le_of_eq W16.size.symm)) hret hlk (hb hby d7_43) (by decide) (by decide) ?_
  exact ⟨rfl, N16, ((((Keep.refl _ _).ext E2).wr W11 (Or.inl (List.mem_of_getElem? (i := 0) rfl))).wr W16 (Or.inl (List.mem_of_getElem? (i := 0) rfl))), f21, F16⟩
set_option maxRecDepth 65536 in
set_option maxHeartbeats 4000000 in
theorem ef_m48_leaf (m : MethodId) (x1 : Addr) (x2 : Addr) (x3 : Addr) (kk4 : ClassId) (y5 : Int32) (y6 : Int32) (y7 : Int32) : entryFrame m #[(.ref x1)] 1 = mkF m 0 #[.val (.ref x1)] [] := by first | rfl | (simp [entryFrame, mkF, argsToLocals, Value.category]; done)
set_option maxRecDepth 65536 in
set_option maxHeartbeats 40000000 in
theorem m48_leaf (l : Launch) (Z : State) (a0 : Array Value) (hw : ∀ d ∈ tables_1, d.before a0 Z = true) (x1 : Addr) (x2 : Addr) (x3 : Addr) (kk4 : ClassId) (y5 : Int32) (y6 : Int32) (y7 : Int32) (h0 : Heap) (n0 : Nat) (Z0 : n0 ≤ h0.size) (O0 : Old Z n0 h0) (P1 : Sta Z Z.heap "java/util/ImmutableCollections" "EMPTY_LIST" "Ljava/util/ImmutableCollections$ListN;" (.ref x2)) (P2 : Exa Z h0 x1 "java/lang/String") (P3 : Fld Z h0 x1 "java/lang/String" "value" "[B" (.ref x3)) (P4 : Arv Z h0 x3 kk4 .byte (3 : Int32) [(.int y5), (.int y6), (.int y7)] (.int (0 : Int32))) (P5 : Exa Z Z.heap x2 "java/util/ImmutableCollections$ListN") (P6 : Fld Z Z.heap x2 "java/util/ImmutableCollections$ListN" "allowNulls" "Z" (.int (0 : Int32))) :
    CtrW l Z [] (⟨"com/example/harpocrates/harpocrates/data/Taxonomy", "leaf", "(Ljava/lang/String;)Lcom/example/harpocrates/harpocrates/data/Taxonomy;"⟩ : MethodName) prog_9_method_2_code 1 (some (.object "com/example/harpocrates/harpocrates/data/Taxonomy")) #[(.ref x1)] h0 ({ frames := 3, cells := 3, slots := 26, locals := 40 } : Room) (fun v h L => ∃ (b1 : Addr), v = some (.ref b1) ∧ Fr n0 L ∧ Keep h0 h [] ∧ h0.size ≤ b1 ∧ Exa Z h b1 "com/example/harpocrates/harpocrates/data/Taxonomy" ∧ Fld Z h b1 "com/example/harpocrates/harpocrates/data/Taxonomy" "value" "Ljava/lang/String;" (.ref x1) ∧ Fld Z h b1 "com/example/harpocrates/harpocrates/data/Taxonomy" "children" "Ljava/util/List;" (.ref x2)) := by
  refine CtrW.of (plainFor_of_name pn_com_example_harpocrates_harpocrates_data_Taxonomy) (fun m => ef_m48_leaf m x1 x2 x3 kk4 y5 y6 y7) ?_
  intro p e s vm0 m below meth c T0 hx hZ hby hml hown hnm hret hlk Y0 X0 e0
  have N0 := Fr.nil n0
  show Rch p e below _ (T0.setTop (mkF m 0 #[.val (.ref x1)] []))
  obtain ⟨T1, h1, X1, e1, E1, A1, D1, -, st1⟩ := newO X0 hx hZ hown (wd_35 hw) (wd_36 hw) (wd_33 hw) e0 (g := (mkF m 0 #[.val (.ref x1)] [])) rfl (hb hby d5_0) (by decide) (by decide)
  obtain ⟨b1, g1⟩ : ∃ z, z = h0.size := ⟨_, rfl⟩
  rw [← g1] at A1 D1 st1
  refine Rch.go st1 ?_
  have z2 : n0 ≤ h1.size := (Nat.le_trans Z0 E1.1)
  have o3 := O0.ext E1
  have g_b1 : n0 ≤ b1 := Nat.le_trans Z0 (Nat.le_of_eq g1.symm)
  have F1_value : Fld Z h1 b1 "com/example/harpocrates/harpocrates/data/Taxonomy" "value" "Ljava/lang/String;" .null := (D1 (Or.inr (wd_83 hw)) (ty := (.object "java/lang/String")) (by decide))
  have F1_children : Fld Z h1 b1 "com/example/harpocrates/harpocrates/data/Taxonomy" "children" "Ljava/util/List;" .null := (D1 (Or.inr (wd_85 hw)) (ty := (.object "java/util/List")) (by decide))
  show Rch p e below _ (T1.setTop (mkF m 3 #[.val (.ref x1)] [(.ref b1)]))
  refine Rch.go (fun t k => XS.dup X1.here hx rfl (hb hby d5_3) rfl rfl k) ?_
  show Rch p e below _ (T1.setTop (mkF m 4 #[.val (.ref x1)] [(.ref b1), (.ref b1)]))
  refine Rch.go (fun t k => XS.aloadN X1.here hx rfl (hb hby d5_4) rfl rfl k) ?_
  show Rch p e below _ (T1.setTop (mkF m 5 #[.val (.ref x1)] [(.ref x1), (.ref b1), (.ref b1)]))
  obtain ⟨v4, T4, L4, X4, Q4, st4⟩ := callSt X1 hx hZ (m7_of l Z a0 hw x2 h1 n0 z2 o3 P1) e1 hown (wd_37 hw) (wd_38 hw) (wd_40 hw) (wd_39 hw) (by decide) (hb hby d5_5) 3 (by decide) (by decide) (by decide) (by decide) (by rw [hml]; rfl) [] [(.ref x1), (.ref b1), (.ref b1)] rfl (lenOf pd_5 rfl) rfl (Nat.le_of_eq rfl) (Ls := #[.val (.ref x1)])
  obtain ⟨rfl, M4, e4⟩ := Q4
  have N4 := Fr.app N0 M4
  refine Rch.go st4 ?_
  show Rch p e below _ (T4.setTop (mkF m 8 #[.val (.ref x1)] [(.ref x2), (.ref x1), (.ref b1), (.ref b1)]))
  have f5 := (P2.ext E1)
  have f6 := (P3.ext E1)
  have f7 := (P4.ext E1)
  obtain ⟨v8, T8, L8, X8, Q8, Y8, hZ8, hown8, st8⟩ := callSpW X4 hx hZ Y0 (Nat.le_trans (Nat.le_refl _) E1.1) (m49_init l Z a0 hw b1 x1 x2 x3 kk4 y5 y6 y7 h1 n0 z2 o3 f5 f6 f7 P5 P6 A1 F1_value g_b1 F1_children) e4 hown rfl (wd_43 hw) (wd_44 hw) (wd_45 hw) (wd_33 hw) (by decide) (hb hby d5_8) 1 (by decide) (by decide) (by decide) (by decide) (by rw [hml]; rfl) b1 [(.ref x1), (.ref x2)] [(.ref b1)] rfl (lenOf pd_10 rfl) rfl (Nat.le_of_eq rfl) (Ls := #[.val (.ref x1)])
  obtain ⟨rfl, M8, K8, F8_0, F8_1⟩ := Q8
  have N8 := Fr.app N4 M8
  refine Rch.go st8 ?_
  have z9 : n0 ≤ T8.heap.size := (Nat.le_trans z2 K8.1)
  have o10 := o3.keep K8 (allS g_b1 all0)
  show Rch p e below _ (T8.setTop (mkF m 11 #[.val (.ref x1)] [(.ref b1)]))
  have f11 := (A1.keep K8)
  refine Rch.valW X8 hx Y8 rfl (Nat.le_refl _) (t := (.object "com/example/harpocrates/harpocrates/data/Taxonomy")) hret hlk rfl (Or.inr (Or.inr (Or.inr (Or.inr ⟨rfl, rfl, rfl⟩)))) (hb hby d5_11) (by decide) (by decide) ?_
  exact ⟨b1, rfl, N8, (((Keep.refl _ _).ext E1).trans K8 (allS (Or.inr (Nat.le_trans (Nat.le_refl _) (Nat.le_of_eq g1.symm))) all0)), (Nat.le_trans (Nat.le_refl _) (Nat.le_of_eq g1.symm)), f11, F8_0, F8_1⟩
theorem pn_com_example_harpocrates_harpocrates_data_TaxonomyLeafPinLaw : plainName "com/example/harpocrates/harpocrates/data/TaxonomyLeafPinLaw" = true := by first | (simp [plainName, overriddenIn]; done) | decide +kernel
set_option maxRecDepth 65536 in
set_option maxHeartbeats 4000000 in
theorem ef_law_1 (m : MethodId) (p0 p1 p2 p3 : Int32) (ro0 : Addr) (ro1 : Addr) (ro2 : Addr) (ro3 : Addr) (ww4 : Int32) (ww5 : Value) (kk_ro1 : ClassId) (kk_ro2 : ClassId) (kk_ro3 : ClassId) : entryFrame m #[(.int p0), (.int p1), (.int p2), (.int p3)] maxLocals = mkF m 0 #[.val (.int p0), .val (.int p1), .val (.int p2), .val (.int p3), .unset, .unset, .unset, .unset, .unset, .unset, .unset] [] := by first | rfl | (simp [entryFrame, mkF, argsToLocals, Value.category, maxLocals]; done)
set_option maxRecDepth 65536 in
set_option maxHeartbeats 40000000 in
theorem law_1 (l : Launch) (Z : State) (a0 : Array Value) (hw : ∀ d ∈ tables_1, d.before a0 Z = true) (p0 p1 p2 p3 : Int32) (ro0 : Addr) (ro1 : Addr) (ro2 : Addr) (ro3 : Addr) (ww4 : Int32) (ww5 : Value) (kk_ro1 : ClassId) (kk_ro2 : ClassId) (kk_ro3 : ClassId) (h0 : Heap) (n0 : Nat) (Z0 : n0 ≤ h0.size) (O0 : Old Z n0 h0) (G : Olds Z ro0 ro1 ro2 ro3 ww4 ww5 kk_ro1 kk_ro2 kk_ro3) :
    CtrW l Z tables_1 x code maxLocals ret #[(.int p0), (.int p1), (.int p2), (.int p3)] h0 room_1 (fun v h L => v = some (.int (1 : Int32)) ∧ Fr n0 L) := by
  refine CtrW.of (plainFor_of_name pn_com_example_harpocrates_harpocrates_data_TaxonomyLeafPinLaw) (fun m => ef_law_1 m p0 p1 p2 p3 ro0 ro1 ro2 ro3 ww4 ww5 kk_ro1 kk_ro2 kk_ro3) ?_
  intro p e s vm0 m below meth c T0 hx hZ hby hml hown hnm hret hlk Y0 X0 e0
  have N0 := Fr.nil n0
  have hret : meth.sig.returnType = some .boolean := hret
  show Rch p e below _ (T0.setTop (mkF m 0 #[.val (.int p0), .val (.int p1), .val (.int p2), .val (.int p3), .unset, .unset, .unset, .unset, .unset, .unset, .unset] []))
  refine Rch.go (fun t k => XS.iloadN X0.here hx rfl (hb hby at_0) rfl  k) ?_
  show Rch p e below _ (T0.setTop (mkF m 1 #[.val (.int p0), .val (.int p1), .val (.int p2), .val (.int p3), .unset, .unset, .unset, .unset, .unset, .unset, .unset] [(.int p0)]))
  refine Rch.go (fun t k => XS.sipush X0.here hx rfl (hb hby at_1) k) ?_
  show Rch p e below _ (T0.setTop (mkF m 4 #[.val (.int p0), .val (.int p1), .val (.int p2), .val (.int p3), .unset, .unset, .unset, .unset, .unset, .unset, .unset] [(.int (255 : Int32)), (.int p0)]))
  refine Rch.go (fun t k => XS.iand X0.here hx rfl (hb hby at_4) rfl k) ?_
  show Rch p e below _ (T0.setTop (mkF m 5 #[.val (.int p0), .val (.int p1), .val (.int p2), .val (.int p3), .unset, .unset, .unset, .unset, .unset, .unset, .unset] [(.int (p0 &&& (255 : Int32)))]))
  refine Rch.go (fun t k => XS.i2c X0.here hx rfl (hb hby at_5) rfl k) ?_
  show Rch p e below _ (T0.setTop (mkF m 6 #[.val (.int p0), .val (.int p1), .val (.int p2), .val (.int p3), .unset, .unset, .unset, .unset, .unset, .unset, .unset] [(.int ((p0 &&& (255 : Int32)).toUInt32.toUInt16.toUInt32.toInt32))]))
  obtain ⟨ch1, he1, hn1, hl1, hg1⟩ := own_chr p0
  rw [he1]
  show Rch p e below _ (T0.setTop (mkF m 6 #[.val (.int p0), .val (.int p1), .val (.int p2), .val (.int p3), .unset, .unset, .unset, .unset, .unset, .unset, .unset] [(.int ch1)]))
  refine Rch.go (fun t k => XS.istore X0.here hx rfl (hb hby at_6) rfl  (l' := #[.val (.int p0), .val (.int p1), .val (.int p2), .val (.int p3), .val (.int ch1), .unset, .unset, .unset, .unset, .unset, .unset]) rfl k) ?_
  show Rch p e below _ (T0.setTop (mkF m 8 #[.val (.int p0), .val (.int p1), .val (.int p2), .val (.int p3), .val (.int ch1), .unset, .unset, .unset, .unset, .unset, .unset] []))
  refine Rch.go (fun t k => XS.iloadN X0.here hx rfl (hb hby at_8) rfl  k) ?_
  show Rch p e below _ (T0.setTop (mkF m 9 #[.val (.int p0), .val (.int p1), .val (.int p2), .val (.int p3), .val (.int ch1), .unset, .unset, .unset, .unset, .unset, .unset] [(.int p1)]))
  refine Rch.go (fun t k => XS.sipush X0.here hx rfl (hb hby at_9) k) ?_
  show Rch p e below _ (T0.setTop (mkF m 12 #[.val (.int p0), .val (.int p1), .val (.int p2), .val (.int p3), .val (.int ch1), .unset, .unset, .unset, .unset, .unset, .unset] [(.int (255 : Int32)), (.int p1)]))
  refine Rch.go (fun t k => XS.iand X0.here hx rfl (hb hby at_12) rfl k) ?_
  show Rch p e below _ (T0.setTop (mkF m 13 #[.val (.int p0), .val (.int p1), .val (.int p2), .val (.int p3), .val (.int ch1), .unset, .unset, .unset, .unset, .unset, .unset] [(.int (p1 &&& (255 : Int32)))]))
  refine Rch.go (fun t k => XS.i2c X0.here hx rfl (hb hby at_13) rfl k) ?_
  show Rch p e below _ (T0.setTop (mkF m 14 #[.val (.int p0), .val (.int p1), .val (.int p2), .val (.int p3), .val (.int ch1), .unset, .unset, .unset, .unset, .unset, .unset] [(.int ((p1 &&& (255 : Int32)).toUInt32.toUInt16.toUInt32.toInt32))]))
  obtain ⟨ch2, he2, hn2, hl2, hg2⟩ := own_chr p1
  rw [he2]
  show Rch p e below _ (T0.setTop (mkF m 14 #[.val (.int p0), .val (.int p1), .val (.int p2), .val (.int p3), .val (.int ch1), .unset, .unset, .unset, .unset, .unset, .unset] [(.int ch2)]))
  refine Rch.go (fun t k => XS.istore X0.here hx rfl (hb hby at_14) rfl  (l' := #[.val (.int p0), .val (.int p1), .val (.int p2), .val (.int p3), .val (.int ch1), .val (.int ch2), .unset, .unset, .unset, .unset, .unset]) rfl k) ?_
  show Rch p e below _ (T0.setTop (mkF m 16 #[.val (.int p0), .val (.int p1), .val (.int p2), .val (.int p3), .val (.int ch1), .val (.int ch2), .unset, .unset, .unset, .unset, .unset] []))
  refine Rch.go (fun t k => XS.iloadN X0.here hx rfl (hb hby at_16) rfl  k) ?_
  show Rch p e below _ (T0.setTop (mkF m 17 #[.val (.int p0), .val (.int p1), .val (.int p2), .val (.int p3), .val (.int ch1), .val (.int ch2), .unset, .unset, .unset, .unset, .unset] [(.int p2)]))
  refine Rch.go (fun t k => XS.sipush X0.here hx rfl (hb hby at_17) k) ?_
  show Rch p e below _ (T0.setTop (mkF m 20 #[.val (.int p0), .val (.int p1), .val (.int p2), .val (.int p3), .val (.int ch1), .val (.int ch2), .unset, .unset, .unset, .unset, .unset] [(.int (255 : Int32)), (.int p2)]))
  refine Rch.go (fun t k => XS.iand X0.here hx rfl (hb hby at_20) rfl k) ?_
  show Rch p e below _ (T0.setTop (mkF m 21 #[.val (.int p0), .val (.int p1), .val (.int p2), .val (.int p3), .val (.int ch1), .val (.int ch2), .unset, .unset, .unset, .unset, .unset] [(.int (p2 &&& (255 : Int32)))]))
  refine Rch.go (fun t k => XS.i2c X0.here hx rfl (hb hby at_21) rfl k) ?_
  show Rch p e below _ (T0.setTop (mkF m 22 #[.val (.int p0), .val (.int p1), .val (.int p2), .val (.int p3), .val (.int ch1), .val (.int ch2), .unset, .unset, .unset, .unset, .unset] [(.int ((p2 &&& (255 : Int32)).toUInt32.toUInt16.toUInt32.toInt32))]))
  obtain ⟨ch3, he3, hn3, hl3, hg3⟩ := own_chr p2
  rw [he3]
  show Rch p e below _ (T0.setTop (mkF m 22 #[.val (.int p0), .val (.int p1), .val (.int p2), .val (.int p3), .val (.int ch1), .val (.int ch2), .unset, .unset, .unset, .unset, .unset] [(.int ch3)]))
  refine Rch.go (fun t k => XS.istore X0.here hx rfl (hb hby at_22) rfl  (l' := #[.val (.int p0), .val (.int p1), .val (.int p2), .val (.int p3), .val (.int ch1), .val (.int ch2), .val (.int ch3), .unset, .unset, .unset, .unset]) rfl k) ?_
  show Rch p e below _ (T0.setTop (mkF m 24 #[.val (.int p0), .val (.int p1), .val (.int p2), .val (.int p3), .val (.int ch1), .val (.int ch2), .val (.int ch3), .unset, .unset, .unset, .unset] []))
  refine Rch.go (fun t k => XS.iloadN X0.here hx rfl (hb hby at_24) rfl  k) ?_
  show Rch p e below _ (T0.setTop (mkF m 25 #[.val (.int p0), .val (.int p1), .val (.int p2), .val (.int p3), .val (.int ch1), .val (.int ch2), .val (.int ch3), .unset, .unset, .unset, .unset] [(.int p3)]))
  refine Rch.go (fun t k => Jvm.Stand.ldcI X0 hx hown (mvT hZ (wd_0 hw)) rfl (hb hby at_25) k) ?_
  show Rch p e below _ (T0.setTop (mkF m 27 #[.val (.int p0), .val (.int p1), .val (.int p2), .val (.int p3), .val (.int ch1), .val (.int ch2), .val (.int ch3), .unset, .unset, .unset, .unset] [(.int (2147483647 : Int32)), (.int p3)]))
  refine Rch.go (fun t k => XS.iand X0.here hx rfl (hb hby at_27) rfl k) ?_
  show Rch p e below _ (T0.setTop (mkF m 28 #[.val (.int p0), .val (.int p1), .val (.int p2), .val (.int p3), .val (.int ch1), .val (.int ch2), .val (.int ch3), .unset, .unset, .unset, .unset] [(.int (p3 &&& (2147483647 : Int32)))]))
  refine Rch.go (fun t k => XS.iconst X0.here hx rfl (hb hby at_28) k) ?_
  show Rch p e below _ (T0.setTop (mkF m 29 #[.val (.int p0), .val (.int p1), .val (.int p2), .val (.int p3), .val (.int ch1), .val (.int ch2), .val (.int ch3), .unset, .unset, .unset, .unset] [(.int (3 : Int32)), (.int (p3 &&& (2147483647 : Int32)))]))
  refine Rch.go (fun t k => iremM X0 hx rfl (hb hby at_29) rfl (by decide) k) ?_
  show Rch p e below _ (T0.setTop (mkF m 30 #[.val (.int p0), .val (.int p1), .val (.int p2), .val (.int p3), .val (.int ch1), .val (.int ch2), .val (.int ch3), .unset, .unset, .unset, .unset] [(.int ((p3 &&& (2147483647 : Int32)) % (3 : Int32)))]))
  rcases own_mod3 p3 with hq | hq | hq
  · rw [hq]
    show Rch p e below _ (T0.setTop (mkF m 30 #[.val (.int p0), .val (.int p1), .val (.int p2), .val (.int p3), .val (.int ch1), .val (.int ch2), .val (.int ch3), .unset, .unset, .unset, .unset] [(.int (0 : Int32))]))
    refine Rch.go (fun t k => XS.istore X0.here hx rfl (hb hby at_30) rfl  (l' := #[.val (.int p0), .val (.int p1), .val (.int p2), .val (.int p3), .val (.int ch1), .val (.int ch2), .val (.int ch3), .val (.int (0 : Int32)), .unset, .unset, .unset]) rfl k) ?_
    show Rch p e below _ (T0.setTop (mkF m 32 #[.val (.int p0), .val (.int p1), .val (.int p2), .val (.int p3), .val (.int ch1), .val (.int ch2), .val (.int ch3), .val (.int (0 : Int32)), .unset, .unset, .unset] []))
    refine Rch.go (fun t k => XS.iload X0.here hx rfl (hb hby at_32) rfl  k) ?_
    show Rch p e below _ (T0.setTop (mkF m 34 #[.val (.int p0), .val (.int p1), .val (.int p2), .val (.int p3), .val (.int ch1), .val (.int ch2), .val (.int ch3), .val (.int (0 : Int32)), .unset, .unset, .unset] [(.int (0 : Int32))]))
    refine Rch.go (fun t k => XS.ifNo X0.here hx rfl (hb hby at_34) rfl (by decide) k) ?_
    show Rch p e below _ (T0.setTop (mkF m 37 #[.val (.int p0), .val (.int p1), .val (.int p2), .val (.int p3), .val (.int ch1), .val (.int ch2), .val (.int ch3), .val (.int (0 : Int32)), .unset, .unset, .unset] []))
    obtain ⟨T4, h4, X4, e4, E4, A4, D4, -, st4⟩ := newO X0 hx hZ hown (wd_1 hw) (wd_2 hw) (wd_3 hw) e0 (g := (mkF m 37 #[.val (.int p0), .val (.int p1), .val (.int p2), .val (.int p3), .val (.int ch1), .val (.int ch2), .val (.int ch3), .val (.int (0 : Int32)), .unset, .unset, .unset] [])) rfl (hb hby at_37) (by decide) (by decide)
    obtain ⟨b4, g4⟩ : ∃ z, z = h0.size := ⟨_, rfl⟩
    rw [← g4] at A4 D4 st4
    refine Rch.go st4 ?_
    have z5 : n0 ≤ h4.size := (Nat.le_trans Z0 E4.1)
    have o6 := O0.ext E4
    have g_b4 : n0 ≤ b4 := Nat.le_trans Z0 (Nat.le_of_eq g4.symm)
    have F4_coder : Fld Z h4 b4 "java/lang/String" "coder" "B" (.int (0 : Int32)) := (D4 (Or.inr (wd_28 hw)) (ty := .byte) (by decide))
    have F4_value : Fld Z h4 b4 "java/lang/String" "value" "[B" .null := (D4 (Or.inr (wd_30 hw)) (ty := (.array .byte)) (by decide))
    show Rch p e below _ (T4.setTop (mkF m 40 #[.val (.int p0), .val (.int p1), .val (.int p2), .val (.int p3), .val (.int ch1), .val (.int ch2), .val (.int ch3), .val (.int (0 : Int32)), .unset, .unset, .unset] [(.ref b4)]))
    refine Rch.go (fun t k => XS.dup X4.here hx rfl (hb hby at_40) rfl rfl k) ?_
    show Rch p e below _ (T4.setTop (mkF m 41 #[.val (.int p0), .val (.int p1), .val (.int p2), .val (.int p3), .val (.int ch1), .val (.int ch2), .val (.int ch3), .val (.int (0 : Int32)), .unset, .unset, .unset] [(.ref b4), (.ref b4)]))
    refine Rch.go (fun t k => XS.iconst X4.here hx rfl (hb hby at_41) k) ?_
    show Rch p e below _ (T4.setTop (mkF m 42 #[.val (.int p0), .val (.int p1), .val (.int p2), .val (.int p3), .val (.int ch1), .val (.int ch2), .val (.int ch3), .val (.int (0 : Int32)), .unset, .unset, .unset] [(.int (1 : Int32)), (.ref b4), (.ref b4)]))
    obtain ⟨T7, h7, k7, X7, e7, E7, A7, B7, st7⟩ := newPE (aty := .char) X4 hx hZ (wd_4 hw) e4 (g := (mkF m 42 #[.val (.int p0), .val (.int p1), .val (.int p2), .val (.int p3), .val (.int ch1), .val (.int ch2), .val (.int ch3), .val (.int (0 : Int32)), .unset, .unset, .unset] [(.int (1 : Int32)), (.ref b4), (.ref b4)])) rfl (hb hby at_42) rfl (by decide) (cap := 1) (by decide) (by decide) (by decide) (by decide) (ad := "[C") (by decide +kernel)
    obtain ⟨b7, g7⟩ : ∃ z, z = h4.size := ⟨_, rfl⟩
    rw [← g7] at A7 B7 st7
    refine Rch.go st7 ?_
    have z8 : n0 ≤ h7.size := (Nat.le_trans z5 E7.1)
    have o9 := o6.ext E7
    have g_b7 : n0 ≤ b7 := Nat.le_trans z5 (Nat.le_of_eq g7.symm)
    have V7 : Arv Z h7 b7 k7 .char (1 : Int32) [(.int (0 : Int32))] (.int (0 : Int32)) := (Arv.new A7 (by decide)).pad (pad_rep [] (.int (0 : Int32)) 1)
    show Rch p e below _ (T7.setTop (mkF m 44 #[.val (.int p0), .val (.int p1), .val (.int p2), .val (.int p3), .val (.int ch1), .val (.int ch2), .val (.int ch3), .val (.int (0 : Int32)), .unset, .unset, .unset] [(.ref b7), (.ref b4), (.ref b4)]))
    refine Rch.go (fun t k => XS.dup X7.here hx rfl (hb hby at_44) rfl rfl k) ?_
    show Rch p e below _ (T7.setTop (mkF m 45 #[.val (.int p0), .val (.int p1), .val (.int p2), .val (.int p3), .val (.int ch1), .val (.int ch2), .val (.int ch3), .val (.int (0 : Int32)), .unset, .unset, .unset] [(.ref b7), (.ref b7), (.ref b4), (.ref b4)]))
    refine Rch.go (fun t k => XS.iconst X7.here hx rfl (hb hby at_45) k) ?_
    show Rch p e below _ (T7.setTop (mkF m 46 #[.val (.int p0), .val (.int p1), .val (.int p2), .val (.int p3), .val (.int ch1), .val (.int ch2), .val (.int ch3), .val (.int (0 : Int32)), .unset, .unset, .unset] [(.int (0 : Int32)), (.ref b7), (.ref b7), (.ref b4), (.ref b4)]))
    refine Rch.go (fun t k => XS.iload X7.here hx rfl (hb hby at_46) rfl  k) ?_
    show Rch p e below _ (T7.setTop (mkF m 48 #[.val (.int p0), .val (.int p1), .val (.int p2), .val (.int p3), .val (.int ch1), .val (.int ch2), .val (.int ch3), .val (.int (0 : Int32)), .unset, .unset, .unset] [(.int ch1), (.int (0 : Int32)), (.ref b7), (.ref b7), (.ref b4), (.ref b4)]))
    obtain ⟨c10, r10, q10, s10, u10, H10, G10⟩ := id V7
    obtain ⟨T11, h11, X11, e11, W11, st11⟩ := stC X7 hx hZ e7 r10 (j := (0 : Int32)) (inb_of s10 (by decide)) (g := (mkF m 48 #[.val (.int p0), .val (.int p1), .val (.int p2), .val (.int p3), .val (.int ch1), .val (.int ch2), .val (.int ch3), .val (.int (0 : Int32)), .unset, .unset, .unset] [(.int ch1), (.int (0 : Int32)), (.ref b7), (.ref b7), (.ref b4), (.ref b4)])) rfl rfl (hb hby at_48)
    rw [hn1] at W11
    refine Rch.go st11 ?_
    have V11 : Arv Z h11 b7 k7 .char (1 : Int32) [(.int ch1)] (.int (0 : Int32)) := Arv.set r10 q10 s10 u10 H10 G10 (by rw [← hn1]; exact (fits_nar_char _)) W11 0 rfl (Nat.le_of_ble_eq_true rfl)
    have z12 : n0 ≤ h11.size := (Nat.le_trans z8 (Nat.le_of_eq W11.size.symm))
    have o13 := o9.wr W11 g_b7
    have N11 := Fr.snoc X11 N0 g_b7
    show Rch p e below _ (T11.setTop (mkF m 49 #[.val (.int p0), .val (.int p1), .val (.int p2), .val (.int p3), .val (.int ch1), .val (.int ch2), .val (.int ch3), .val (.int (0 : Int32)), .unset, .unset, .unset] [(.ref b7), (.ref b4), (.ref b4)]))
    have f14 := ((A4.ext E7).wr W11)
    have lt15 := A4.lt
    have ne16 : b4 ≠ b7 := Nat.ne_of_lt (Nat.lt_of_lt_of_le lt15 (Nat.le_of_eq g7.symm))
    have f17 := ((F4_coder.ext E7).other W11 (Or.inl ne16))
    have f18 := ((F4_value.ext E7).other W11 (Or.inl ne16))
    obtain ⟨v19, T19, L19, X19, Q19, st19⟩ := callSp X11 hx hZ (m1_init l Z a0 hw b4 b7 k7 ch1 ww4 h11 n0 z12 o13 V11 G.2.2.2.2.2.2.2.2.1 G.2.2.2.2.2.2.2.2.2.2.2.2.2.2.1 hl1 f14 f17 g_b4 f18) e11 hown rfl (wd_5 hw) (wd_6 hw) (wd_7 hw) (wd_3 hw) (by decide) (hb hby at_49) 1 (by decide) (by decide) (by decide) (by decide) (by rw [hml]; rfl) b4 [(.ref b7)] [(.ref b4)] rfl (lenOf pd_4 rfl) rfl (Nat.le_of_eq rfl) (Ls := #[.val (.int p0), .val (.int p1), .val (.int p2), .val (.int p3), .val (.int ch1), .val (.int ch2), .val (.int ch3), .val (.int (0 : Int32)), .unset, .unset, .unset])
    obtain ⟨b19_0, k19_0, rfl, M19, K19, zz19_0, F19_0, F19_1, F19_2, F19_3⟩ := Q19
    have N19 := Fr.app N11 M19
    refine Rch.go st19 ?_
    have z20 : n0 ≤ T19.heap.size := (Nat.le_trans z12 K19.1)
    have o21 := o13.keep K19 (allS g_b4 all0)
    have g_b19_0 : n0 ≤ b19_0 := Nat.le_trans z12 zz19_0
    show Rch p e below _ (T19.setTop (mkF m 52 #[.val (.int p0), .val (.int p1), .val (.int p2), .val (.int p3), .val (.int ch1), .val (.int ch2), .val (.int ch3), .val (.int (0 : Int32)), .unset, .unset, .unset] [(.ref b4)]))
    refine Rch.go (fun t k => XS.astore X19.here hx rfl (hb hby at_52) rfl rfl (l' := #[.val (.int p0), .val (.int p1), .val (.int p2), .val (.int p3), .val (.int ch1), .val (.int ch2), .val (.int ch3), .val (.int (0 : Int32)), .val (.ref b4), .unset, .unset]) rfl k) ?_
    show Rch p e below _ (T19.setTop (mkF m 54 #[.val (.int p0), .val (.int p1), .val (.int p2), .val (.int p3), .val (.int ch1), .val (.int ch2), .val (.int ch3), .val (.int (0 : Int32)), .val (.ref b4), .unset, .unset] []))
    refine Rch.go (fun t k => XS.goto X19.here hx rfl (pc0 := 54) (pc' := 115) rfl (hb hby at_54) (by decide) (by decide) k) ?_
    show Rch p e below _ (T19.setTop (mkF m 115 #[.val (.int p0), .val (.int p1), .val (.int p2), .val (.int p3), .val (.int ch1), .val (.int ch2), .val (.int ch3), .val (.int (0 : Int32)), .val (.ref b4), .unset, .unset] []))
    refine Rch.go (fun t k => XS.aload X19.here hx rfl (hb hby at_115) rfl rfl k) ?_
    show Rch p e below _ (T19.setTop (mkF m 117 #[.val (.int p0), .val (.int p1), .val (.int p2), .val (.int p3), .val (.int ch1), .val (.int ch2), .val (.int ch3), .val (.int (0 : Int32)), .val (.ref b4), .unset, .unset] [(.ref b4)]))
    have f22 := (f14.keep K19)
    obtain ⟨v23, T23, L23, X23, Q23, Y23, hZ23, hown23, st23⟩ := callStW X19 hx hZ Y0 (Nat.le_trans (Nat.le_trans (Nat.le_trans (Nat.le_trans (Nat.le_refl _) E4.1) E7.1) (Nat.le_of_eq W11.size.symm)) K19.1) (m6_leaf l Z a0 hw b4 ro0 b19_0 k19_0 (nar .byte (ch1.toInt8.toInt32)) T19.heap n0 z20 o21 G.1 f22 F19_3 F19_1 G.2.1 G.2.2.2.2.2.2.2.2.2.2.1) rfl hown (wd_31 hw) (wd_32 hw) (wd_34 hw) (wd_33 hw) (by decide) (hb hby at_117) 0 (by decide) (by decide) (by decide) (by decide) (by rw [hml]; rfl) [(.ref b4)] [] rfl (lenOf pd_11 rfl) rfl (Nat.le_of_eq rfl) (Ls := #[.val (.int p0), .val (.int p1), .val (.int p2), .val (.int p3), .val (.int ch1), .val (.int ch2), .val (.int ch3), .val (.int (0 : Int32)), .val (.ref b4), .unset, .unset])
    obtain ⟨b23_0, rfl, M23, K23, zz23_0, F23_0, F23_1, F23_2⟩ := Q23
    have N23 := Fr.app N19 M23
    refine Rch.go st23 ?_
    have z24 : n0 ≤ T23.heap.size := (Nat.le_trans z20 K23.1)
    have o25 := o21.keep K23 all0
    have g_b23_0 : n0 ≤ b23_0 := Nat.le_trans z20 zz23_0
    show Rch p e below _ (T23.setTop (mkF m 120 #[.val (.int p0), .val (.int p1), .val (.int p2), .val (.int p3), .val (.int ch1), .val (.int ch2), .val (.int ch3), .val (.int (0 : Int32)), .val (.ref b4), .unset, .unset] [(.ref b23_0)]))
    refine Rch.go (fun t k => XS.astore X23.here hx rfl (hb hby at_120) rfl rfl (l' := #[.val (.int p0), .val (.int p1), .val (.int p2), .val (.int p3), .val (.int ch1), .val (.int ch2), .val (.int ch3), .val (.int (0 : Int32)), .val (.ref b4), .val (.ref b23_0), .unset]) rfl k) ?_
    show Rch p e below _ (T23.setTop (mkF m 122 #[.val (.int p0), .val (.int p1), .val (.int p2), .val (.int p3), .val (.int ch1), .val (.int ch2), .val (.int ch3), .val (.int (0 : Int32)), .val (.ref b4), .val (.ref b23_0), .unset] []))
    refine Rch.go (fun t k => XS.aload X23.here hx rfl (hb hby at_122) rfl rfl k) ?_
    show Rch p e below _ (T23.setTop (mkF m 124 #[.val (.int p0), .val (.int p1), .val (.int p2), .val (.int p3), .val (.int ch1), .val (.int ch2), .val (.int ch3), .val (.int (0 : Int32)), .val (.ref b4), .val (.ref b23_0), .unset] [(.ref b23_0)]))
    have f26 := (f22.keep K23)
    obtain ⟨v27, T27, L27, X27, Q27, st27⟩ := callVi X23 hx hZ23 (m14_leaves l Z a0 hw b23_0 ro3 ro0 ro1 kk_ro1 b4 kk_ro3 T23.heap n0 z24 o25 G.2.2.2.2.2.2.1 F23_0 F23_2 G.2.1 G.2.2.1 G.2.2.2.2.2.2.2.2.2.2.2.1 F23_1 G.2.2.2.2.2.2.2.2.2.2.2.2.2.1 f26) rfl hown23 (wd_86 hw) (wd_87 hw) (wd_89 hw) (notFace_of_selects (args := #[]) (mvT hZ23 (wd_89 hw))) (wd_88 hw) (wd_90 hw) (wd_33 hw) (by decide) (hb hby at_124) 0 (by decide) (by decide) (by decide) (by decide) (by rw [hml]; rfl) b23_0 F23_0 [] [] rfl (lenOf pd_5 rfl) rfl (Nat.le_of_eq rfl) (Ls := #[.val (.int p0), .val (.int p1), .val (.int p2), .val (.int p3), .val (.int ch1), .val (.int ch2), .val (.int ch3), .val (.int (0 : Int32)), .val (.ref b4), .val (.ref b23_0), .unset])
    obtain ⟨b27_0, b27_1, k27_0, rfl, M27, K27, zz27_0, zz27_1, O27_0, F27_0, F27_1, F27_2, F27_3, F27_4, F27_5⟩ := Q27
    have N27 := Fr.app N23 M27
    refine Rch.go st27 ?_
    have z28 : n0 ≤ T27.heap.size := (Nat.le_trans z24 K27.1)
    have o29 := o25.keep K27 all0
    have g_b27_0 : n0 ≤ b27_0 := Nat.le_trans z24 zz27_0
    have g_b27_1 : n0 ≤ b27_1 := Nat.le_trans z24 zz27_1
    show Rch p e below _ (T27.setTop (mkF m 127 #[.val (.int p0), .val (.int p1), .val (.int p2), .val (.int p3), .val (.int ch1), .val (.int ch2), .val (.int ch3), .val (.int (0 : Int32)), .val (.ref b4), .val (.ref b23_0), .unset] [(.ref b27_0)]))
    refine Rch.go (fun t k => XS.astore X27.here hx rfl (hb hby at_127) rfl rfl (l' := #[.val (.int p0), .val (.int p1), .val (.int p2), .val (.int p3), .val (.int ch1), .val (.int ch2), .val (.int ch3), .val (.int (0 : Int32)), .val (.ref b4), .val (.ref b23_0), .val (.ref b27_0)]) rfl k) ?_
    show Rch p e below _ (T27.setTop (mkF m 129 #[.val (.int p0), .val (.int p1), .val (.int p2), .val (.int p3), .val (.int ch1), .val (.int ch2), .val (.int ch3), .val (.int (0 : Int32)), .val (.ref b4), .val (.ref b23_0), .val (.ref b27_0)] []))
    refine Rch.go (fun t k => XS.aload X27.here hx rfl (hb hby at_129) rfl rfl k) ?_
    show Rch p e below _ (T27.setTop (mkF m 131 #[.val (.int p0), .val (.int p1), .val (.int p2), .val (.int p3), .val (.int ch1), .val (.int ch2), .val (.int ch3), .val (.int (0 : Int32)), .val (.ref b4), .val (.ref b23_0), .val (.ref b27_0)] [(.ref b23_0)]))
    have f30 := (F23_1.keep K27 nin0)
    have f32 := (F23_0.keep K27)
    obtain ⟨v31, T31, L31, X31, Q31, st31⟩ := callVi X27 hx hZ23 (m26_value l Z a0 hw b23_0 b4 T27.heap n0 z28 o29 f30) rfl hown23 (wd_169 hw) (wd_170 hw) (wd_172 hw) (notFace_of_selects (args := #[]) (mvT hZ23 (wd_172 hw))) (wd_171 hw) (wd_173 hw) (wd_33 hw) (by decide) (hb hby at_131) 0 (by decide) (by decide) (by decide) (by decide) (by rw [hml]; rfl) b23_0 f32 [] [] rfl (lenOf pd_18 rfl) rfl (Nat.le_of_eq rfl) (Ls := #[.val (.int p0), .val (.int p1), .val (.int p2), .val (.int p3), .val (.int ch1), .val (.int ch2), .val (.int ch3), .val (.int (0 : Int32)), .val (.ref b4), .val (.ref b23_0), .val (.ref b27_0)])
    obtain ⟨rfl, M31, e31⟩ := Q31
    have N31 := Fr.app N27 M31
    refine Rch.go st31 ?_
    show Rch p e below _ (T31.setTop (mkF m 134 #[.val (.int p0), .val (.int p1), .val (.int p2), .val (.int p3), .val (.int ch1), .val (.int ch2), .val (.int ch3), .val (.int (0 : Int32)), .val (.ref b4), .val (.ref b23_0), .val (.ref b27_0)] [(.ref b4)]))
    refine Rch.go (fun t k => XS.aload X31.here hx rfl (hb hby at_134) rfl rfl k) ?_
    show Rch p e below _ (T31.setTop (mkF m 136 #[.val (.int p0), .val (.int p1), .val (.int p2), .val (.int p3), .val (.int ch1), .val (.int ch2), .val (.int ch3), .val (.int (0 : Int32)), .val (.ref b4), .val (.ref b23_0), .val (.ref b27_0)] [(.ref b4), (.ref b4)]))
    have f34 := (f26.keep K27)
    obtain ⟨v33, T33, L33, X33, Q33, st33⟩ := callVi X31 hx hZ23 (m27_equals l Z a0 hw b4 T27.heap n0 z28 o29 ) e31 hown23 (wd_174 hw) (wd_175 hw) (wd_177 hw) (notFace_of_selects (args := #[]) (mvT hZ23 (wd_177 hw))) (wd_176 hw) (wd_178 hw) (wd_3 hw) (by decide) (hb hby at_136) 0 (by decide) (by decide) (by decide) (by decide) (by rw [hml]; rfl) b4 f34 [(.ref b4)] [] rfl (lenOf pd_16 rfl) rfl (Nat.le_of_eq rfl) (Ls := #[.val (.int p0), .val (.int p1), .val (.int p2), .val (.int p3), .val (.int ch1), .val (.int ch2), .val (.int ch3), .val (.int (0 : Int32)), .val (.ref b4), .val (.ref b23_0), .val (.ref b27_0)])
    obtain ⟨rfl, M33, e33⟩ := Q33
    have N33 := Fr.app N31 M33
    refine Rch.go st33 ?_
    show Rch p e below _ (T33.setTop (mkF m 139 #[.val (.int p0), .val (.int p1), .val (.int p2), .val (.int p3), .val (.int ch1), .val (.int ch2), .val (.int ch3), .val (.int (0 : Int32)), .val (.ref b4), .val (.ref b23_0), .val (.ref b27_0)] [(.int (1 : Int32))]))
    refine Rch.go (fun t k => XS.ifNo X33.here hx rfl (hb hby at_139) rfl (by decide) k) ?_
    show Rch p e below _ (T33.setTop (mkF m 142 #[.val (.int p0), .val (.int p1), .val (.int p2), .val (.int p3), .val (.int ch1), .val (.int ch2), .val (.int ch3), .val (.int (0 : Int32)), .val (.ref b4), .val (.ref b23_0), .val (.ref b27_0)] []))
    refine Rch.go (fun t k => XS.aload X33.here hx rfl (hb hby at_142) rfl rfl k) ?_
    show Rch p e below _ (T33.setTop (mkF m 144 #[.val (.int p0), .val (.int p1), .val (.int p2), .val (.int p3), .val (.int ch1), .val (.int ch2), .val (.int ch3), .val (.int (0 : Int32)), .val (.ref b4), .val (.ref b23_0), .val (.ref b27_0)] [(.ref b23_0)]))
    have f35 := (F23_2.keep K27 nin0)
    obtain ⟨v36, T36, L36, X36, Q36, st36⟩ := callVi X33 hx hZ23 (m19_isLeaf l Z a0 hw b23_0 ro0 ro1 kk_ro1 T27.heap n0 z28 o29 f35 G.2.1 G.2.2.1 G.2.2.2.2.2.2.2.2.2.2.2.1) e33 hown23 (wd_179 hw) (wd_119 hw) (wd_121 hw) (notFace_of_selects (args := #[]) (mvT hZ23 (wd_121 hw))) (wd_120 hw) (wd_122 hw) (wd_33 hw) (by decide) (hb hby at_144) 0 (by decide) (by decide) (by decide) (by decide) (by rw [hml]; rfl) b23_0 f32 [] [] rfl (lenOf pd_8 rfl) rfl (Nat.le_of_eq rfl) (Ls := #[.val (.int p0), .val (.int p1), .val (.int p2), .val (.int p3), .val (.int ch1), .val (.int ch2), .val (.int ch3), .val (.int (0 : Int32)), .val (.ref b4), .val (.ref b23_0), .val (.ref b27_0)])
    obtain ⟨rfl, M36, e36⟩ := Q36
    have N36 := Fr.app N33 M36
    refine Rch.go st36 ?_
    show Rch p e below _ (T36.setTop (mkF m 147 #[.val (.int p0), .val (.int p1), .val (.int p2), .val (.int p3), .val (.int ch1), .val (.int ch2), .val (.int ch3), .val (.int (0 : Int32)), .val (.ref b4), .val (.ref b23_0), .val (.ref b27_0)] [(.int (1 : Int32))]))
    refine Rch.go (fun t k => XS.ifNo X36.here hx rfl (hb hby at_147) rfl (by decide) k) ?_
    show Rch p e below _ (T36.setTop (mkF m 150 #[.val (.int p0), .val (.int p1), .val (.int p2), .val (.int p3), .val (.int ch1), .val (.int ch2), .val (.int ch3), .val (.int (0 : Int32)), .val (.ref b4), .val (.ref b23_0), .val (.ref b27_0)] []))
    refine Rch.go (fun t k => XS.aload X36.here hx rfl (hb hby at_150) rfl rfl k) ?_
    show Rch p e below _ (T36.setTop (mkF m 152 #[.val (.int p0), .val (.int p1), .val (.int p2), .val (.int p3), .val (.int ch1), .val (.int ch2), .val (.int ch3), .val (.int (0 : Int32)), .val (.ref b4), .val (.ref b23_0), .val (.ref b27_0)] [(.ref b23_0)]))
    obtain ⟨v37, T37, L37, X37, Q37, st37⟩ := callVi X36 hx hZ23 (m28_children l Z a0 hw b23_0 ro0 T27.heap n0 z28 o29 f35) e36 hown23 (wd_180 hw) (wd_181 hw) (wd_183 hw) (notFace_of_selects (args := #[]) (mvT hZ23 (wd_183 hw))) (wd_182 hw) (wd_184 hw) (wd_33 hw) (by decide) (hb hby at_152) 0 (by decide) (by decide) (by decide) (by decide) (by rw [hml]; rfl) b23_0 f32 [] [] rfl (lenOf pd_5 rfl) rfl (Nat.le_of_eq rfl) (Ls := #[.val (.int p0), .val (.int p1), .val (.int p2), .val (.int p3), .val (.int ch1), .val (.int ch2), .val (.int ch3), .val (.int (0 : Int32)), .val (.ref b4), .val (.ref b23_0), .val (.ref b27_0)])
    obtain ⟨rfl, M37, e37⟩ := Q37
    have N37 := Fr.app N36 M37
    refine Rch.go st37 ?_
    show Rch p e below _ (T37.setTop (mkF m 155 #[.val (.int p0), .val (.int p1), .val (.int p2), .val (.int p3), .val (.int ch1), .val (.int ch2), .val (.int ch3), .val (.int (0 : Int32)), .val (.ref b4), .val (.ref b23_0), .val (.ref b27_0)] [(.ref ro0)]))
    obtain ⟨v38, T38, L38, X38, Q38, st38⟩ := callIf X37 hx hZ23 (m29_size l Z a0 hw ro0 ro1 kk_ro1 T27.heap n0 z28 o29 G.2.2.1 G.2.2.2.2.2.2.2.2.2.2.2.1) e37 hown23 (wd_185 hw) (wd_186 hw) (wd_187 hw) (wd_188 hw) (wd_189 hw) (wd_190 hw) (wd_191 hw) (wd_81 hw) (wd_192 hw) (wd_130 hw) (by decide) (hb hby at_155) 0 (by decide) (by decide) (by decide) (by decide) (by rw [hml]; rfl) ro0 (G.2.1.ext o29.2) [] [] rfl (lenOf pd_19 rfl) rfl (Nat.le_of_eq rfl) (Ls := #[.val (.int p0), .val (.int p1), .val (.int p2), .val (.int p3), .val (.int ch1), .val (.int ch2), .val (.int ch3), .val (.int (0 : Int32)), .val (.ref b4), .val (.ref b23_0), .val (.ref b27_0)])
    obtain ⟨rfl, M38, e38⟩ := Q38
    have N38 := Fr.app N37 M38
    refine Rch.go st38 ?_
    show Rch p e below _ (T38.setTop (mkF m 160 #[.val (.int p0), .val (.int p1), .val (.int p2), .val (.int p3), .val (.int ch1), .val (.int ch2), .val (.int ch3), .val (.int (0 : Int32)), .val (.ref b4), .val (.ref b23_0), .val (.ref b27_0)] [(.int (0 : Int32))]))
    refine Rch.go (fun t k => XS.ifNo X38.here hx rfl (hb hby at_160) rfl (by decide) k) ?_
    show Rch p e below _ (T38.setTop (mkF m 163 #[.val (.int p0), .val (.int p1), .val (.int p2), .val (.int p3), .val (.int ch1), .val (.int ch2), .val (.int ch3), .val (.int (0 : Int32)), .val (.ref b4), .val (.ref b23_0), .val (.ref b27_0)] []))
    refine Rch.go (fun t k => XS.aload X38.here hx rfl (hb hby at_163) rfl rfl k) ?_
    show Rch p e below _ (T38.setTop (mkF m 165 #[.val (.int p0), .val (.int p1), .val (.int p2), .val (.int p3), .val (.int ch1), .val (.int ch2), .val (.int ch3), .val (.int (0 : Int32)), .val (.ref b4), .val (.ref b23_0), .val (.ref b27_0)] [(.ref b27_0)]))
    obtain ⟨v39, T39, L39, X39, Q39, st39⟩ := callIf X38 hx hZ23 (m30_size l Z a0 hw b27_0 T27.heap n0 z28 o29 F27_4) e38 hown23 (wd_185 hw) (wd_186 hw) (wd_187 hw) (wd_193 hw) (wd_194 hw) (wd_195 hw) (wd_196 hw) (wd_141 hw) (wd_197 hw) (wd_93 hw) (by decide) (hb hby at_165) 0 (by decide) (by decide) (by decide) (by decide) (by rw [hml]; rfl) b27_0 F27_0 [] [] rfl (lenOf pd_19 rfl) rfl (Nat.le_of_eq rfl) (Ls := #[.val (.int p0), .val (.int p1), .val (.int p2), .val (.int p3), .val (.int ch1), .val (.int ch2), .val (.int ch3), .val (.int (0 : Int32)), .val (.ref b4), .val (.ref b23_0), .val (.ref b27_0)])
    obtain ⟨rfl, M39, e39⟩ := Q39
    have N39 := Fr.app N38 M39
    refine Rch.go st39 ?_
    show Rch p e below _ (T39.setTop (mkF m 170 #[.val (.int p0), .val (.int p1), .val (.int p2), .val (.int p3), .val (.int ch1), .val (.int ch2), .val (.int ch3), .val (.int (0 : Int32)), .val (.ref b4), .val (.ref b23_0), .val (.ref b27_0)] [(.int (1 : Int32))]))
    refine Rch.go (fun t k => XS.iconst X39.here hx rfl (hb hby at_170) k) ?_
    show Rch p e below _ (T39.setTop (mkF m 171 #[.val (.int p0), .val (.int p1), .val (.int p2), .val (.int p3), .val (.int ch1), .val (.int ch2), .val (.int ch3), .val (.int (0 : Int32)), .val (.ref b4), .val (.ref b23_0), .val (.ref b27_0)] [(.int (1 : Int32)), (.int (1 : Int32))]))
    refine Rch.go (fun t k => XS.icmpNo X39.here hx rfl (hb hby at_171) rfl (by decide) k) ?_
    show Rch p e below _ (T39.setTop (mkF m 174 #[.val (.int p0), .val (.int p1), .val (.int p2), .val (.int p3), .val (.int ch1), .val (.int ch2), .val (.int ch3), .val (.int (0 : Int32)), .val (.ref b4), .val (.ref b23_0), .val (.ref b27_0)] []))
    refine Rch.go (fun t k => XS.aload X39.here hx rfl (hb hby at_174) rfl rfl k) ?_
    show Rch p e below _ (T39.setTop (mkF m 176 #[.val (.int p0), .val (.int p1), .val (.int p2), .val (.int p3), .val (.int ch1), .val (.int ch2), .val (.int ch3), .val (.int (0 : Int32)), .val (.ref b4), .val (.ref b23_0), .val (.ref b27_0)] [(.ref b27_0)]))
    refine Rch.go (fun t k => XS.iconst X39.here hx rfl (hb hby at_176) k) ?_
    show Rch p e below _ (T39.setTop (mkF m 177 #[.val (.int p0), .val (.int p1), .val (.int p2), .val (.int p3), .val (.int ch1), .val (.int ch2), .val (.int ch3), .val (.int (0 : Int32)), .val (.ref b4), .val (.ref b23_0), .val (.ref b27_0)] [(.int (0 : Int32)), (.ref b27_0)]))
    obtain ⟨v40, T40, L40, X40, Q40, st40⟩ := callIf X39 hx hZ23 (m31_get l Z a0 hw b27_0 b27_1 k27_0 b4 T27.heap n0 z28 o29 F27_4 F27_0 F27_1 O27_0 F27_3) e39 hown23 (wd_198 hw) (wd_199 hw) (wd_200 hw) (wd_201 hw) (wd_202 hw) (wd_203 hw) (wd_204 hw) (wd_141 hw) (wd_205 hw) (wd_93 hw) (by decide) (hb hby at_177) 0 (by decide) (by decide) (by decide) (by decide) (by rw [hml]; rfl) b27_0 F27_0 [(.int (0 : Int32))] [] rfl (lenOf pd_21 rfl) rfl (Nat.le_of_eq rfl) (Ls := #[.val (.int p0), .val (.int p1), .val (.int p2), .val (.int p3), .val (.int ch1), .val (.int ch2), .val (.int ch3), .val (.int (0 : Int32)), .val (.ref b4), .val (.ref b23_0), .val (.ref b27_0)])
    obtain ⟨rfl, M40, e40⟩ := Q40
    have N40 := Fr.app N39 M40
    refine Rch.go st40 ?_
    show Rch p e below _ (T40.setTop (mkF m 182 #[.val (.int p0), .val (.int p1), .val (.int p2), .val (.int p3), .val (.int ch1), .val (.int ch2), .val (.int ch3), .val (.int (0 : Int32)), .val (.ref b4), .val (.ref b23_0), .val (.ref b27_0)] [(.ref b4)]))
    obtain ⟨T41, X41, e41, st41⟩ := castY X40 hx hZ23 hown23 (wd_1 hw) e40 (Ins.self f34) (g := (mkF m 182 #[.val (.int p0), .val (.int p1), .val (.int p2), .val (.int p3), .val (.int ch1), .val (.int ch2), .val (.int ch3), .val (.int (0 : Int32)), .val (.ref b4), .val (.ref b23_0), .val (.ref b27_0)] [(.ref b4)])) rfl rfl (hb hby at_182)
    refine Rch.go st41 ?_
    show Rch p e below _ (T41.setTop (mkF m 185 #[.val (.int p0), .val (.int p1), .val (.int p2), .val (.int p3), .val (.int ch1), .val (.int ch2), .val (.int ch3), .val (.int (0 : Int32)), .val (.ref b4), .val (.ref b23_0), .val (.ref b27_0)] [(.ref b4)]))
    refine Rch.go (fun t k => XS.aload X41.here hx rfl (hb hby at_185) rfl rfl k) ?_
    show Rch p e below _ (T41.setTop (mkF m 187 #[.val (.int p0), .val (.int p1), .val (.int p2), .val (.int p3), .val (.int ch1), .val (.int ch2), .val (.int ch3), .val (.int (0 : Int32)), .val (.ref b4), .val (.ref b23_0), .val (.ref b27_0)] [(.ref b4), (.ref b4)]))
    obtain ⟨v42, T42, L42, X42, Q42, st42⟩ := callVi X41 hx hZ23 (m27_equals l Z a0 hw b4 T27.heap n0 z28 o29 ) e41 hown23 (wd_174 hw) (wd_175 hw) (wd_177 hw) (notFace_of_selects (args := #[]) (mvT hZ23 (wd_177 hw))) (wd_176 hw) (wd_178 hw) (wd_3 hw) (by decide) (hb hby at_187) 0 (by decide) (by decide) (by decide) (by decide) (by rw [hml]; rfl) b4 f34 [(.ref b4)] [] rfl (lenOf pd_16 rfl) rfl (Nat.le_of_eq rfl) (Ls := #[.val (.int p0), .val (.int p1), .val (.int p2), .val (.int p3), .val (.int ch1), .val (.int ch2), .val (.int ch3), .val (.int (0 : Int32)), .val (.ref b4), .val (.ref b23_0), .val (.ref b27_0)])
    obtain ⟨rfl, M42, e42⟩ := Q42
    have N42 := Fr.app N40 M42
    refine Rch.go st42 ?_
    show Rch p e below _ (T42.setTop (mkF m 190 #[.val (.int p0), .val (.int p1), .val (.int p2), .val (.int p3), .val (.int ch1), .val (.int ch2), .val (.int ch3), .val (.int (0 : Int32)), .val (.ref b4), .val (.ref b23_0), .val (.ref b27_0)] [(.int (1 : Int32))]))
    refine Rch.go (fun t k => XS.ifNo X42.here hx rfl (hb hby at_190) rfl (by decide) k) ?_
    show Rch p e below _ (T42.setTop (mkF m 193 #[.val (.int p0), .val (.int p1), .val (.int p2), .val (.int p3), .val (.int ch1), .val (.int ch2), .val (.int ch3), .val (.int (0 : Int32)), .val (.ref b4), .val (.ref b23_0), .val (.ref b27_0)] []))
    refine Rch.go (fun t k => XS.iconst X42.here hx rfl (hb hby at_193) k) ?_
    show Rch p e below _ (T42.setTop (mkF m 194 #[.val (.int p0), .val (.int p1), .val (.int p2), .val (.int p3), .val (.int ch1), .val (.int ch2), .val (.int ch3), .val (.int (0 : Int32)), .val (.ref b4), .val (.ref b23_0), .val (.ref b27_0)] [(.int (1 : Int32))]))
    refine Rch.go (fun t k => XS.goto X42.here hx rfl (pc0 := 194) (pc' := 198) rfl (hb hby at_194) (by decide) (by decide) k) ?_
    show Rch p e below _ (T42.setTop (mkF m 198 #[.val (.int p0), .val (.int p1), .val (.int p2), .val (.int p3), .val (.int ch1), .val (.int ch2), .val (.int ch3), .val (.int (0 : Int32)), .val (.ref b4), .val (.ref b23_0), .val (.ref b27_0)] [(.int (1 : Int32))]))
    refine Rch.valW X42 hx Y23 e42 (Nat.le_trans (Nat.le_refl _) K27.1) (t := .boolean) hret hlk rfl (mayI (by simp)) (hb hby at_198) (by decide) (by decide) ?_
    exact ⟨rfl, N42⟩
  · rw [hq]
    show Rch p e below _ (T0.setTop (mkF m 30 #[.val (.int p0), .val (.int p1), .val (.int p2), .val (.int p3), .val (.int ch1), .val (.int ch2), .val (.int ch3), .unset, .unset, .unset, .unset] [(.int (1 : Int32))]))
    refine Rch.go (fun t k => XS.istore X0.here hx rfl (hb hby at_30) rfl  (l' := #[.val (.int p0), .val (.int p1), .val (.int p2), .val (.int p3), .val (.int ch1), .val (.int ch2), .val (.int ch3), .val (.int (1 : Int32)), .unset, .unset, .unset]) rfl k) ?_
    show Rch p e below _ (T0.setTop (mkF m 32 #[.val (.int p0), .val (.int p1), .val (.int p2), .val (.int p3), .val (.int ch1), .val (.int ch2), .val (.int ch3), .val (.int (1 : Int32)), .unset, .unset, .unset] []))
    refine Rch.go (fun t k => XS.iload X0.here hx rfl (hb hby at_32) rfl  k) ?_
    show Rch p e below _ (T0.setTop (mkF m 34 #[.val (.int p0), .val (.int p1), .val (.int p2), .val (.int p3), .val (.int ch1), .val (.int ch2), .val (.int ch3), .val (.int (1 : Int32)), .unset, .unset, .unset] [(.int (1 : Int32))]))
    refine Rch.go (fun t k => XS.ifYes X0.here hx rfl (pc0 := 34) (pc' := 57) rfl (hb hby at_34) rfl (by decide) (by decide) (by decide) k) ?_
    show Rch p e below _ (T0.setTop (mkF m 57 #[.val (.int p0), .val (.int p1), .val (.int p2), .val (.int p3), .val (.int ch1), .val (.int ch2), .val (.int ch3), .val (.int (1 : Int32)), .unset, .unset, .unset] []))
    refine Rch.go (fun t k => XS.iload X0.here hx rfl (hb hby at_57) rfl  k) ?_
    show Rch p e below _ (T0.setTop (mkF m 59 #[.val (.int p0), .val (.int p1), .val (.int p2), .val (.int p3), .val (.int ch1), .val (.int ch2), .val (.int ch3), .val (.int (1 : Int32)), .unset, .unset, .unset] [(.int (1 : Int32))]))
    refine Rch.go (fun t k => XS.iconst X0.here hx rfl (hb hby at_59) k) ?_
    show Rch p e below _ (T0.setTop (mkF m 60 #[.val (.int p0), .val (.int p1), .val (.int p2), .val (.int p3), .val (.int ch1), .val (.int ch2), .val (.int ch3), .val (.int (1 : Int32)), .unset, .unset, .unset] [(.int (1 : Int32)), (.int (1 : Int32))]))
    refine Rch.go (fun t k => XS.icmpNo X0.here hx rfl (hb hby at_60) rfl (by decide) k) ?_
    show Rch p e below _ (T0.setTop (mkF m 63 #[.val (.int p0), .val (.int p1), .val (.int p2), .val (.int p3), .val (.int ch1), .val (.int ch2), .val (.int ch3), .val (.int (1 : Int32)), .unset, .unset, .unset] []))
    obtain ⟨T43, h43, X43, e43, E43, A43, D43, -, st43⟩ := newO X0 hx hZ hown (wd_1 hw) (wd_2 hw) (wd_3 hw) e0 (g := (mkF m 63 #[.val (.int p0), .val (.int p1), .val (.int p2), .val (.int p3), .val (.int ch1), .val (.int ch2), .val (.int ch3), .val (.int (1 : Int32)), .unset, .unset, .unset] [])) rfl (hb hby at_63) (by decide) (by decide)
    obtain ⟨b43, g43⟩ : ∃ z, z = h0.size := ⟨_, rfl⟩
    rw [← g43] at A43 D43 st43
    refine Rch.go st43 ?_
    have z44 : n0 ≤ h43.size := (Nat.le_trans Z0 E43.1)
    have o45 := O0.ext E43
    have g_b43 : n0 ≤ b43 := Nat.le_trans Z0 (Nat.le_of_eq g43.symm)
    have F43_coder : Fld Z h43 b43 "java/lang/String" "coder" "B" (.int (0 : Int32)) := (D43 (Or.inr (wd_28 hw)) (ty := .byte) (by decide))
    have F43_value : Fld Z h43 b43 "java/lang/String" "value" "[B" .null := (D43 (Or.inr (wd_30 hw)) (ty := (.array .byte)) (by decide))
    show Rch p e below _ (T43.setTop (mkF m 66 #[.val (.int p0), .val (.int p1), .val (.int p2), .val (.int p3), .val (.int ch1), .val (.int ch2), .val (.int ch3), .val (.int (1 : Int32)), .unset, .unset, .unset] [(.ref b43)]))
    refine Rch.go (fun t k => XS.dup X43.here hx rfl (hb hby at_66) rfl rfl k) ?_
    show Rch p e below _ (T43.setTop (mkF m 67 #[.val (.int p0), .val (.int p1), .val (.int p2), .val (.int p3), .val (.int ch1), .val (.int ch2), .val (.int ch3), .val (.int (1 : Int32)), .unset, .unset, .unset] [(.ref b43), (.ref b43)]))
    refine Rch.go (fun t k => XS.iconst X43.here hx rfl (hb hby at_67) k) ?_
    show Rch p e below _ (T43.setTop (mkF m 68 #[.val (.int p0), .val (.int p1), .val (.int p2), .val (.int p3), .val (.int ch1), .val (.int ch2), .val (.int ch3), .val (.int (1 : Int32)), .unset, .unset, .unset] [(.int (2 : Int32)), (.ref b43), (.ref b43)]))
    obtain ⟨T46, h46, k46, X46, e46, E46, A46, B46, st46⟩ := newPE (aty := .char) X43 hx hZ (wd_4 hw) e43 (g := (mkF m 68 #[.val (.int p0), .val (.int p1), .val (.int p2), .val (.int p3), .val (.int ch1), .val (.int ch2), .val (.int ch3), .val (.int (1 : Int32)), .unset, .unset, .unset] [(.int (2 : Int32)), (.ref b43), (.ref b43)])) rfl (hb hby at_68) rfl (by decide) (cap := 2) (by decide) (by decide) (by decide) (by decide) (ad := "[C") (by decide +kernel)
    obtain ⟨b46, g46⟩ : ∃ z, z = h43.size := ⟨_, rfl⟩
    rw [← g46] at A46 B46 st46
    refine Rch.go st46 ?_
    have z47 : n0 ≤ h46.size := (Nat.le_trans z44 E46.1)
    have o48 := o45.ext E46
    have g_b46 : n0 ≤ b46 := Nat.le_trans z44 (Nat.le_of_eq g46.symm)
    have V46 : Arv Z h46 b46 k46 .char (2 : Int32) [(.int (0 : Int32)), (.int (0 : Int32))] (.int (0 : Int32)) := (Arv.new A46 (by decide)).pad (pad_rep [] (.int (0 : Int32)) 2)
    show Rch p e below _ (T46.setTop (mkF m 70 #[.val (.int p0), .val (.int p1), .val (.int p2), .val (.int p3), .val (.int ch1), .val (.int ch2), .val (.int ch3), .val (.int (1 : Int32)), .unset, .unset, .unset] [(.ref b46), (.ref b43), (.ref b43)]))
    refine Rch.go (fun t k => XS.dup X46.here hx rfl (hb hby at_70) rfl rfl k) ?_
    show Rch p e below _ (T46.setTop (mkF m 71 #[.val (.int p0), .val (.int p1), .val (.int p2), .val (.int p3), .val (.int ch1), .val (.int ch2), .val (.int ch3), .val (.int (1 : Int32)), .unset, .unset, .unset] [(.ref b46), (.ref b46), (.ref b43), (.ref b43)]))
    refine Rch.go (fun t k => XS.iconst X46.here hx rfl (hb hby at_71) k) ?_
    show Rch p e below _ (T46.setTop (mkF m 72 #[.val (.int p0), .val (.int p1), .val (.int p2), .val (.int p3), .val (.int ch1), .val (.int ch2), .val (.int ch3), .val (.int (1 : Int32)), .unset, .unset, .unset] [(.int (0 : Int32)), (.ref b46), (.ref b46), (.ref b43), (.ref b43)]))
    refine Rch.go (fun t k => XS.iload X46.here hx rfl (hb hby at_72) rfl  k) ?_
    show Rch p e below _ (T46.setTop (mkF m 74 #[.val (.int p0), .val (.int p1), .val (.int p2), .val (.int p3), .val (.int ch1), .val (.int ch2), .val (.int ch3), .val (.int (1 : Int32)), .unset, .unset, .unset] [(.int ch1), (.int (0 : Int32)), (.ref b46), (.ref b46), (.ref b43), (.ref b43)]))
    obtain ⟨c49, r49, q49, s49, u49, H49, G49⟩ := id V46
    obtain ⟨T50, h50, X50, e50, W50, st50⟩ := stC X46 hx hZ e46 r49 (j := (0 : Int32)) (inb_of s49 (by decide)) (g := (mkF m 74 #[.val (.int p0), .val (.int p1), .val (.int p2), .val (.int p3), .val (.int ch1), .val (.int ch2), .val (.int ch3), .val (.int (1 : Int32)), .unset, .unset, .unset] [(.int ch1), (.int (0 : Int32)), (.ref b46), (.ref b46), (.ref b43), (.ref b43)])) rfl rfl (hb hby at_74)
    rw [hn1] at W50
    refine Rch.go st50 ?_
    have V50 : Arv Z h50 b46 k46 .char (2 : Int32) [(.int ch1), (.int (0 : Int32))] (.int (0 : Int32)) := Arv.set r49 q49 s49 u49 H49 G49 (by rw [← hn1]; exact (fits_nar_char _)) W50 0 rfl (Nat.le_of_ble_eq_true rfl)
    have z51 : n0 ≤ h50.size := (Nat.le_trans z47 (Nat.le_of_eq W50.size.symm))
    have o52 := o48.wr W50 g_b46
    have N50 := Fr.snoc X50 N0 g_b46
    show Rch p e below _ (T50.setTop (mkF m 75 #[.val (.int p0), .val (.int p1), .val (.int p2), .val (.int p3), .val (.int ch1), .val (.int ch2), .val (.int ch3), .val (.int (1 : Int32)), .unset, .unset, .unset] [(.ref b46), (.ref b43), (.ref b43)]))
    refine Rch.go (fun t k => XS.dup X50.here hx rfl (hb hby at_75) rfl rfl k) ?_
    show Rch p e below _ (T50.setTop (mkF m 76 #[.val (.int p0), .val (.int p1), .val (.int p2), .val (.int p3), .val (.int ch1), .val (.int ch2), .val (.int ch3), .val (.int (1 : Int32)), .unset, .unset, .unset] [(.ref b46), (.ref b46), (.ref b43), (.ref b43)]))
    refine Rch.go (fun t k => XS.iconst X50.here hx rfl (hb hby at_76) k) ?_
    show Rch p e below _ (T50.setTop (mkF m 77 #[.val (.int p0), .val (.int p1), .val (.int p2), .val (.int p3), .val (.int ch1), .val (.int ch2), .val (.int ch3), .val (.int (1 : Int32)), .unset, .unset, .unset] [(.int (1 : Int32)), (.ref b46), (.ref b46), (.ref b43), (.ref b43)]))
    refine Rch.go (fun t k => XS.iload X50.here hx rfl (hb hby at_77) rfl  k) ?_
    show Rch p e below _ (T50.setTop (mkF m 79 #[.val (.int p0), .val (.int p1), .val (.int p2), .val (.int p3), .val (.int ch1), .val (.int ch2), .val (.int ch3), .val (.int (1 : Int32)), .unset, .unset, .unset] [(.int ch2), (.int (1 : Int32)), (.ref b46), (.ref b46), (.ref b43), (.ref b43)]))
    obtain ⟨c53, r53, q53, s53, u53, H53, G53⟩ := id V50
    obtain ⟨T54, h54, X54, e54, W54, st54⟩ := stC X50 hx hZ e50 r53 (j := (1 : Int32)) (inb_of s53 (by decide)) (g := (mkF m 79 #[.val (.int p0), .val (.int p1), .val (.int p2), .val (.int p3), .val (.int ch1), .val (.int ch2), .val (.int ch3), .val (.int (1 : Int32)), .unset, .unset, .unset] [(.int ch2), (.int (1 : Int32)), (.ref b46), (.ref b46), (.ref b43), (.ref b43)])) rfl rfl (hb hby at_79)
    rw [hn2] at W54
    refine Rch.go st54 ?_
    have V54 : Arv Z h54 b46 k46 .char (2 : Int32) [(.int ch1), (.int ch2)] (.int (0 : Int32)) := Arv.set r53 q53 s53 u53 H53 G53 (by rw [← hn2]; exact (fits_nar_char _)) W54 1 rfl (Nat.le_of_ble_eq_true rfl)
    have z55 : n0 ≤ h54.size := (Nat.le_trans z51 (Nat.le_of_eq W54.size.symm))
    have o56 := o52.wr W54 g_b46
    have N54 := Fr.snoc X54 N50 g_b46
    show Rch p e below _ (T54.setTop (mkF m 80 #[.val (.int p0), .val (.int p1), .val (.int p2), .val (.int p3), .val (.int ch1), .val (.int ch2), .val (.int ch3), .val (.int (1 : Int32)), .unset, .unset, .unset] [(.ref b46), (.ref b43), (.ref b43)]))
    have f57 := (((A43.ext E46).wr W50).wr W54)
    have lt58 := A43.lt
    have ne59 : b43 ≠ b46 := Nat.ne_of_lt (Nat.lt_of_lt_of_le lt58 (Nat.le_of_eq g46.symm))
    have f60 := (((F43_coder.ext E46).other W50 (Or.inl ne59)).other W54 (Or.inl ne59))
    have f61 := (((F43_value.ext E46).other W50 (Or.inl ne59)).other W54 (Or.inl ne59))
    obtain ⟨v62, T62, L62, X62, Q62, st62⟩ := callSp X54 hx hZ (m35_init l Z a0 hw b43 b46 k46 ch1 ch2 ww4 h54 n0 z55 o56 V54 G.2.2.2.2.2.2.2.2.1 G.2.2.2.2.2.2.2.2.2.2.2.2.2.2.1 hl1 hl2 f57 f60 g_b43 f61) e54 hown rfl (wd_5 hw) (wd_6 hw) (wd_7 hw) (wd_3 hw) (by decide) (hb hby at_80) 1 (by decide) (by decide) (by decide) (by decide) (by rw [hml]; rfl) b43 [(.ref b46)] [(.ref b43)] rfl (lenOf pd_4 rfl) rfl (Nat.le_of_eq rfl) (Ls := #[.val (.int p0), .val (.int p1), .val (.int p2), .val (.int p3), .val (.int ch1), .val (.int ch2), .val (.int ch3), .val (.int (1 : Int32)), .unset, .unset, .unset])
    obtain ⟨b62_0, k62_0, rfl, M62, K62, zz62_0, F62_0, F62_1, F62_2, F62_3⟩ := Q62
    have N62 := Fr.app N54 M62
    refine Rch.go st62 ?_
    have z63 : n0 ≤ T62.heap.size := (Nat.le_trans z55 K62.1)
    have o64 := o56.keep K62 (allS g_b43 all0)
    have g_b62_0 : n0 ≤ b62_0 := Nat.le_trans z55 zz62_0
    show Rch p e below _ (T62.setTop (mkF m 83 #[.val (.int p0), .val (.int p1), .val (.int p2), .val (.int p3), .val (.int ch1), .val (.int ch2), .val (.int ch3), .val (.int (1 : Int32)), .unset, .unset, .unset] [(.ref b43)]))
    refine Rch.go (fun t k => XS.astore X62.here hx rfl (hb hby at_83) rfl rfl (l' := #[.val (.int p0), .val (.int p1), .val (.int p2), .val (.int p3), .val (.int ch1), .val (.int ch2), .val (.int ch3), .val (.int (1 : Int32)), .val (.ref b43), .unset, .unset]) rfl k) ?_
    show Rch p e below _ (T62.setTop (mkF m 85 #[.val (.int p0), .val (.int p1), .val (.int p2), .val (.int p3), .val (.int ch1), .val (.int ch2), .val (.int ch3), .val (.int (1 : Int32)), .val (.ref b43), .unset, .unset] []))
    refine Rch.go (fun t k => XS.goto X62.here hx rfl (pc0 := 85) (pc' := 115) rfl (hb hby at_85) (by decide) (by decide) k) ?_
    show Rch p e below _ (T62.setTop (mkF m 115 #[.val (.int p0), .val (.int p1), .val (.int p2), .val (.int p3), .val (.int ch1), .val (.int ch2), .val (.int ch3), .val (.int (1 : Int32)), .val (.ref b43), .unset, .unset] []))
    refine Rch.go (fun t k => XS.aload X62.here hx rfl (hb hby at_115) rfl rfl k) ?_
    show Rch p e below _ (T62.setTop (mkF m 117 #[.val (.int p0), .val (.int p1), .val (.int p2), .val (.int p3), .val (.int ch1), .val (.int ch2), .val (.int ch3), .val (.int (1 : Int32)), .val (.ref b43), .unset, .unset] [(.ref b43)]))
    have f65 := (f57.keep K62)
    obtain ⟨v66, T66, L66, X66, Q66, Y66, hZ66, hown66, st66⟩ := callStW X62 hx hZ Y0 (Nat.le_trans (Nat.le_trans (Nat.le_trans (Nat.le_trans (Nat.le_trans (Nat.le_refl _) E43.1) E46.1) (Nat.le_of_eq W50.size.symm)) (Nat.le_of_eq W54.size.symm)) K62.1) (m40_leaf l Z a0 hw b43 ro0 b62_0 k62_0 (nar .byte (ch1.toInt8.toInt32)) (nar .byte (ch2.toInt8.toInt32)) T62.heap n0 z63 o64 G.1 f65 F62_3 F62_1 G.2.1 G.2.2.2.2.2.2.2.2.2.2.1) rfl hown (wd_31 hw) (wd_32 hw) (wd_34 hw) (wd_33 hw) (by decide) (hb hby at_117) 0 (by decide) (by decide) (by decide) (by decide) (by rw [hml]; rfl) [(.ref b43)] [] rfl (lenOf pd_11 rfl) rfl (Nat.le_of_eq rfl) (Ls := #[.val (.int p0), .val (.int p1), .val (.int p2), .val (.int p3), .val (.int ch1), .val (.int ch2), .val (.int ch3), .val (.int (1 : Int32)), .val (.ref b43), .unset, .unset])
    obtain ⟨b66_0, rfl, M66, K66, zz66_0, F66_0, F66_1, F66_2⟩ := Q66
    have N66 := Fr.app N62 M66
    refine Rch.go st66 ?_
    have z67 : n0 ≤ T66.heap.size := (Nat.le_trans z63 K66.1)
    have o68 := o64.keep K66 all0
    have g_b66_0 : n0 ≤ b66_0 := Nat.le_trans z63 zz66_0
    show Rch p e below _ (T66.setTop (mkF m 120 #[.val (.int p0), .val (.int p1), .val (.int p2), .val (.int p3), .val (.int ch1), .val (.int ch2), .val (.int ch3), .val (.int (1 : Int32)), .val (.ref b43), .unset, .unset] [(.ref b66_0)]))
    refine Rch.go (fun t k => XS.astore X66.here hx rfl (hb hby at_120) rfl rfl (l' := #[.val (.int p0), .val (.int p1), .val (.int p2), .val (.int p3), .val (.int ch1), .val (.int ch2), .val (.int ch3), .val (.int (1 : Int32)), .val (.ref b43), .val (.ref b66_0), .unset]) rfl k) ?_
    show Rch p e below _ (T66.setTop (mkF m 122 #[.val (.int p0), .val (.int p1), .val (.int p2), .val (.int p3), .val (.int ch1), .val (.int ch2), .val (.int ch3), .val (.int (1 : Int32)), .val (.ref b43), .val (.ref b66_0), .unset] []))
    refine Rch.go (fun t k => XS.aload X66.here hx rfl (hb hby at_122) rfl rfl k) ?_
    show Rch p e below _ (T66.setTop (mkF m 124 #[.val (.int p0), .val (.int p1), .val (.int p2), .val (.int p3), .val (.int ch1), .val (.int ch2), .val (.int ch3), .val (.int (1 : Int32)), .val (.ref b43), .val (.ref b66_0), .unset] [(.ref b66_0)]))
    have f69 := (f65.keep K66)
    obtain ⟨v70, T70, L70, X70, Q70, st70⟩ := callVi X66 hx hZ66 (m14_leaves l Z a0 hw b66_0 ro3 ro0 ro1 kk_ro1 b43 kk_ro3 T66.heap n0 z67 o68 G.2.2.2.2.2.2.1 F66_0 F66_2 G.2.1 G.2.2.1 G.2.2.2.2.2.2.2.2.2.2.2.1 F66_1 G.2.2.2.2.2.2.2.2.2.2.2.2.2.1 f69) rfl hown66 (wd_86 hw) (wd_87 hw) (wd_89 hw) (notFace_of_selects (args := #[]) (mvT hZ66 (wd_89 hw))) (wd_88 hw) (wd_90 hw) (wd_33 hw) (by decide) (hb hby at_124) 0 (by decide) (by decide) (by decide) (by decide) (by rw [hml]; rfl) b66_0 F66_0 [] [] rfl (lenOf pd_5 rfl) rfl (Nat.le_of_eq rfl) (Ls := #[.val (.int p0), .val (.int p1), .val (.int p2), .val (.int p3), .val (.int ch1), .val (.int ch2), .val (.int ch3), .val (.int (1 : Int32)), .val (.ref b43), .val (.ref b66_0), .unset])
    obtain ⟨b70_0, b70_1, k70_0, rfl, M70, K70, zz70_0, zz70_1, O70_0, F70_0, F70_1, F70_2, F70_3, F70_4, F70_5⟩ := Q70
    have N70 := Fr.app N66 M70
    refine Rch.go st70 ?_
    have z71 : n0 ≤ T70.heap.size := (Nat.le_trans z67 K70.1)
    have o72 := o68.keep K70 all0
    have g_b70_0 : n0 ≤ b70_0 := Nat.le_trans z67 zz70_0
    have g_b70_1 : n0 ≤ b70_1 := Nat.le_trans z67 zz70_1
    show Rch p e below _ (T70.setTop (mkF m 127 #[.val (.int p0), .val (.int p1), .val (.int p2), .val (.int p3), .val (.int ch1), .val (.int ch2), .val (.int ch3), .val (.int (1 : Int32)), .val (.ref b43), .val (.ref b66_0), .unset] [(.ref b70_0)]))
    refine Rch.go (fun t k => XS.astore X70.here hx rfl (hb hby at_127) rfl rfl (l' := #[.val (.int p0), .val (.int p1), .val (.int p2), .val (.int p3), .val (.int ch1), .val (.int ch2), .val (.int ch3), .val (.int (1 : Int32)), .val (.ref b43), .val (.ref b66_0), .val (.ref b70_0)]) rfl k) ?_
    show Rch p e below _ (T70.setTop (mkF m 129 #[.val (.int p0), .val (.int p1), .val (.int p2), .val (.int p3), .val (.int ch1), .val (.int ch2), .val (.int ch3), .val (.int (1 : Int32)), .val (.ref b43), .val (.ref b66_0), .val (.ref b70_0)] []))
    refine Rch.go (fun t k => XS.aload X70.here hx rfl (hb hby at_129) rfl rfl k) ?_
    show Rch p e below _ (T70.setTop (mkF m 131 #[.val (.int p0), .val (.int p1), .val (.int p2), .val (.int p3), .val (.int ch1), .val (.int ch2), .val (.int ch3), .val (.int (1 : Int32)), .val (.ref b43), .val (.ref b66_0), .val (.ref b70_0)] [(.ref b66_0)]))
    have f73 := (F66_1.keep K70 nin0)
    have f75 := (F66_0.keep K70)
    obtain ⟨v74, T74, L74, X74, Q74, st74⟩ := callVi X70 hx hZ66 (m26_value l Z a0 hw b66_0 b43 T70.heap n0 z71 o72 f73) rfl hown66 (wd_169 hw) (wd_170 hw) (wd_172 hw) (notFace_of_selects (args := #[]) (mvT hZ66 (wd_172 hw))) (wd_171 hw) (wd_173 hw) (wd_33 hw) (by decide) (hb hby at_131) 0 (by decide) (by decide) (by decide) (by decide) (by rw [hml]; rfl) b66_0 f75 [] [] rfl (lenOf pd_18 rfl) rfl (Nat.le_of_eq rfl) (Ls := #[.val (.int p0), .val (.int p1), .val (.int p2), .val (.int p3), .val (.int ch1), .val (.int ch2), .val (.int ch3), .val (.int (1 : Int32)), .val (.ref b43), .val (.ref b66_0), .val (.ref b70_0)])
    obtain ⟨rfl, M74, e74⟩ := Q74
    have N74 := Fr.app N70 M74
    refine Rch.go st74 ?_
    show Rch p e below _ (T74.setTop (mkF m 134 #[.val (.int p0), .val (.int p1), .val (.int p2), .val (.int p3), .val (.int ch1), .val (.int ch2), .val (.int ch3), .val (.int (1 : Int32)), .val (.ref b43), .val (.ref b66_0), .val (.ref b70_0)] [(.ref b43)]))
    refine Rch.go (fun t k => XS.aload X74.here hx rfl (hb hby at_134) rfl rfl k) ?_
    show Rch p e below _ (T74.setTop (mkF m 136 #[.val (.int p0), .val (.int p1), .val (.int p2), .val (.int p3), .val (.int ch1), .val (.int ch2), .val (.int ch3), .val (.int (1 : Int32)), .val (.ref b43), .val (.ref b66_0), .val (.ref b70_0)] [(.ref b43), (.ref b43)]))
    have f77 := (f69.keep K70)
    obtain ⟨v76, T76, L76, X76, Q76, st76⟩ := callVi X74 hx hZ66 (m27_equals l Z a0 hw b43 T70.heap n0 z71 o72 ) e74 hown66 (wd_174 hw) (wd_175 hw) (wd_177 hw) (notFace_of_selects (args := #[]) (mvT hZ66 (wd_177 hw))) (wd_176 hw) (wd_178 hw) (wd_3 hw) (by decide) (hb hby at_136) 0 (by decide) (by decide) (by decide) (by decide) (by rw [hml]; rfl) b43 f77 [(.ref b43)] [] rfl (lenOf pd_16 rfl) rfl (Nat.le_of_eq rfl) (Ls := #[.val (.int p0), .val (.int p1), .val (.int p2), .val (.int p3), .val (.int ch1), .val (.int ch2), .val (.int ch3), .val (.int (1 : Int32)), .val (.ref b43), .val (.ref b66_0), .val (.ref b70_0)])
    obtain ⟨rfl, M76, e76⟩ := Q76
    have N76 := Fr.app N74 M76
    refine Rch.go st76 ?_
    show Rch p e below _ (T76.setTop (mkF m 139 #[.val (.int p0), .val (.int p1), .val (.int p2), .val (.int p3), .val (.int ch1), .val (.int ch2), .val (.int ch3), .val (.int (1 : Int32)), .val (.ref b43), .val (.ref b66_0), .val (.ref b70_0)] [(.int (1 : Int32))]))
    refine Rch.go (fun t k => XS.ifNo X76.here hx rfl (hb hby at_139) rfl (by decide) k) ?_
    show Rch p e below _ (T76.setTop (mkF m 142 #[.val (.int p0), .val (.int p1), .val (.int p2), .val (.int p3), .val (.int ch1), .val (.int ch2), .val (.int ch3), .val (.int (1 : Int32)), .val (.ref b43), .val (.ref b66_0), .val (.ref b70_0)] []))
    refine Rch.go (fun t k => XS.aload X76.here hx rfl (hb hby at_142) rfl rfl k) ?_
    show Rch p e below _ (T76.setTop (mkF m 144 #[.val (.int p0), .val (.int p1), .val (.int p2), .val (.int p3), .val (.int ch1), .val (.int ch2), .val (.int ch3), .val (.int (1 : Int32)), .val (.ref b43), .val (.ref b66_0), .val (.ref b70_0)] [(.ref b66_0)]))
    have f78 := (F66_2.keep K70 nin0)
    obtain ⟨v79, T79, L79, X79, Q79, st79⟩ := callVi X76 hx hZ66 (m19_isLeaf l Z a0 hw b66_0 ro0 ro1 kk_ro1 T70.heap n0 z71 o72 f78 G.2.1 G.2.2.1 G.2.2.2.2.2.2.2.2.2.2.2.1) e76 hown66 (wd_179 hw) (wd_119 hw) (wd_121 hw) (notFace_of_selects (args := #[]) (mvT hZ66 (wd_121 hw))) (wd_120 hw) (wd_122 hw) (wd_33 hw) (by decide) (hb hby at_144) 0 (by decide) (by decide) (by decide) (by decide) (by rw [hml]; rfl) b66_0 f75 [] [] rfl (lenOf pd_8 rfl) rfl (Nat.le_of_eq rfl) (Ls := #[.val (.int p0), .val (.int p1), .val (.int p2), .val (.int p3), .val (.int ch1), .val (.int ch2), .val (.int ch3), .val (.int (1 : Int32)), .val (.ref b43), .val (.ref b66_0), .val (.ref b70_0)])
    obtain ⟨rfl, M79, e79⟩ := Q79
    have N79 := Fr.app N76 M79
    refine Rch.go st79 ?_
    show Rch p e below _ (T79.setTop (mkF m 147 #[.val (.int p0), .val (.int p1), .val (.int p2), .val (.int p3), .val (.int ch1), .val (.int ch2), .val (.int ch3), .val (.int (1 : Int32)), .val (.ref b43), .val (.ref b66_0), .val (.ref b70_0)] [(.int (1 : Int32))]))
    refine Rch.go (fun t k => XS.ifNo X79.here hx rfl (hb hby at_147) rfl (by decide) k) ?_
    show Rch p e below _ (T79.setTop (mkF m 150 #[.val (.int p0), .val (.int p1), .val (.int p2), .val (.int p3), .val (.int ch1), .val (.int ch2), .val (.int ch3), .val (.int (1 : Int32)), .val (.ref b43), .val (.ref b66_0), .val (.ref b70_0)] []))
    refine Rch.go (fun t k => XS.aload X79.here hx rfl (hb hby at_150) rfl rfl k) ?_
    show Rch p e below _ (T79.setTop (mkF m 152 #[.val (.int p0), .val (.int p1), .val (.int p2), .val (.int p3), .val (.int ch1), .val (.int ch2), .val (.int ch3), .val (.int (1 : Int32)), .val (.ref b43), .val (.ref b66_0), .val (.ref b70_0)] [(.ref b66_0)]))
    obtain ⟨v80, T80, L80, X80, Q80, st80⟩ := callVi X79 hx hZ66 (m28_children l Z a0 hw b66_0 ro0 T70.heap n0 z71 o72 f78) e79 hown66 (wd_180 hw) (wd_181 hw) (wd_183 hw) (notFace_of_selects (args := #[]) (mvT hZ66 (wd_183 hw))) (wd_182 hw) (wd_184 hw) (wd_33 hw) (by decide) (hb hby at_152) 0 (by decide) (by decide) (by decide) (by decide) (by rw [hml]; rfl) b66_0 f75 [] [] rfl (lenOf pd_5 rfl) rfl (Nat.le_of_eq rfl) (Ls := #[.val (.int p0), .val (.int p1), .val (.int p2), .val (.int p3), .val (.int ch1), .val (.int ch2), .val (.int ch3), .val (.int (1 : Int32)), .val (.ref b43), .val (.ref b66_0), .val (.ref b70_0)])
    obtain ⟨rfl, M80, e80⟩ := Q80
    have N80 := Fr.app N79 M80
    refine Rch.go st80 ?_
    show Rch p e below _ (T80.setTop (mkF m 155 #[.val (.int p0), .val (.int p1), .val (.int p2), .val (.int p3), .val (.int ch1), .val (.int ch2), .val (.int ch3), .val (.int (1 : Int32)), .val (.ref b43), .val (.ref b66_0), .val (.ref b70_0)] [(.ref ro0)]))
    obtain ⟨v81, T81, L81, X81, Q81, st81⟩ := callIf X80 hx hZ66 (m29_size l Z a0 hw ro0 ro1 kk_ro1 T70.heap n0 z71 o72 G.2.2.1 G.2.2.2.2.2.2.2.2.2.2.2.1) e80 hown66 (wd_185 hw) (wd_186 hw) (wd_187 hw) (wd_188 hw) (wd_189 hw) (wd_190 hw) (wd_191 hw) (wd_81 hw) (wd_192 hw) (wd_130 hw) (by decide) (hb hby at_155) 0 (by decide) (by decide) (by decide) (by decide) (by rw [hml]; rfl) ro0 (G.2.1.ext o72.2) [] [] rfl (lenOf pd_19 rfl) rfl (Nat.le_of_eq rfl) (Ls := #[.val (.int p0), .val (.int p1), .val (.int p2), .val (.int p3), .val (.int ch1), .val (.int ch2), .val (.int ch3), .val (.int (1 : Int32)), .val (.ref b43), .val (.ref b66_0), .val (.ref b70_0)])
    obtain ⟨rfl, M81, e81⟩ := Q81
    have N81 := Fr.app N80 M81
    refine Rch.go st81 ?_
    show Rch p e below _ (T81.setTop (mkF m 160 #[.val (.int p0), .val (.int p1), .val (.int p2), .val (.int p3), .val (.int ch1), .val (.int ch2), .val (.int ch3), .val (.int (1 : Int32)), .val (.ref b43), .val (.ref b66_0), .val (.ref b70_0)] [(.int (0 : Int32))]))
    refine Rch.go (fun t k => XS.ifNo X81.here hx rfl (hb hby at_160) rfl (by decide) k) ?_
    show Rch p e below _ (T81.setTop (mkF m 163 #[.val (.int p0), .val (.int p1), .val (.int p2), .val (.int p3), .val (.int ch1), .val (.int ch2), .val (.int ch3), .val (.int (1 : Int32)), .val (.ref b43), .val (.ref b66_0), .val (.ref b70_0)] []))
    refine Rch.go (fun t k => XS.aload X81.here hx rfl (hb hby at_163) rfl rfl k) ?_
    show Rch p e below _ (T81.setTop (mkF m 165 #[.val (.int p0), .val (.int p1), .val (.int p2), .val (.int p3), .val (.int ch1), .val (.int ch2), .val (.int ch3), .val (.int (1 : Int32)), .val (.ref b43), .val (.ref b66_0), .val (.ref b70_0)] [(.ref b70_0)]))
    obtain ⟨v82, T82, L82, X82, Q82, st82⟩ := callIf X81 hx hZ66 (m30_size l Z a0 hw b70_0 T70.heap n0 z71 o72 F70_4) e81 hown66 (wd_185 hw) (wd_186 hw) (wd_187 hw) (wd_193 hw) (wd_194 hw) (wd_195 hw) (wd_196 hw) (wd_141 hw) (wd_197 hw) (wd_93 hw) (by decide) (hb hby at_165) 0 (by decide) (by decide) (by decide) (by decide) (by rw [hml]; rfl) b70_0 F70_0 [] [] rfl (lenOf pd_19 rfl) rfl (Nat.le_of_eq rfl) (Ls := #[.val (.int p0), .val (.int p1), .val (.int p2), .val (.int p3), .val (.int ch1), .val (.int ch2), .val (.int ch3), .val (.int (1 : Int32)), .val (.ref b43), .val (.ref b66_0), .val (.ref b70_0)])
    obtain ⟨rfl, M82, e82⟩ := Q82
    have N82 := Fr.app N81 M82
    refine Rch.go st82 ?_
    show Rch p e below _ (T82.setTop (mkF m 170 #[.val (.int p0), .val (.int p1), .val (.int p2), .val (.int p3), .val (.int ch1), .val (.int ch2), .val (.int ch3), .val (.int (1 : Int32)), .val (.ref b43), .val (.ref b66_0), .val (.ref b70_0)] [(.int (1 : Int32))]))
    refine Rch.go (fun t k => XS.iconst X82.here hx rfl (hb hby at_170) k) ?_
    show Rch p e below _ (T82.setTop (mkF m 171 #[.val (.int p0), .val (.int p1), .val (.int p2), .val (.int p3), .val (.int ch1), .val (.int ch2), .val (.int ch3), .val (.int (1 : Int32)), .val (.ref b43), .val (.ref b66_0), .val (.ref b70_0)] [(.int (1 : Int32)), (.int (1 : Int32))]))
    refine Rch.go (fun t k => XS.icmpNo X82.here hx rfl (hb hby at_171) rfl (by decide) k) ?_
    show Rch p e below _ (T82.setTop (mkF m 174 #[.val (.int p0), .val (.int p1), .val (.int p2), .val (.int p3), .val (.int ch1), .val (.int ch2), .val (.int ch3), .val (.int (1 : Int32)), .val (.ref b43), .val (.ref b66_0), .val (.ref b70_0)] []))
    refine Rch.go (fun t k => XS.aload X82.here hx rfl (hb hby at_174) rfl rfl k) ?_
    show Rch p e below _ (T82.setTop (mkF m 176 #[.val (.int p0), .val (.int p1), .val (.int p2), .val (.int p3), .val (.int ch1), .val (.int ch2), .val (.int ch3), .val (.int (1 : Int32)), .val (.ref b43), .val (.ref b66_0), .val (.ref b70_0)] [(.ref b70_0)]))
    refine Rch.go (fun t k => XS.iconst X82.here hx rfl (hb hby at_176) k) ?_
    show Rch p e below _ (T82.setTop (mkF m 177 #[.val (.int p0), .val (.int p1), .val (.int p2), .val (.int p3), .val (.int ch1), .val (.int ch2), .val (.int ch3), .val (.int (1 : Int32)), .val (.ref b43), .val (.ref b66_0), .val (.ref b70_0)] [(.int (0 : Int32)), (.ref b70_0)]))
    obtain ⟨v83, T83, L83, X83, Q83, st83⟩ := callIf X82 hx hZ66 (m31_get l Z a0 hw b70_0 b70_1 k70_0 b43 T70.heap n0 z71 o72 F70_4 F70_0 F70_1 O70_0 F70_3) e82 hown66 (wd_198 hw) (wd_199 hw) (wd_200 hw) (wd_201 hw) (wd_202 hw) (wd_203 hw) (wd_204 hw) (wd_141 hw) (wd_205 hw) (wd_93 hw) (by decide) (hb hby at_177) 0 (by decide) (by decide) (by decide) (by decide) (by rw [hml]; rfl) b70_0 F70_0 [(.int (0 : Int32))] [] rfl (lenOf pd_21 rfl) rfl (Nat.le_of_eq rfl) (Ls := #[.val (.int p0), .val (.int p1), .val (.int p2), .val (.int p3), .val (.int ch1), .val (.int ch2), .val (.int ch3), .val (.int (1 : Int32)), .val (.ref b43), .val (.ref b66_0), .val (.ref b70_0)])
    obtain ⟨rfl, M83, e83⟩ := Q83
    have N83 := Fr.app N82 M83
    refine Rch.go st83 ?_
    show Rch p e below _ (T83.setTop (mkF m 182 #[.val (.int p0), .val (.int p1), .val (.int p2), .val (.int p3), .val (.int ch1), .val (.int ch2), .val (.int ch3), .val (.int (1 : Int32)), .val (.ref b43), .val (.ref b66_0), .val (.ref b70_0)] [(.ref b43)]))
    obtain ⟨T84, X84, e84, st84⟩ := castY X83 hx hZ66 hown66 (wd_1 hw) e83 (Ins.self f77) (g := (mkF m 182 #[.val (.int p0), .val (.int p1), .val (.int p2), .val (.int p3), .val (.int ch1), .val (.int ch2), .val (.int ch3), .val (.int (1 : Int32)), .val (.ref b43), .val (.ref b66_0), .val (.ref b70_0)] [(.ref b43)])) rfl rfl (hb hby at_182)
    refine Rch.go st84 ?_
    show Rch p e below _ (T84.setTop (mkF m 185 #[.val (.int p0), .val (.int p1), .val (.int p2), .val (.int p3), .val (.int ch1), .val (.int ch2), .val (.int ch3), .val (.int (1 : Int32)), .val (.ref b43), .val (.ref b66_0), .val (.ref b70_0)] [(.ref b43)]))
    refine Rch.go (fun t k => XS.aload X84.here hx rfl (hb hby at_185) rfl rfl k) ?_
    show Rch p e below _ (T84.setTop (mkF m 187 #[.val (.int p0), .val (.int p1), .val (.int p2), .val (.int p3), .val (.int ch1), .val (.int ch2), .val (.int ch3), .val (.int (1 : Int32)), .val (.ref b43), .val (.ref b66_0), .val (.ref b70_0)] [(.ref b43), (.ref b43)]))
    obtain ⟨v85, T85, L85, X85, Q85, st85⟩ := callVi X84 hx hZ66 (m27_equals l Z a0 hw b43 T70.heap n0 z71 o72 ) e84 hown66 (wd_174 hw) (wd_175 hw) (wd_177 hw) (notFace_of_selects (args := #[]) (mvT hZ66 (wd_177 hw))) (wd_176 hw) (wd_178 hw) (wd_3 hw) (by decide) (hb hby at_187) 0 (by decide) (by decide) (by decide) (by decide) (by rw [hml]; rfl) b43 f77 [(.ref b43)] [] rfl (lenOf pd_16 rfl) rfl (Nat.le_of_eq rfl) (Ls := #[.val (.int p0), .val (.int p1), .val (.int p2), .val (.int p3), .val (.int ch1), .val (.int ch2), .val (.int ch3), .val (.int (1 : Int32)), .val (.ref b43), .val (.ref b66_0), .val (.ref b70_0)])
    obtain ⟨rfl, M85, e85⟩ := Q85
    have N85 := Fr.app N83 M85
    refine Rch.go st85 ?_
    show Rch p e below _ (T85.setTop (mkF m 190 #[.val (.int p0), .val (.int p1), .val (.int p2), .val (.int p3), .val (.int ch1), .val (.int ch2), .val (.int ch3), .val (.int (1 : Int32)), .val (.ref b43), .val (.ref b66_0), .val (.ref b70_0)] [(.int (1 : Int32))]))
    refine Rch.go (fun t k => XS.ifNo X85.here hx rfl (hb hby at_190) rfl (by decide) k) ?_
    show Rch p e below _ (T85.setTop (mkF m 193 #[.val (.int p0), .val (.int p1), .val (.int p2), .val (.int p3), .val (.int ch1), .val (.int ch2), .val (.int ch3), .val (.int (1 : Int32)), .val (.ref b43), .val (.ref b66_0), .val (.ref b70_0)] []))
    refine Rch.go (fun t k => XS.iconst X85.here hx rfl (hb hby at_193) k) ?_
    show Rch p e below _ (T85.setTop (mkF m 194 #[.val (.int p0), .val (.int p1), .val (.int p2), .val (.int p3), .val (.int ch1), .val (.int ch2), .val (.int ch3), .val (.int (1 : Int32)), .val (.ref b43), .val (.ref b66_0), .val (.ref b70_0)] [(.int (1 : Int32))]))
    refine Rch.go (fun t k => XS.goto X85.here hx rfl (pc0 := 194) (pc' := 198) rfl (hb hby at_194) (by decide) (by decide) k) ?_
    show Rch p e below _ (T85.setTop (mkF m 198 #[.val (.int p0), .val (.int p1), .val (.int p2), .val (.int p3), .val (.int ch1), .val (.int ch2), .val (.int ch3), .val (.int (1 : Int32)), .val (.ref b43), .val (.ref b66_0), .val (.ref b70_0)] [(.int (1 : Int32))]))
    refine Rch.valW X85 hx Y66 e85 (Nat.le_trans (Nat.le_refl _) K70.1) (t := .boolean) hret hlk rfl (mayI (by simp)) (hb hby at_198) (by decide) (by decide) ?_
    exact ⟨rfl, N85⟩
  · rw [hq]
    show Rch p e below _ (T0.setTop (mkF m 30 #[.val (.int p0), .val (.int p1), .val (.int p2), .val (.int p3), .val (.int ch1), .val (.int ch2), .val (.int ch3), .unset, .unset, .unset, .unset] [(.int (2 : Int32))]))
    refine Rch.go (fun t k => XS.istore X0.here hx rfl (hb hby at_30) rfl  (l' := #[.val (.int p0), .val (.int p1), .val (.int p2), .val (.int p3), .val (.int ch1), .val (.int ch2), .val (.int ch3), .val (.int (2 : Int32)), .unset, .unset, .unset]) rfl k) ?_
    show Rch p e below _ (T0.setTop (mkF m 32 #[.val (.int p0), .val (.int p1), .val (.int p2), .val (.int p3), .val (.int ch1), .val (.int ch2), .val (.int ch3), .val (.int (2 : Int32)), .unset, .unset, .unset] []))
    refine Rch.go (fun t k => XS.iload X0.here hx rfl (hb hby at_32) rfl  k) ?_
    show Rch p e below _ (T0.setTop (mkF m 34 #[.val (.int p0), .val (.int p1), .val (.int p2), .val (.int p3), .val (.int ch1), .val (.int ch2), .val (.int ch3), .val (.int (2 : Int32)), .unset, .unset, .unset] [(.int (2 : Int32))]))
    refine Rch.go (fun t k => XS.ifYes X0.here hx rfl (pc0 := 34) (pc' := 57) rfl (hb hby at_34) rfl (by decide) (by decide) (by decide) k) ?_
    show Rch p e below _ (T0.setTop (mkF m 57 #[.val (.int p0), .val (.int p1), .val (.int p2), .val (.int p3), .val (.int ch1), .val (.int ch2), .val (.int ch3), .val (.int (2 : Int32)), .unset, .unset, .unset] []))
    refine Rch.go (fun t k => XS.iload X0.here hx rfl (hb hby at_57) rfl  k) ?_
    show Rch p e below _ (T0.setTop (mkF m 59 #[.val (.int p0), .val (.int p1), .val (.int p2), .val (.int p3), .val (.int ch1), .val (.int ch2), .val (.int ch3), .val (.int (2 : Int32)), .unset, .unset, .unset] [(.int (2 : Int32))]))
    refine Rch.go (fun t k => XS.iconst X0.here hx rfl (hb hby at_59) k) ?_
    show Rch p e below _ (T0.setTop (mkF m 60 #[.val (.int p0), .val (.int p1), .val (.int p2), .val (.int p3), .val (.int ch1), .val (.int ch2), .val (.int ch3), .val (.int (2 : Int32)), .unset, .unset, .unset] [(.int (1 : Int32)), (.int (2 : Int32))]))
    refine Rch.go (fun t k => XS.icmpYes X0.here hx rfl (pc0 := 60) (pc' := 88) rfl (hb hby at_60) rfl (by decide) (by decide) (by decide) k) ?_
    show Rch p e below _ (T0.setTop (mkF m 88 #[.val (.int p0), .val (.int p1), .val (.int p2), .val (.int p3), .val (.int ch1), .val (.int ch2), .val (.int ch3), .val (.int (2 : Int32)), .unset, .unset, .unset] []))
    obtain ⟨T86, h86, X86, e86, E86, A86, D86, -, st86⟩ := newO X0 hx hZ hown (wd_1 hw) (wd_2 hw) (wd_3 hw) e0 (g := (mkF m 88 #[.val (.int p0), .val (.int p1), .val (.int p2), .val (.int p3), .val (.int ch1), .val (.int ch2), .val (.int ch3), .val (.int (2 : Int32)), .unset, .unset, .unset] [])) rfl (hb hby at_88) (by decide) (by decide)
    obtain ⟨b86, g86⟩ : ∃ z, z = h0.size := ⟨_, rfl⟩
    rw [← g86] at A86 D86 st86
    refine Rch.go st86 ?_
    have z87 : n0 ≤ h86.size := (Nat.le_trans Z0 E86.1)
    have o88 := O0.ext E86
    have g_b86 : n0 ≤ b86 := Nat.le_trans Z0 (Nat.le_of_eq g86.symm)
    have F86_coder : Fld Z h86 b86 "java/lang/String" "coder" "B" (.int (0 : Int32)) := (D86 (Or.inr (wd_28 hw)) (ty := .byte) (by decide))
    have F86_value : Fld Z h86 b86 "java/lang/String" "value" "[B" .null := (D86 (Or.inr (wd_30 hw)) (ty := (.array .byte)) (by decide))
    show Rch p e below _ (T86.setTop (mkF m 91 #[.val (.int p0), .val (.int p1), .val (.int p2), .val (.int p3), .val (.int ch1), .val (.int ch2), .val (.int ch3), .val (.int (2 : Int32)), .unset, .unset, .unset] [(.ref b86)]))
    refine Rch.go (fun t k => XS.dup X86.here hx rfl (hb hby at_91) rfl rfl k) ?_
    show Rch p e below _ (T86.setTop (mkF m 92 #[.val (.int p0), .val (.int p1), .val (.int p2), .val (.int p3), .val (.int ch1), .val (.int ch2), .val (.int ch3), .val (.int (2 : Int32)), .unset, .unset, .unset] [(.ref b86), (.ref b86)]))
    refine Rch.go (fun t k => XS.iconst X86.here hx rfl (hb hby at_92) k) ?_
    show Rch p e below _ (T86.setTop (mkF m 93 #[.val (.int p0), .val (.int p1), .val (.int p2), .val (.int p3), .val (.int ch1), .val (.int ch2), .val (.int ch3), .val (.int (2 : Int32)), .unset, .unset, .unset] [(.int (3 : Int32)), (.ref b86), (.ref b86)]))
    obtain ⟨T89, h89, k89, X89, e89, E89, A89, B89, st89⟩ := newPE (aty := .char) X86 hx hZ (wd_4 hw) e86 (g := (mkF m 93 #[.val (.int p0), .val (.int p1), .val (.int p2), .val (.int p3), .val (.int ch1), .val (.int ch2), .val (.int ch3), .val (.int (2 : Int32)), .unset, .unset, .unset] [(.int (3 : Int32)), (.ref b86), (.ref b86)])) rfl (hb hby at_93) rfl (by decide) (cap := 3) (by decide) (by decide) (by decide) (by decide) (ad := "[C") (by decide +kernel)
    obtain ⟨b89, g89⟩ : ∃ z, z = h86.size := ⟨_, rfl⟩
    rw [← g89] at A89 B89 st89
    refine Rch.go st89 ?_
    have z90 : n0 ≤ h89.size := (Nat.le_trans z87 E89.1)
    have o91 := o88.ext E89
    have g_b89 : n0 ≤ b89 := Nat.le_trans z87 (Nat.le_of_eq g89.symm)
    have V89 : Arv Z h89 b89 k89 .char (3 : Int32) [(.int (0 : Int32)), (.int (0 : Int32)), (.int (0 : Int32))] (.int (0 : Int32)) := (Arv.new A89 (by decide)).pad (pad_rep [] (.int (0 : Int32)) 3)
    show Rch p e below _ (T89.setTop (mkF m 95 #[.val (.int p0), .val (.int p1), .val (.int p2), .val (.int p3), .val (.int ch1), .val (.int ch2), .val (.int ch3), .val (.int (2 : Int32)), .unset, .unset, .unset] [(.ref b89), (.ref b86), (.ref b86)]))
    refine Rch.go (fun t k => XS.dup X89.here hx rfl (hb hby at_95) rfl rfl k) ?_
    show Rch p e below _ (T89.setTop (mkF m 96 #[.val (.int p0), .val (.int p1), .val (.int p2), .val (.int p3), .val (.int ch1), .val (.int ch2), .val (.int ch3), .val (.int (2 : Int32)), .unset, .unset, .unset] [(.ref b89), (.ref b89), (.ref b86), (.ref b86)]))
    refine Rch.go (fun t k => XS.iconst X89.here hx rfl (hb hby at_96) k) ?_
    show Rch p e below _ (T89.setTop (mkF m 97 #[.val (.int p0), .val (.int p1), .val (.int p2), .val (.int p3), .val (.int ch1), .val (.int ch2), .val (.int ch3), .val (.int (2 : Int32)), .unset, .unset, .unset] [(.int (0 : Int32)), (.ref b89), (.ref b89), (.ref b86), (.ref b86)]))
    refine Rch.go (fun t k => XS.iload X89.here hx rfl (hb hby at_97) rfl  k) ?_
    show Rch p e below _ (T89.setTop (mkF m 99 #[.val (.int p0), .val (.int p1), .val (.int p2), .val (.int p3), .val (.int ch1), .val (.int ch2), .val (.int ch3), .val (.int (2 : Int32)), .unset, .unset, .unset] [(.int ch1), (.int (0 : Int32)), (.ref b89), (.ref b89), (.ref b86), (.ref b86)]))
    obtain ⟨c92, r92, q92, s92, u92, H92, G92⟩ := id V89
    obtain ⟨T93, h93, X93, e93, W93, st93⟩ := stC X89 hx hZ e89 r92 (j := (0 : Int32)) (inb_of s92 (by decide)) (g := (mkF m 99 #[.val (.int p0), .val (.int p1), .val (.int p2), .val (.int p3), .val (.int ch1), .val (.int ch2), .val (.int ch3), .val (.int (2 : Int32)), .unset, .unset, .unset] [(.int ch1), (.int (0 : Int32)), (.ref b89), (.ref b89), (.ref b86), (.ref b86)])) rfl rfl (hb hby at_99)
    rw [hn1] at W93
    refine Rch.go st93 ?_
    have V93 : Arv Z h93 b89 k89 .char (3 : Int32) [(.int ch1), (.int (0 : Int32)), (.int (0 : Int32))] (.int (0 : Int32)) := Arv.set r92 q92 s92 u92 H92 G92 (by rw [← hn1]; exact (fits_nar_char _)) W93 0 rfl (Nat.le_of_ble_eq_true rfl)
    have z94 : n0 ≤ h93.size := (Nat.le_trans z90 (Nat.le_of_eq W93.size.symm))
    have o95 := o91.wr W93 g_b89
    have N93 := Fr.snoc X93 N0 g_b89
    show Rch p e below _ (T93.setTop (mkF m 100 #[.val (.int p0), .val (.int p1), .val (.int p2), .val (.int p3), .val (.int ch1), .val (.int ch2), .val (.int ch3), .val (.int (2 : Int32)), .unset, .unset, .unset] [(.ref b89), (.ref b86), (.ref b86)]))
    refine Rch.go (fun t k => XS.dup X93.here hx rfl (hb hby at_100) rfl rfl k) ?_
    show Rch p e below _ (T93.setTop (mkF m 101 #[.val (.int p0), .val (.int p1), .val (.int p2), .val (.int p3), .val (.int ch1), .val (.int ch2), .val (.int ch3), .val (.int (2 : Int32)), .unset, .unset, .unset] [(.ref b89), (.ref b89), (.ref b86), (.ref b86)]))
    refine Rch.go (fun t k => XS.iconst X93.here hx rfl (hb hby at_101) k) ?_
    show Rch p e below _ (T93.setTop (mkF m 102 #[.val (.int p0), .val (.int p1), .val (.int p2), .val (.int p3), .val (.int ch1), .val (.int ch2), .val (.int ch3), .val (.int (2 : Int32)), .unset, .unset, .unset] [(.int (1 : Int32)), (.ref b89), (.ref b89), (.ref b86), (.ref b86)]))
    refine Rch.go (fun t k => XS.iload X93.here hx rfl (hb hby at_102) rfl  k) ?_
    show Rch p e below _ (T93.setTop (mkF m 104 #[.val (.int p0), .val (.int p1), .val (.int p2), .val (.int p3), .val (.int ch1), .val (.int ch2), .val (.int ch3), .val (.int (2 : Int32)), .unset, .unset, .unset] [(.int ch2), (.int (1 : Int32)), (.ref b89), (.ref b89), (.ref b86), (.ref b86)]))
    obtain ⟨c96, r96, q96, s96, u96, H96, G96⟩ := id V93
    obtain ⟨T97, h97, X97, e97, W97, st97⟩ := stC X93 hx hZ e93 r96 (j := (1 : Int32)) (inb_of s96 (by decide)) (g := (mkF m 104 #[.val (.int p0), .val (.int p1), .val (.int p2), .val (.int p3), .val (.int ch1), .val (.int ch2), .val (.int ch3), .val (.int (2 : Int32)), .unset, .unset, .unset] [(.int ch2), (.int (1 : Int32)), (.ref b89), (.ref b89), (.ref b86), (.ref b86)])) rfl rfl (hb hby at_104)
    rw [hn2] at W97
    refine Rch.go st97 ?_
    have V97 : Arv Z h97 b89 k89 .char (3 : Int32) [(.int ch1), (.int ch2), (.int (0 : Int32))] (.int (0 : Int32)) := Arv.set r96 q96 s96 u96 H96 G96 (by rw [← hn2]; exact (fits_nar_char _)) W97 1 rfl (Nat.le_of_ble_eq_true rfl)
    have z98 : n0 ≤ h97.size := (Nat.le_trans z94 (Nat.le_of_eq W97.size.symm))
    have o99 := o95.wr W97 g_b89
    have N97 := Fr.snoc X97 N93 g_b89
    show Rch p e below _ (T97.setTop (mkF m 105 #[.val (.int p0), .val (.int p1), .val (.int p2), .val (.int p3), .val (.int ch1), .val (.int ch2), .val (.int ch3), .val (.int (2 : Int32)), .unset, .unset, .unset] [(.ref b89), (.ref b86), (.ref b86)]))
    refine Rch.go (fun t k => XS.dup X97.here hx rfl (hb hby at_105) rfl rfl k) ?_
    show Rch p e below _ (T97.setTop (mkF m 106 #[.val (.int p0), .val (.int p1), .val (.int p2), .val (.int p3), .val (.int ch1), .val (.int ch2), .val (.int ch3), .val (.int (2 : Int32)), .unset, .unset, .unset] [(.ref b89), (.ref b89), (.ref b86), (.ref b86)]))
    refine Rch.go (fun t k => XS.iconst X97.here hx rfl (hb hby at_106) k) ?_
    show Rch p e below _ (T97.setTop (mkF m 107 #[.val (.int p0), .val (.int p1), .val (.int p2), .val (.int p3), .val (.int ch1), .val (.int ch2), .val (.int ch3), .val (.int (2 : Int32)), .unset, .unset, .unset] [(.int (2 : Int32)), (.ref b89), (.ref b89), (.ref b86), (.ref b86)]))
    refine Rch.go (fun t k => XS.iload X97.here hx rfl (hb hby at_107) rfl  k) ?_
    show Rch p e below _ (T97.setTop (mkF m 109 #[.val (.int p0), .val (.int p1), .val (.int p2), .val (.int p3), .val (.int ch1), .val (.int ch2), .val (.int ch3), .val (.int (2 : Int32)), .unset, .unset, .unset] [(.int ch3), (.int (2 : Int32)), (.ref b89), (.ref b89), (.ref b86), (.ref b86)]))
    obtain ⟨c100, r100, q100, s100, u100, H100, G100⟩ := id V97
    obtain ⟨T101, h101, X101, e101, W101, st101⟩ := stC X97 hx hZ e97 r100 (j := (2 : Int32)) (inb_of s100 (by decide)) (g := (mkF m 109 #[.val (.int p0), .val (.int p1), .val (.int p2), .val (.int p3), .val (.int ch1), .val (.int ch2), .val (.int ch3), .val (.int (2 : Int32)), .unset, .unset, .unset] [(.int ch3), (.int (2 : Int32)), (.ref b89), (.ref b89), (.ref b86), (.ref b86)])) rfl rfl (hb hby at_109)
    rw [hn3] at W101
    refine Rch.go st101 ?_
    have V101 : Arv Z h101 b89 k89 .char (3 : Int32) [(.int ch1), (.int ch2), (.int ch3)] (.int (0 : Int32)) := Arv.set r100 q100 s100 u100 H100 G100 (by rw [← hn3]; exact (fits_nar_char _)) W101 2 rfl (Nat.le_of_ble_eq_true rfl)
    have z102 : n0 ≤ h101.size := (Nat.le_trans z98 (Nat.le_of_eq W101.size.symm))
    have o103 := o99.wr W101 g_b89
    have N101 := Fr.snoc X101 N97 g_b89
    show Rch p e below _ (T101.setTop (mkF m 110 #[.val (.int p0), .val (.int p1), .val (.int p2), .val (.int p3), .val (.int ch1), .val (.int ch2), .val (.int ch3), .val (.int (2 : Int32)), .unset, .unset, .unset] [(.ref b89), (.ref b86), (.ref b86)]))
    have f104 := ((((A86.ext E89).wr W93).wr W97).wr W101)
    have lt105 := A86.lt
    have ne106 : b86 ≠ b89 := Nat.ne_of_lt (Nat.lt_of_lt_of_le lt105 (Nat.le_of_eq g89.symm))
    have f107 := ((((F86_coder.ext E89).other W93 (Or.inl ne106)).other W97 (Or.inl ne106)).other W101 (Or.inl ne106))
    have f108 := ((((F86_value.ext E89).other W93 (Or.inl ne106)).other W97 (Or.inl ne106)).other W101 (Or.inl ne106))
    obtain ⟨v109, T109, L109, X109, Q109, st109⟩ := callSp X101 hx hZ (m43_init l Z a0 hw b86 b89 k89 ch1 ch2 ch3 ww4 h101 n0 z102 o103 V101 G.2.2.2.2.2.2.2.2.1 G.2.2.2.2.2.2.2.2.2.2.2.2.2.2.1 hl1 hl2 hl3 f104 f107 g_b86 f108) e101 hown rfl (wd_5 hw) (wd_6 hw) (wd_7 hw) (wd_3 hw) (by decide) (hb hby at_110) 1 (by decide) (by decide) (by decide) (by decide) (by rw [hml]; rfl) b86 [(.ref b89)] [(.ref b86)] rfl (lenOf pd_4 rfl) rfl (Nat.le_of_eq rfl) (Ls := #[.val (.int p0), .val (.int p1), .val (.int p2), .val (.int p3), .val (.int ch1), .val (.int ch2), .val (.int ch3), .val (.int (2 : Int32)), .unset, .unset, .unset])
    obtain ⟨b109_0, k109_0, rfl, M109, K109, zz109_0, F109_0, F109_1, F109_2, F109_3⟩ := Q109
    have N109 := Fr.app N101 M109
    refine Rch.go st109 ?_
    have z110 : n0 ≤ T109.heap.size := (Nat.le_trans z102 K109.1)
    have o111 := o103.keep K109 (allS g_b86 all0)
    have g_b109_0 : n0 ≤ b109_0 := Nat.le_trans z102 zz109_0
    show Rch p e below _ (T109.setTop (mkF m 113 #[.val (.int p0), .val (.int p1), .val (.int p2), .val (.int p3), .val (.int ch1), .val (.int ch2), .val (.int ch3), .val (.int (2 : Int32)), .unset, .unset, .unset] [(.ref b86)]))
    refine Rch.go (fun t k => XS.astore X109.here hx rfl (hb hby at_113) rfl rfl (l' := #[.val (.int p0), .val (.int p1), .val (.int p2), .val (.int p3), .val (.int ch1), .val (.int ch2), .val (.int ch3), .val (.int (2 : Int32)), .val (.ref b86), .unset, .unset]) rfl k) ?_
    show Rch p e below _ (T109.setTop (mkF m 115 #[.val (.int p0), .val (.int p1), .val (.int p2), .val (.int p3), .val (.int ch1), .val (.int ch2), .val (.int ch3), .val (.int (2 : Int32)), .val (.ref b86), .unset, .unset] []))
    refine Rch.go (fun t k => XS.aload X109.here hx rfl (hb hby at_115) rfl rfl k) ?_
    show Rch p e below _ (T109.setTop (mkF m 117 #[.val (.int p0), .val (.int p1), .val (.int p2), .val (.int p3), .val (.int ch1), .val (.int ch2), .val (.int ch3), .val (.int (2 : Int32)), .val (.ref b86), .unset, .unset] [(.ref b86)]))
    have f112 := (f104.keep K109)
    obtain ⟨v113, T113, L113, X113, Q113, Y113, hZ113, hown113, st113⟩ := callStW X109 hx hZ Y0 (Nat.le_trans (Nat.le_trans (Nat.le_trans (Nat.le_trans (Nat.le_trans (Nat.le_trans (Nat.le_refl _) E86.1) E89.1) (Nat.le_of_eq W93.size.symm)) (Nat.le_of_eq W97.size.symm)) (Nat.le_of_eq W101.size.symm)) K109.1) (m48_leaf l Z a0 hw b86 ro0 b109_0 k109_0 (nar .byte (ch1.toInt8.toInt32)) (nar .byte (ch2.toInt8.toInt32)) (nar .byte (ch3.toInt8.toInt32)) T109.heap n0 z110 o111 G.1 f112 F109_3 F109_1 G.2.1 G.2.2.2.2.2.2.2.2.2.2.1) rfl hown (wd_31 hw) (wd_32 hw) (wd_34 hw) (wd_33 hw) (by decide) (hb hby at_117) 0 (by decide) (by decide) (by decide) (by decide) (by rw [hml]; rfl) [(.ref b86)] [] rfl (lenOf pd_11 rfl) rfl (Nat.le_of_eq rfl) (Ls := #[.val (.int p0), .val (.int p1), .val (.int p2), .val (.int p3), .val (.int ch1), .val (.int ch2), .val (.int ch3), .val (.int (2 : Int32)), .val (.ref b86), .unset, .unset])
    obtain ⟨b113_0, rfl, M113, K113, zz113_0, F113_0, F113_1, F113_2⟩ := Q113
    have N113 := Fr.app N109 M113
    refine Rch.go st113 ?_
    have z114 : n0 ≤ T113.heap.size := (Nat.le_trans z110 K113.1)
    have o115 := o111.keep K113 all0
    have g_b113_0 : n0 ≤ b113_0 := Nat.le_trans z110 zz113_0
    show Rch p e below _ (T113.setTop (mkF m 120 #[.val (.int p0), .val (.int p1), .val (.int p2), .val (.int p3), .val (.int ch1), .val (.int ch2), .val (.int ch3), .val (.int (2 : Int32)), .val (.ref b86), .unset, .unset] [(.ref b113_0)]))
    refine Rch.go (fun t k => XS.astore X113.here hx rfl (hb hby at_120) rfl rfl (l' := #[.val (.int p0), .val (.int p1), .val (.int p2), .val (.int p3), .val (.int ch1), .val (.int ch2), .val (.int ch3), .val (.int (2 : Int32)), .val (.ref b86), .val (.ref b113_0), .unset]) rfl k) ?_
    show Rch p e below _ (T113.setTop (mkF m 122 #[.val (.int p0), .val (.int p1), .val (.int p2), .val (.int p3), .val (.int ch1), .val (.int ch2), .val (.int ch3), .val (.int (2 : Int32)), .val (.ref b86), .val (.ref b113_0), .unset] []))
    refine Rch.go (fun t k => XS.aload X113.here hx rfl (hb hby at_122) rfl rfl k) ?_
    show Rch p e below _ (T113.setTop (mkF m 124 #[.val (.int p0), .val (.int p1), .val (.int p2), .val (.int p3), .val (.int ch1), .val (.int ch2), .val (.int ch3), .val (.int (2 : Int32)), .val (.ref b86), .val (.ref b113_0), .unset] [(.ref b113_0)]))
    have f116 := (f112.keep K113)
    obtain ⟨v117, T117, L117, X117, Q117, st117⟩ := callVi X113 hx hZ113 (m14_leaves l Z a0 hw b113_0 ro3 ro0 ro1 kk_ro1 b86 kk_ro3 T113.heap n0 z114 o115 G.2.2.2.2.2.2.1 F113_0 F113_2 G.2.1 G.2.2.1 G.2.2.2.2.2.2.2.2.2.2.2.1 F113_1 G.2.2.2.2.2.2.2.2.2.2.2.2.2.1 f116) rfl hown113 (wd_86 hw) (wd_87 hw) (wd_89 hw) (notFace_of_selects (args := #[]) (mvT hZ113 (wd_89 hw))) (wd_88 hw) (wd_90 hw) (wd_33 hw) (by decide) (hb hby at_124) 0 (by decide) (by decide) (by decide) (by decide) (by rw [hml]; rfl) b113_0 F113_0 [] [] rfl (lenOf pd_5 rfl) rfl (Nat.le_of_eq rfl) (Ls := #[.val (.int p0), .val (.int p1), .val (.int p2), .val (.int p3), .val (.int ch1), .val (.int ch2), .val (.int ch3), .val (.int (2 : Int32)), .val (.ref b86), .val (.ref b113_0), .unset])
    obtain ⟨b117_0, b117_1, k117_0, rfl, M117, K117, zz117_0, zz117_1, O117_0, F117_0, F117_1, F117_2, F117_3, F117_4, F117_5⟩ := Q117
    have N117 := Fr.app N113 M117
    refine Rch.go st117 ?_
    have z118 : n0 ≤ T117.heap.size := (Nat.le_trans z114 K117.1)
    have o119 := o115.keep K117 all0
    have g_b117_0 : n0 ≤ b117_0 := Nat.le_trans z114 zz117_0
    have g_b117_1 : n0 ≤ b117_1 := Nat.le_trans z114 zz117_1
    show Rch p e below _ (T117.setTop (mkF m 127 #[.val (.int p0), .val (.int p1), .val (.int p2), .val (.int p3), .val (.int ch1), .val (.int ch2), .val (.int ch3), .val (.int (2 : Int32)), .val (.ref b86), .val (.ref b113_0), .unset] [(.ref b117_0)]))
    refine Rch.go (fun t k => XS.astore X117.here hx rfl (hb hby at_127) rfl rfl (l' := #[.val (.int p0), .val (.int p1), .val (.int p2), .val (.int p3), .val (.int ch1), .val (.int ch2), .val (.int ch3), .val (.int (2 : Int32)), .val (.ref b86), .val (.ref b113_0), .val (.ref b117_0)]) rfl k) ?_
    show Rch p e below _ (T117.setTop (mkF m 129 #[.val (.int p0), .val (.int p1), .val (.int p2), .val (.int p3), .val (.int ch1), .val (.int ch2), .val (.int ch3), .val (.int (2 : Int32)), .val (.ref b86), .val (.ref b113_0), .val (.ref b117_0)] []))
    refine Rch.go (fun t k => XS.aload X117.here hx rfl (hb hby at_129) rfl rfl k) ?_
    show Rch p e below _ (T117.setTop (mkF m 131 #[.val (.int p0), .val (.int p1), .val (.int p2), .val (.int p3), .val (.int ch1), .val (.int ch2), .val (.int ch3), .val (.int (2 : Int32)), .val (.ref b86), .val (.ref b113_0), .val (.ref b117_0)] [(.ref b113_0)]))
    have f120 := (F113_1.keep K117 nin0)
    have f122 := (F113_0.keep K117)
    obtain ⟨v121, T121, L121, X121, Q121, st121⟩ := callVi X117 hx hZ113 (m26_value l Z a0 hw b113_0 b86 T117.heap n0 z118 o119 f120) rfl hown113 (wd_169 hw) (wd_170 hw) (wd_172 hw) (notFace_of_selects (args := #[]) (mvT hZ113 (wd_172 hw))) (wd_171 hw) (wd_173 hw) (wd_33 hw) (by decide) (hb hby at_131) 0 (by decide) (by decide) (by decide) (by decide) (by rw [hml]; rfl) b113_0 f122 [] [] rfl (lenOf pd_18 rfl) rfl (Nat.le_of_eq rfl) (Ls := #[.val (.int p0), .val (.int p1), .val (.int p2), .val (.int p3), .val (.int ch1), .val (.int ch2), .val (.int ch3), .val (.int (2 : Int32)), .val (.ref b86), .val (.ref b113_0), .val (.ref b117_0)])
    obtain ⟨rfl, M121, e121⟩ := Q121
    have N121 := Fr.app N117 M121
    refine Rch.go st121 ?_
    show Rch p e below _ (T121.setTop (mkF m 134 #[.val (.int p0), .val (.int p1), .val (.int p2), .val (.int p3), .val (.int ch1), .val (.int ch2), .val (.int ch3), .val (.int (2 : Int32)), .val (.ref b86), .val (.ref b113_0), .val (.ref b117_0)] [(.ref b86)]))
    refine Rch.go (fun t k => XS.aload X121.here hx rfl (hb hby at_134) rfl rfl k) ?_
    show Rch p e below _ (T121.setTop (mkF m 136 #[.val (.int p0), .val (.int p1), .val (.int p2), .val (.int p3), .val (.int ch1), .val (.int ch2), .val (.int ch3), .val (.int (2 : Int32)), .val (.ref b86), .val (.ref b113_0), .val (.ref b117_0)] [(.ref b86), (.ref b86)]))
    have f124 := (f116.keep K117)
    obtain ⟨v123, T123, L123, X123, Q123, st123⟩ := callVi X121 hx hZ113 (m27_equals l Z a0 hw b86 T117.heap n0 z118 o119 ) e121 hown113 (wd_174 hw) (wd_175 hw) (wd_177 hw) (notFace_of_selects (args := #[]) (mvT hZ113 (wd_177 hw))) (wd_176 hw) (wd_178 hw) (wd_3 hw) (by decide) (hb hby at_136) 0 (by decide) (by decide) (by decide) (by decide) (by rw [hml]; rfl) b86 f124 [(.ref b86)] [] rfl (lenOf pd_16 rfl) rfl (Nat.le_of_eq rfl) (Ls := #[.val (.int p0), .val (.int p1), .val (.int p2), .val (.int p3), .val (.int ch1), .val (.int ch2), .val (.int ch3), .val (.int (2 : Int32)), .val (.ref b86), .val (.ref b113_0), .val (.ref b117_0)])
    obtain ⟨rfl, M123, e123⟩ := Q123
    have N123 := Fr.app N121 M123
    refine Rch.go st123 ?_
    show Rch p e below _ (T123.setTop (mkF m 139 #[.val (.int p0), .val (.int p1), .val (.int p2), .val (.int p3), .val (.int ch1), .val (.int ch2), .val (.int ch3), .val (.int (2 : Int32)), .val (.ref b86), .val (.ref b113_0), .val (.ref b117_0)] [(.int (1 : Int32))]))
    refine Rch.go (fun t k => XS.ifNo X123.here hx rfl (hb hby at_139) rfl (by decide) k) ?_
    show Rch p e below _ (T123.setTop (mkF m 142 #[.val (.int p0), .val (.int p1), .val (.int p2), .val (.int p3), .val (.int ch1), .val (.int ch2), .val (.int ch3), .val (.int (2 : Int32)), .val (.ref b86), .val (.ref b113_0), .val (.ref b117_0)] []))
    refine Rch.go (fun t k => XS.aload X123.here hx rfl (hb hby at_142) rfl rfl k) ?_
    show Rch p e below _ (T123.setTop (mkF m 144 #[.val (.int p0), .val (.int p1), .val (.int p2), .val (.int p3), .val (.int ch1), .val (.int ch2), .val (.int ch3), .val (.int (2 : Int32)), .val (.ref b86), .val (.ref b113_0), .val (.ref b117_0)] [(.ref b113_0)]))
    have f125 := (F113_2.keep K117 nin0)
    obtain ⟨v126, T126, L126, X126, Q126, st126⟩ := callVi X123 hx hZ113 (m19_isLeaf l Z a0 hw b113_0 ro0 ro1 kk_ro1 T117.heap n0 z118 o119 f125 G.2.1 G.2.2.1 G.2.2.2.2.2.2.2.2.2.2.2.1) e123 hown113 (wd_179 hw) (wd_119 hw) (wd_121 hw) (notFace_of_selects (args := #[]) (mvT hZ113 (wd_121 hw))) (wd_120 hw) (wd_122 hw) (wd_33 hw) (by decide) (hb hby at_144) 0 (by decide) (by decide) (by decide) (by decide) (by rw [hml]; rfl) b113_0 f122 [] [] rfl (lenOf pd_8 rfl) rfl (Nat.le_of_eq rfl) (Ls := #[.val (.int p0), .val (.int p1), .val (.int p2), .val (.int p3), .val (.int ch1), .val (.int ch2), .val (.int ch3), .val (.int (2 : Int32)), .val (.ref b86), .val (.ref b113_0), .val (.ref b117_0)])
    obtain ⟨rfl, M126, e126⟩ := Q126
    have N126 := Fr.app N123 M126
    refine Rch.go st126 ?_
    show Rch p e below _ (T126.setTop (mkF m 147 #[.val (.int p0), .val (.int p1), .val (.int p2), .val (.int p3), .val (.int ch1), .val (.int ch2), .val (.int ch3), .val (.int (2 : Int32)), .val (.ref b86), .val (.ref b113_0), .val (.ref b117_0)] [(.int (1 : Int32))]))
    refine Rch.go (fun t k => XS.ifNo X126.here hx rfl (hb hby at_147) rfl (by decide) k) ?_
    show Rch p e below _ (T126.setTop (mkF m 150 #[.val (.int p0), .val (.int p1), .val (.int p2), .val (.int p3), .val (.int ch1), .val (.int ch2), .val (.int ch3), .val (.int (2 : Int32)), .val (.ref b86), .val (.ref b113_0), .val (.ref b117_0)] []))
    refine Rch.go (fun t k => XS.aload X126.here hx rfl (hb hby at_150) rfl rfl k) ?_
    show Rch p e below _ (T126.setTop (mkF m 152 #[.val (.int p0), .val (.int p1), .val (.int p2), .val (.int p3), .val (.int ch1), .val (.int ch2), .val (.int ch3), .val (.int (2 : Int32)), .val (.ref b86), .val (.ref b113_0), .val (.ref b117_0)] [(.ref b113_0)]))
    obtain ⟨v127, T127, L127, X127, Q127, st127⟩ := callVi X126 hx hZ113 (m28_children l Z a0 hw b113_0 ro0 T117.heap n0 z118 o119 f125) e126 hown113 (wd_180 hw) (wd_181 hw) (wd_183 hw) (notFace_of_selects (args := #[]) (mvT hZ113 (wd_183 hw))) (wd_182 hw) (wd_184 hw) (wd_33 hw) (by decide) (hb hby at_152) 0 (by decide) (by decide) (by decide) (by decide) (by rw [hml]; rfl) b113_0 f122 [] [] rfl (lenOf pd_5 rfl) rfl (Nat.le_of_eq rfl) (Ls := #[.val (.int p0), .val (.int p1), .val (.int p2), .val (.int p3), .val (.int ch1), .val (.int ch2), .val (.int ch3), .val (.int (2 : Int32)), .val (.ref b86), .val (.ref b113_0), .val (.ref b117_0)])
    obtain ⟨rfl, M127, e127⟩ := Q127
    have N127 := Fr.app N126 M127
    refine Rch.go st127 ?_
    show Rch p e below _ (T127.setTop (mkF m 155 #[.val (.int p0), .val (.int p1), .val (.int p2), .val (.int p3), .val (.int ch1), .val (.int ch2), .val (.int ch3), .val (.int (2 : Int32)), .val (.ref b86), .val (.ref b113_0), .val (.ref b117_0)] [(.ref ro0)]))
    obtain ⟨v128, T128, L128, X128, Q128, st128⟩ := callIf X127 hx hZ113 (m29_size l Z a0 hw ro0 ro1 kk_ro1 T117.heap n0 z118 o119 G.2.2.1 G.2.2.2.2.2.2.2.2.2.2.2.1) e127 hown113 (wd_185 hw) (wd_186 hw) (wd_187 hw) (wd_188 hw) (wd_189 hw) (wd_190 hw) (wd_191 hw) (wd_81 hw) (wd_192 hw) (wd_130 hw) (by decide) (hb hby at_155) 0 (by decide) (by decide) (by decide) (by decide) (by rw [hml]; rfl) ro0 (G.2.1.ext o119.2) [] [] rfl (lenOf pd_19 rfl) rfl (Nat.le_of_eq rfl) (Ls := #[.val (.int p0), .val (.int p1), .val (.int p2), .val (.int p3), .val (.int ch1), .val (.int ch2), .val (.int ch3), .val (.int (2 : Int32)), .val (.ref b86), .val (.ref b113_0), .val (.ref b117_0)])
    obtain ⟨rfl, M128, e128⟩ := Q128
    have N128 := Fr.app N127 M128
    refine Rch.go st128 ?_
    show Rch p e below _ (T128.setTop (mkF m 160 #[.val (.int p0), .val (.int p1), .val (.int p2), .val (.int p3), .val (.int ch1), .val (.int ch2), .val (.int ch3), .val (.int (2 : Int32)), .val (.ref b86), .val (.ref b113_0), .val (.ref b117_0)] [(.int (0 : Int32))]))
    refine Rch.go (fun t k => XS.ifNo X128.here hx rfl (hb hby at_160) rfl (by decide) k) ?_
    show Rch p e below _ (T128.setTop (mkF m 163 #[.val (.int p0), .val (.int p1), .val (.int p2), .val (.int p3), .val (.int ch1), .val (.int ch2), .val (.int ch3), .val (.int (2 : Int32)), .val (.ref b86), .val (.ref b113_0), .val (.ref b117_0)] []))
    refine Rch.go (fun t k => XS.aload X128.here hx rfl (hb hby at_163) rfl rfl k) ?_
    show Rch p e below _ (T128.setTop (mkF m 165 #[.val (.int p0), .val (.int p1), .val (.int p2), .val (.int p3), .val (.int ch1), .val (.int ch2), .val (.int ch3), .val (.int (2 : Int32)), .val (.ref b86), .val (.ref b113_0), .val (.ref b117_0)] [(.ref b117_0)]))
    obtain ⟨v129, T129, L129, X129, Q129, st129⟩ := callIf X128 hx hZ113 (m30_size l Z a0 hw b117_0 T117.heap n0 z118 o119 F117_4) e128 hown113 (wd_185 hw) (wd_186 hw) (wd_187 hw) (wd_193 hw) (wd_194 hw) (wd_195 hw) (wd_196 hw) (wd_141 hw) (wd_197 hw) (wd_93 hw) (by decide) (hb hby at_165) 0 (by decide) (by decide) (by decide) (by decide) (by rw [hml]; rfl) b117_0 F117_0 [] [] rfl (lenOf pd_19 rfl) rfl (Nat.le_of_eq rfl) (Ls := #[.val (.int p0), .val (.int p1), .val (.int p2), .val (.int p3), .val (.int ch1), .val (.int ch2), .val (.int ch3), .val (.int (2 : Int32)), .val (.ref b86), .val (.ref b113_0), .val (.ref b117_0)])
    obtain ⟨rfl, M129, e129⟩ := Q129
    have N129 := Fr.app N128 M129
    refine Rch.go st129 ?_
    show Rch p e below _ (T129.setTop (mkF m 170 #[.val (.int p0), .val (.int p1), .val (.int p2), .val (.int p3), .val (.int ch1), .val (.int ch2), .val (.int ch3), .val (.int (2 : Int32)), .val (.ref b86), .val (.ref b113_0), .val (.ref b117_0)] [(.int (1 : Int32))]))
    refine Rch.go (fun t k => XS.iconst X129.here hx rfl (hb hby at_170) k) ?_
    show Rch p e below _ (T129.setTop (mkF m 171 #[.val (.int p0), .val (.int p1), .val (.int p2), .val (.int p3), .val (.int ch1), .val (.int ch2), .val (.int ch3), .val (.int (2 : Int32)), .val (.ref b86), .val (.ref b113_0), .val (.ref b117_0)] [(.int (1 : Int32)), (.int (1 : Int32))]))
    refine Rch.go (fun t k => XS.icmpNo X129.here hx rfl (hb hby at_171) rfl (by decide) k) ?_
    show Rch p e below _ (T129.setTop (mkF m 174 #[.val (.int p0), .val (.int p1), .val (.int p2), .val (.int p3), .val (.int ch1), .val (.int ch2), .val (.int ch3), .val (.int (2 : Int32)), .val (.ref b86), .val (.ref b113_0), .val (.ref b117_0)] []))
    refine Rch.go (fun t k => XS.aload X129.here hx rfl (hb hby at_174) rfl rfl k) ?_
    show Rch p e below _ (T129.setTop (mkF m 176 #[.val (.int p0), .val (.int p1), .val (.int p2), .val (.int p3), .val (.int ch1), .val (.int ch2), .val (.int ch3), .val (.int (2 : Int32)), .val (.ref b86), .val (.ref b113_0), .val (.ref b117_0)] [(.ref b117_0)]))
    refine Rch.go (fun t k => XS.iconst X129.here hx rfl (hb hby at_176) k) ?_
    show Rch p e below _ (T129.setTop (mkF m 177 #[.val (.int p0), .val (.int p1), .val (.int p2), .val (.int p3), .val (.int ch1), .val (.int ch2), .val (.int ch3), .val (.int (2 : Int32)), .val (.ref b86), .val (.ref b113_0), .val (.ref b117_0)] [(.int (0 : Int32)), (.ref b117_0)]))
    obtain ⟨v130, T130, L130, X130, Q130, st130⟩ := callIf X129 hx hZ113 (m31_get l Z a0 hw b117_0 b117_1 k117_0 b86 T117.heap n0 z118 o119 F117_4 F117_0 F117_1 O117_0 F117_3) e129 hown113 (wd_198 hw) (wd_199 hw) (wd_200 hw) (wd_201 hw) (wd_202 hw) (wd_203 hw) (wd_204 hw) (wd_141 hw) (wd_205 hw) (wd_93 hw) (by decide) (hb hby at_177) 0 (by decide) (by decide) (by decide) (by decide) (by rw [hml]; rfl) b117_0 F117_0 [(.int (0 : Int32))] [] rfl (lenOf pd_21 rfl) rfl (Nat.le_of_eq rfl) (Ls := #[.val (.int p0), .val (.int p1), .val (.int p2), .val (.int p3), .val (.int ch1), .val (.int ch2), .val (.int ch3), .val (.int (2 : Int32)), .val (.ref b86), .val (.ref b113_0), .val (.ref b117_0)])
    obtain ⟨rfl, M130, e130⟩ := Q130
    have N130 := Fr.app N129 M130
    refine Rch.go st130 ?_
    show Rch p e below _ (T130.setTop (mkF m 182 #[.val (.int p0), .val (.int p1), .val (.int p2), .val (.int p3), .val (.int ch1), .val (.int ch2), .val (.int ch3), .val (.int (2 : Int32)), .val (.ref b86), .val (.ref b113_0), .val (.ref b117_0)] [(.ref b86)]))
    obtain ⟨T131, X131, e131, st131⟩ := castY X130 hx hZ113 hown113 (wd_1 hw) e130 (Ins.self f124) (g := (mkF m 182 #[.val (.int p0), .val (.int p1), .val (.int p2), .val (.int p3), .val (.int ch1), .val (.int ch2), .val (.int ch3), .val (.int (2 : Int32)), .val (.ref b86), .val (.ref b113_0), .val (.ref b117_0)] [(.ref b86)])) rfl rfl (hb hby at_182)
    refine Rch.go st131 ?_
    show Rch p e below _ (T131.setTop (mkF m 185 #[.val (.int p0), .val (.int p1), .val (.int p2), .val (.int p3), .val (.int ch1), .val (.int ch2), .val (.int ch3), .val (.int (2 : Int32)), .val (.ref b86), .val (.ref b113_0), .val (.ref b117_0)] [(.ref b86)]))
    refine Rch.go (fun t k => XS.aload X131.here hx rfl (hb hby at_185) rfl rfl k) ?_
    show Rch p e below _ (T131.setTop (mkF m 187 #[.val (.int p0), .val (.int p1), .val (.int p2), .val (.int p3), .val (.int ch1), .val (.int ch2), .val (.int ch3), .val (.int (2 : Int32)), .val (.ref b86), .val (.ref b113_0), .val (.ref b117_0)] [(.ref b86), (.ref b86)]))
    obtain ⟨v132, T132, L132, X132, Q132, st132⟩ := callVi X131 hx hZ113 (m27_equals l Z a0 hw b86 T117.heap n0 z118 o119 ) e131 hown113 (wd_174 hw) (wd_175 hw) (wd_177 hw) (notFace_of_selects (args := #[]) (mvT hZ113 (wd_177 hw))) (wd_176 hw) (wd_178 hw) (wd_3 hw) (by decide) (hb hby at_187) 0 (by decide) (by decide) (by decide) (by decide) (by rw [hml]; rfl) b86 f124 [(.ref b86)] [] rfl (lenOf pd_16 rfl) rfl (Nat.le_of_eq rfl) (Ls := #[.val (.int p0), .val (.int p1), .val (.int p2), .val (.int p3), .val (.int ch1), .val (.int ch2), .val (.int ch3), .val (.int (2 : Int32)), .val (.ref b86), .val (.ref b113_0), .val (.ref b117_0)])
    obtain ⟨rfl, M132, e132⟩ := Q132
    have N132 := Fr.app N130 M132
    refine Rch.go st132 ?_
    show Rch p e below _ (T132.setTop (mkF m 190 #[.val (.int p0), .val (.int p1), .val (.int p2), .val (.int p3), .val (.int ch1), .val (.int ch2), .val (.int ch3), .val (.int (2 : Int32)), .val (.ref b86), .val (.ref b113_0), .val (.ref b117_0)] [(.int (1 : Int32))]))
    refine Rch.go (fun t k => XS.ifNo X132.here hx rfl (hb hby at_190) rfl (by decide) k) ?_
    show Rch p e below _ (T132.setTop (mkF m 193 #[.val (.int p0), .val (.int p1), .val (.int p2), .val (.int p3), .val (.int ch1), .val (.int ch2), .val (.int ch3), .val (.int (2 : Int32)), .val (.ref b86), .val (.ref b113_0), .val (.ref b117_0)] []))
    refine Rch.go (fun t k => XS.iconst X132.here hx rfl (hb hby at_193) k) ?_
    show Rch p e below _ (T132.setTop (mkF m 194 #[.val (.int p0), .val (.int p1), .val (.int p2), .val (.int p3), .val (.int ch1), .val (.int ch2), .val (.int ch3), .val (.int (2 : Int32)), .val (.ref b86), .val (.ref b113_0), .val (.ref b117_0)] [(.int (1 : Int32))]))
    refine Rch.go (fun t k => XS.goto X132.here hx rfl (pc0 := 194) (pc' := 198) rfl (hb hby at_194) (by decide) (by decide) k) ?_
    show Rch p e below _ (T132.setTop (mkF m 198 #[.val (.int p0), .val (.int p1), .val (.int p2), .val (.int p3), .val (.int ch1), .val (.int ch2), .val (.int ch3), .val (.int (2 : Int32)), .val (.ref b86), .val (.ref b113_0), .val (.ref b117_0)] [(.int (1 : Int32))]))
    refine Rch.valW X132 hx Y113 e132 (Nat.le_trans (Nat.le_refl _) K117.1) (t := .boolean) hret hlk rfl (mayI (by simp)) (hb hby at_198) (by decide) (by decide) ?_
    exact ⟨rfl, N132⟩
set_option maxRecDepth 65536 in
set_option maxHeartbeats 40000000 in
theorem comes_1 {Post : Tables → Env → Array Value → State → Outcome → State → Prop} (hpost : ∀ tb e args s v u, (limb_1_1.after args s (.returned v) u = true ∧ limb_1_2.after args s (.returned v) u = true ∧ True) → ReturnedEndW s (.returned v) u (Jvm.fieldLocs frame_1_writes args s ++ Jvm.arrayLocs frame_1_arrays args s ++ Jvm.staticLocs frame_1_statics s) 24 1152 → Post tb e args s (.returned v) u) :
    ArmFor flags0 classFile x code maxLocals ret World_1 tables_1 room_1 Calls_1 rest_1 Pre_1 Post := by
  intro l hfl _ _ p e ha hc hk s m args below hf hA hF happ hP
  obtain ⟨hcalls, hrest, hpre⟩ := hP
  obtain ⟨-, -, -, hnamed, -, -, -, hat⟩ := (Spec.applies_iff hf).mp happ
  obtain ⟨hg, hn⟩ := and_e (Cond.before_iff.mp (show (Jvm.Cond.and given_1 narrow_1).before args s = true from hpre))
  obtain ⟨gv0, hg⟩ := and_e hg
  obtain ⟨gv1, hg⟩ := and_e hg
  obtain ⟨gv2, hg⟩ := and_e hg
  obtain ⟨gv3, hg⟩ := and_e hg
  have gv4 := hg
  obtain ⟨w0, w1, w2, w3, rfl⟩ : ∃ w0 w1 w2 w3 : Value, args = #[w0, w1, w2, w3] := by
    have hs : args.size = 4 := by simpa [Cond.value, given_1] using gv0
    obtain ⟨L⟩ := args
    match L, hs with
    | [w0, w1, w2, w3], _ => exact ⟨w0, w1, w2, w3, rfl⟩
  have hw := fun d (hd : d ∈ tables_1) => atoms_spec (ws := Jvm.Cond.code x code maxLocals ret :: tables_1) hat d (List.mem_cons_of_mem _ hd)
  have hfit : Fit s := fun {y c} hc i hi => by
    obtain ⟨ha, rfl⟩ := Array.getElem?_eq_some_iff.mp hc
    have q := List.all_eq_true.mp ((Array.all_eq_true_iff_forall_mem.mp hF) _ (Array.getElem_mem ha)) i (List.mem_range.mpr hi)
    simpa [Array.getElem?_eq_getElem hi] using q
  obtain ⟨i0, ei0⟩ := is_v gv1
  obtain rfl : w0 = (.int i0) := Option.some.inj ei0
  obtain ⟨i1, ei1⟩ := is_v gv2
  obtain rfl : w1 = (.int i1) := Option.some.inj ei1
  obtain ⟨i2, ei2⟩ := is_v gv3
  obtain rfl : w2 = (.int i2) := Option.some.inj ei2
  obtain ⟨i3, ei3⟩ := is_v gv4
  obtain rfl : w3 = (.int i3) := Option.some.inj ei3
  obtain ⟨hsets, hown0⟩ := atoms_of _ (rest_1_c_eq ▸ (show rest_1_c.before _ s = true from hrest))
  obtain ⟨ro0, ev_ro0⟩ := exa_v (Cond.before_iff.mp (hsets _ (List.mem_of_getElem? (i := 11) rfl)))
  obtain ⟨ro1, ev_ro1⟩ := arr_v (Cond.before_iff.mp (hsets _ (List.mem_of_getElem? (i := 12) rfl)))
  obtain ⟨ro2, ev_ro2⟩ := arr_v (Cond.before_iff.mp (hsets _ (List.mem_of_getElem? (i := 19) rfl)))
  obtain ⟨ro3, ev_ro3⟩ := arr_v (Cond.before_iff.mp (hsets _ (List.mem_of_getElem? (i := 22) rfl)))
  obtain ⟨ww4, ev_ww4⟩ := is_v (Cond.before_iff.mp (hsets _ (List.mem_of_getElem? (i := 1) rfl)))
  obtain ⟨ww5, ev_ww5, rf_ww5⟩ := isR_v (Cond.before_iff.mp (hsets _ (List.mem_of_getElem? (i := 8) rfl)))
  have ev_6 := own_eqI (Cond.before_iff.mp (hsets _ (List.mem_of_getElem? (i := 15) rfl)))
  obtain ⟨cl_ro1, ar_ro1, sz_ro1, le_ro1⟩ := own_len ev_ro1 (Cond.before_iff.mp (hsets _ (List.mem_of_getElem? (i := 12) rfl))) (Cond.before_iff.mp (hsets _ (List.mem_of_getElem? (i := 14) rfl)))
  obtain ⟨kk_ro1, q_ro1⟩ : ∃ z, z = cl_ro1.cls := ⟨_, rfl⟩
  obtain ⟨cl_ro2, ar_ro2, sz_ro2, le_ro2⟩ := own_len ev_ro2 (Cond.before_iff.mp (hsets _ (List.mem_of_getElem? (i := 19) rfl))) (Cond.before_iff.mp (hsets _ (List.mem_of_getElem? (i := 21) rfl)))
  obtain ⟨kk_ro2, q_ro2⟩ : ∃ z, z = cl_ro2.cls := ⟨_, rfl⟩
  obtain ⟨cl_ro3, ar_ro3, sz_ro3, le_ro3⟩ := own_len ev_ro3 (Cond.before_iff.mp (hsets _ (List.mem_of_getElem? (i := 22) rfl))) (Cond.before_iff.mp (hsets _ (List.mem_of_getElem? (i := 24) rfl)))
  obtain ⟨kk_ro3, q_ro3⟩ : ∃ z, z = cl_ro3.cls := ⟨_, rfl⟩
  have G : Olds s ro0 ro1 ro2 ro3 ww4 ww5 kk_ro1 kk_ro2 kk_ro3 := ⟨(Sta.start ev_ro0 (Or.inl (((hsets _ (List.mem_of_getElem? (i := 10) rfl)))))), (Exa.start ev_ro0 (Cond.before_iff.mp (hsets _ (List.mem_of_getElem? (i := 11) rfl)))), (own_fldV ev_ro0 ev_ro1), (Exa.start ev_ro1 (Cond.before_iff.mp (hsets _ (List.mem_of_getElem? (i := 13) rfl)))), (Sta.start ev_ro2 (Or.inl (((hsets _ (List.mem_of_getElem? (i := 17) rfl)))))), (Exa.start ev_ro2 (Cond.before_iff.mp (hsets _ (List.mem_of_getElem? (i := 20) rfl)))), (Sta.start ev_ro3 (Or.inr ⟨(wd_93 hw), ((hsets _ (List.mem_of_getElem? (i := 18) rfl)))⟩)), (Exa.start ev_ro3 (Cond.before_iff.mp (hsets _ (List.mem_of_getElem? (i := 23) rfl)))), (Sta.start ev_ww4 (Or.inl (((hsets _ (List.mem_of_getElem? (i := 0) rfl)))))), (Sta.start ev_ww5 (Or.inl (((hsets _ (List.mem_of_getElem? (i := 7) rfl)))))), (own_fldV ev_ro0 ev_6), (q_ro1 ▸ Arv.start hfit ar_ro1 sz_ro1 le_ro1 (by decide) (by decide) trivial), (q_ro2 ▸ Arv.start hfit ar_ro2 sz_ro2 le_ro2 (by decide) (by decide) trivial), (q_ro3 ▸ Arv.start hfit ar_ro3 sz_ro3 le_ro3 (by decide) (by decide) trivial), (own_neI ev_ww4 (Cond.before_iff.mp (hsets _ (List.mem_of_getElem? (i := 2) rfl)))), (rf_ww5)⟩
  obtain ⟨n, o, h1, h2, h3, _, L, rfl, ⟨rfl, N⟩, hq⟩ := law_1 l s _ hw i0 i1 i2 i3 ro0 ro1 ro2 ro3 ww4 ww5 kk_ro1 kk_ro2 kk_ro3 s.heap s.heap.size (Nat.le_refl _) (Old.start s) G p e ha hc hk s m _ below hf ((Spec.applies_iff_loose hf).mp happ).1 ⟨rfl, State.Warmed39.refl s, rfl⟩ trivial
  refine ⟨n, _, h1, h2, h3, hpost _ _ _ _ _ _ ⟨Cond.after_iff.mpr rfl, Cond.after_iff.mpr (eq_i res_at (Term.int_eval (1)) rfl), trivial⟩ ⟨hq.1, hq.2.1, hq.2.2.1, (hq.2.2.2.sift fun y hy => Or.inr (N y hy)).mono (by decide) (by decide)⟩⟩
theorem main_1_1 : Claimed_1_1 := comes_1 fun _ _ _ _ _ _ h hF => ⟨h.1, hF⟩
theorem main_1_2 : Claimed_1_2 := comes_1 fun _ _ _ _ _ _ h hF => ⟨h.2.1, hF⟩
end Jvm.Pilot.@@N@@
namespace Jvm.Pilot.@@N@@
open Jvm Jvm.ClassFile Sem Op Lib Jvm.Free Jvm.Stand Jvm.Pilot.@@N@@.Jvm.D
/-! MADE BY PROGRAM (witnessworld.py) out of the Statement's table words and the real class files: 37 classes; the members and pool entries that the words name. The judged class is class 1, her method 1. -/
namespace start1
open Jvm.ClassFile
def u (s : String) : CpInfo := .utf8 (stringToUtf16 s)
/-- a pool by its gaps: so many unusable entries, then the entry; so many at the end -/
def gap : Nat → List CpInfo → List CpInfo
  | 0, r => r
  | n + 1, r => .unusable :: gap n r
def poolList (es : List (Nat × CpInfo)) (last : Nat) : List CpInfo := es.foldr (fun e r => gap e.1 (e.2 :: r)) (gap last [])
def pool (es : List (Nat × CpInfo)) (last : Nat) : Array CpInfo := ⟨poolList es last⟩
def fileOf (pool : Array CpInfo) (this : Nat) (attrs : Array Attribute := #[]) (ms : Array MethodInfo := #[]) (fl : Nat := 33) (sup : Nat := 0) (ifs : Array Nat := #[]) (fds : Array FieldInfo := #[]) : ClassFile where
  minorVersion := 0
  majorVersion := 65
  constantPool := pool
  accessFlags := fl
  thisClass := this
  superClass := sup
  interfaces := ifs
  fields := fds
  methods := ms
  attributes := attrs
def plain (name : String) (sup : Option ClassId) : Class where
  name := name
  kind := .ordinary
  loader := none
  accessFlags := 33
  super := sup
  interfaces := #[]
  cf := none
  fields := #[]
  methods := #[]
  instanceTypes := #[]
  staticTypes := #[]
  resolved := #[]
  callSites := []
  init := .initialized
  statics := none
  mirror := none

def pool0 : Array CpInfo := pool [(5, u "<init>"), (0, u "()V"), (1, .class_ 10), (1, u "java/lang/Object")] 113

def k0c0 : Code := { maxStack := 0, maxLocals := 1, code := object_method_1_code, exceptionTable := #[], attributes := #[] }
def k0m0 : Method := { name := "<init>", desc := "()V", sig := { parameters := [], returnType := none }, accessFlags := 1, code := some k0c0 }
/-- java/lang/Object -/
def k0 : Class := { plain "java/lang/Object" none with
  accessFlags := 33
  interfaces := #[]
  cf := some (fileOf pool0 8 #[] #[{ accessFlags := 1, nameIndex := 5, descriptorIndex := 6, attributes := #[] }] 33 0 #[] #[])
  fields := #[]
  methods := #[k0m0]
  instanceTypes := #[]
  staticTypes := #[]
  resolved := Array.replicate 124 none
  statics := none }

def pool1 : Array CpInfo := pool [(2, .class_ 4), (1, u "java/lang/Object"), (0, u "<init>"), (0, u "()V"), (0, .integer 2147483647), (0, .class_ 9), (0, u "java/lang/String"), (0, .methodref 8 11), (0, .nameAndType 5 12), (0, u "([C)V"), (0, .methodref 14 15), (0, .class_ 16), (0, .nameAndType 17 18), (0, u "com/example/harpocrates/harpocrates/data/Taxonomy"), (0, u "leaf"), (0, u "(Ljava/lang/String;)Lcom/example/harpocrates/harpocrates/data/Taxonomy;"), (0, .methodref 14 20), (0, .nameAndType 21 22), (0, u "leaves"), (0, u "()Ljava/util/List;"), (0, .methodref 14 24), (0, .nameAndType 25 26), (0, u "value"), (0, u "()Ljava/lang/String;"), (0, .methodref 8 28), (0, .nameAndType 29 30), (0, u "equals"), (0, u "(Ljava/lang/Object;)Z"), (0, .methodref 14 32), (0, .nameAndType 33 34), (0, u "isLeaf"), (0, u "()Z"), (0, .methodref 14 36), (0, .nameAndType 37 22), (0, u "children"), (0, .interfaceMethodref 39 40), (0, .class_ 41), (0, .nameAndType 42 43), (0, u "java/util/List"), (0, u "size"), (0, u "()I"), (0, .interfaceMethodref 39 45), (0, .nameAndType 46 47), (0, u "get"), (0, u "(I)Ljava/lang/Object;"), (0, .class_ 49), (0, u "com/example/harpocrates/harpocrates/data/TaxonomyLeafPinLaw"), (2, u "law"), (0, u "(IIII)Z")] 3

def k1m0 : Method := { name := "<init>", desc := "()V", sig := { parameters := [], returnType := none }, accessFlags := 1, code := none }
def k1c1 : Code := { maxStack := 6, maxLocals := 11, code := code, exceptionTable := #[], attributes := #[] }
def k1m1 : Method := { name := "law", desc := "(IIII)Z", sig := { parameters := [.int, .int, .int, .int], returnType := some .boolean }, accessFlags := 9, code := some k1c1 }
/-- com/example/harpocrates/harpocrates/data/TaxonomyLeafPinLaw -/
def k1 : Class := { plain "com/example/harpocrates/harpocrates/data/TaxonomyLeafPinLaw" (some 0) with
  accessFlags := 49
  interfaces := #[]
  cf := some (fileOf pool1 48 #[] #[{ accessFlags := 1, nameIndex := 5, descriptorIndex := 6, attributes := #[] }, { accessFlags := 9, nameIndex := 52, descriptorIndex := 53, attributes := #[] }] 49 2 #[] #[])
  fields := #[]
  methods := #[k1m0, k1m1]
  instanceTypes := #[]
  staticTypes := #[]
  resolved := Array.replicate 57 none
  statics := none }

def pool2 : Array CpInfo := pool [(1, .class_ 2), (0, u "java/io/Serializable"), (0, .class_ 4), (0, u "java/lang/Object")] 2

/-- java/io/Serializable -/
def k2 : Class := { plain "java/io/Serializable" (some 0) with
  accessFlags := 1537
  interfaces := #[]
  cf := some (fileOf pool2 1 #[] #[] 1537 3 #[] #[])
  fields := #[]
  methods := #[]
  instanceTypes := #[]
  staticTypes := #[]
  resolved := Array.replicate 7 none
  statics := none }

def pool3 : Array CpInfo := pool [(1, .class_ 2), (0, u "java/lang/Comparable"), (0, .class_ 4), (0, u "java/lang/Object")] 7

/-- java/lang/Comparable -/
def k3 : Class := { plain "java/lang/Comparable" (some 0) with
  accessFlags := 1537
  interfaces := #[]
  cf := some (fileOf pool3 1 #[] #[] 1537 3 #[] #[])
  fields := #[]
  methods := #[]
  instanceTypes := #[]
  staticTypes := #[]
  resolved := Array.replicate 12 none
  statics := none }

def pool4 : Array CpInfo := pool [(2, .class_ 4), (1, u "java/lang/CharSequence"), (42, .class_ 48), (0, u "java/lang/CharSequence$1CodePointIterator"), (10, .class_ 60), (0, u "java/lang/CharSequence$1CharIterator"), (5, .class_ 67), (0, u "java/lang/Object")] 63

/-- java/lang/CharSequence -/
def k4 : Class := { plain "java/lang/CharSequence" (some 0) with
  accessFlags := 1537
  interfaces := #[]
  cf := some (fileOf pool4 2 #[.nestMembers #[47, 59]] #[] 1537 66 #[] #[])
  fields := #[]
  methods := #[]
  instanceTypes := #[]
  staticTypes := #[]
  resolved := Array.replicate 131 none
  statics := none }

def pool5 : Array CpInfo := pool [(1, .class_ 2), (0, u "java/lang/constant/Constable"), (0, .class_ 4), (0, u "java/lang/Object")] 6

/-- java/lang/constant/Constable -/
def k5 : Class := { plain "java/lang/constant/Constable" (some 0) with
  accessFlags := 1537
  interfaces := #[]
  cf := some (fileOf pool5 1 #[] #[] 1537 3 #[] #[])
  fields := #[]
  methods := #[]
  instanceTypes := #[]
  staticTypes := #[]
  resolved := Array.replicate 11 none
  statics := none }

def pool6 : Array CpInfo := pool [(1, .class_ 2), (0, u "java/lang/constant/ConstantDesc"), (0, .class_ 4), (0, u "java/lang/Object")] 32

/-- java/lang/constant/ConstantDesc -/
def k6 : Class := { plain "java/lang/constant/ConstantDesc" (some 0) with
  accessFlags := 1537
  interfaces := #[]
  cf := some (fileOf pool6 1 #[] #[] 1537 3 #[] #[])
  fields := #[]
  methods := #[]
  instanceTypes := #[]
  staticTypes := #[]
  resolved := Array.replicate 37 none
  statics := none }

def pool7 : Array CpInfo := pool [(1, .methodref 2 3), (0, .class_ 4), (0, .nameAndType 5 6), (0, u "java/lang/Object"), (0, u "<init>"), (0, u "()V"), (2, .fieldref 10 11), (0, .class_ 12), (0, .nameAndType 13 14), (0, u "java/lang/String"), (0, u "value"), (0, u "[B"), (0, .fieldref 10 16), (0, .nameAndType 17 18), (0, u "coder"), (0, u "B"), (2, u "hash"), (0, u "I"), (2, u "hashIsZero"), (0, u "Z"), (0, .methodref 10 28), (0, .nameAndType 5 29), (0, u "([CIILjava/lang/Void;)V"), (8, .fieldref 10 39), (0, .nameAndType 40 26), (0, u "COMPACT_STRINGS"), (1, .class_ 44), (1, u "java/lang/StringUTF16"), (0, u "compress"), (1, .methodref 42 48), (0, .nameAndType 49 50), (0, u "coderFromArrayLen"), (0, u "([BI)B"), (91, u "()Z"), (34, .methodref 42 178), (0, .nameAndType 45 179), (0, u "([CII)[B"), (363, u "equals"), (29, u "(Ljava/lang/Object;)Z"), (1, .class_ 576), (0, u "java/lang/CharSequence"), (22, u "CASE_INSENSITIVE_ORDER"), (0, u "Ljava/util/Comparator;"), (91, u "isEmpty"), (317, u "([C)V"), (90, u "serialPersistentFields"), (0, u "[Ljava/io/ObjectStreamField;"), (0, .class_ 1104), (0, u "java/lang/String$CaseInsensitiveComparator"), (1, .class_ 1107), (0, u "java/io/Serializable"), (0, .class_ 1109), (0, u "java/lang/Comparable"), (0, .class_ 1111), (0, u "java/lang/constant/Constable"), (0, .class_ 1113), (0, u "java/lang/constant/ConstantDesc"), (2, u "serialVersionUID"), (0, u "J"), (3, u "REPL"), (0, u "C"), (2, u "LATIN1"), (1, u "UTF16")] 323

def k7m0 : Method := { name := "<init>", desc := "()V", sig := { parameters := [], returnType := none }, accessFlags := 1, code := none }
def k7c1 : Code := { maxStack := 5, maxLocals := 2, code := jdk_42_method_3_code, exceptionTable := #[], attributes := #[] }
def k7m1 : Method := { name := "<init>", desc := "([C)V", sig := { parameters := [(.array .char)], returnType := none }, accessFlags := 1, code := some k7c1 }
def k7c2 : Code := { maxStack := 1, maxLocals := 1, code := jdk_42_method_55_code, exceptionTable := #[], attributes := #[] }
def k7m2 : Method := { name := "isEmpty", desc := "()Z", sig := { parameters := [], returnType := some .boolean }, accessFlags := 1, code := some k7c2 }
def k7c3 : Code := { maxStack := 2, maxLocals := 3, code := jdk_42_method_66_code, exceptionTable := #[], attributes := #[] }
def k7m3 : Method := { name := "equals", desc := "(Ljava/lang/Object;)Z", sig := { parameters := [(.object "java/lang/Object")], returnType := some .boolean }, accessFlags := 1, code := some k7c3 }
def k7c4 : Code := { maxStack := 4, maxLocals := 6, code := jdk_42_method_149_code, exceptionTable := #[], attributes := #[] }
def k7m4 : Method := { name := "<init>", desc := "([CIILjava/lang/Void;)V", sig := { parameters := [(.array .char), .int, .int, (.object "java/lang/Void")], returnType := none }, accessFlags := 2, code := some k7c4 }
/-- java/lang/String -/
def k7 : Class := { plain "java/lang/String" (some 0) with
  accessFlags := 49
  interfaces := #[2, 3, 4, 5, 6]
  cf := some (fileOf pool7 10 #[.nestMembers #[1103]] #[{ accessFlags := 1, nameIndex := 5, descriptorIndex := 6, attributes := #[] }, { accessFlags := 1, nameIndex := 5, descriptorIndex := 1010, attributes := #[] }, { accessFlags := 1, nameIndex := 692, descriptorIndex := 142, attributes := #[] }, { accessFlags := 1, nameIndex := 543, descriptorIndex := 573, attributes := #[] }, { accessFlags := 2, nameIndex := 5, descriptorIndex := 29, attributes := #[] }] 49 2 #[1106, 1108, 575, 1110, 1112] #[{ accessFlags := 18, nameIndex := 13, descriptorIndex := 14, attributes := #[] }, { accessFlags := 18, nameIndex := 17, descriptorIndex := 18, attributes := #[] }, { accessFlags := 2, nameIndex := 21, descriptorIndex := 22, attributes := #[] }, { accessFlags := 2, nameIndex := 25, descriptorIndex := 26, attributes := #[] }, { accessFlags := 26, nameIndex := 1116, descriptorIndex := 1117, attributes := #[] }, { accessFlags := 24, nameIndex := 40, descriptorIndex := 26, attributes := #[] }, { accessFlags := 26, nameIndex := 1101, descriptorIndex := 1102, attributes := #[] }, { accessFlags := 26, nameIndex := 1121, descriptorIndex := 1122, attributes := #[] }, { accessFlags := 25, nameIndex := 599, descriptorIndex := 600, attributes := #[] }, { accessFlags := 24, nameIndex := 1125, descriptorIndex := 18, attributes := #[] }, { accessFlags := 24, nameIndex := 1127, descriptorIndex := 18, attributes := #[] }])
  fields := #[{ name := "value", type := (.array .byte), accessFlags := 18, slot := 0, constantValue := 0 }, { name := "coder", type := .byte, accessFlags := 18, slot := 1, constantValue := 0 }, { name := "hash", type := .int, accessFlags := 2, slot := 2, constantValue := 0 }, { name := "hashIsZero", type := .boolean, accessFlags := 2, slot := 3, constantValue := 0 }, { name := "serialVersionUID", type := .long, accessFlags := 26, slot := 0, constantValue := 0 }, { name := "COMPACT_STRINGS", type := .boolean, accessFlags := 24, slot := 1, constantValue := 0 }, { name := "serialPersistentFields", type := (.array (.object "java/io/ObjectStreamField")), accessFlags := 26, slot := 2, constantValue := 0 }, { name := "REPL", type := .char, accessFlags := 26, slot := 3, constantValue := 0 }, { name := "CASE_INSENSITIVE_ORDER", type := (.object "java/util/Comparator"), accessFlags := 25, slot := 4, constantValue := 0 }, { name := "LATIN1", type := .byte, accessFlags := 24, slot := 5, constantValue := 0 }, { name := "UTF16", type := .byte, accessFlags := 24, slot := 6, constantValue := 0 }]
  methods := #[k7m0, k7m1, k7m2, k7m3, k7m4]
  instanceTypes := #[(.array .byte), .byte, .int, .boolean]
  staticTypes := #[.long, .boolean, (.array (.object "java/io/ObjectStreamField")), .char, (.object "java/util/Comparator"), .byte, .byte]
  resolved := Array.replicate 1451 none
  statics := some 0 }

def pool8 : Array CpInfo := pool [(6, .class_ 8), (1, u "java/lang/Object"), (0, u "<init>"), (0, u "()V"), (1, .class_ 14), (1, u "java/lang/StringUTF16"), (31, u "$assertionsDisabled"), (0, u "Z"), (13, u "HI_BYTE_SHIFT"), (0, u "I"), (2, u "LO_BYTE_SHIFT"), (49, .methodref 12 116), (0, .nameAndType 117 118), (0, u "compress"), (0, u "([CI[BII)I"), (3, u "([CII)[B"), (138, u "coderFromArrayLen"), (0, u "([BI)B"), (106, .class_ 371), (1, u "java/lang/StringUTF16$LinesSpliterator"), (58, u "MAX_LENGTH"), (196, .class_ 628), (0, u "java/lang/StringUTF16$CodePointsSpliterator"), (0, .class_ 630), (0, u "java/lang/StringUTF16$CharsSpliterator")] 4

def k8m0 : Method := { name := "<init>", desc := "()V", sig := { parameters := [], returnType := none }, accessFlags := 0, code := none }
def k8c1 : Code := { maxStack := 2, maxLocals := 2, code := jdk_52_method_15_code, exceptionTable := #[], attributes := #[] }
def k8m1 : Method := { name := "coderFromArrayLen", desc := "([BI)B", sig := { parameters := [(.array .byte), .int], returnType := some .byte }, accessFlags := 8, code := some k8c1 }
def k8c2 : Code := { maxStack := 5, maxLocals := 6, code := jdk_52_method_16_code, exceptionTable := #[], attributes := #[] }
def k8m2 : Method := { name := "compress", desc := "([CII)[B", sig := { parameters := [(.array .char), .int, .int], returnType := some (.array .byte) }, accessFlags := 9, code := some k8c2 }
def k8c3 : Code := { maxStack := 3, maxLocals := 7, code := jdk_52_method_21_code, exceptionTable := #[], attributes := #[] }
def k8m3 : Method := { name := "compress", desc := "([CI[BII)I", sig := { parameters := [(.array .char), .int, (.array .byte), .int, .int], returnType := some .int }, accessFlags := 9, code := some k8c3 }
/-- java/lang/StringUTF16 -/
def k8 : Class := { plain "java/lang/StringUTF16" (some 0) with
  accessFlags := 48
  interfaces := #[]
  cf := some (fileOf pool8 12 #[.nestMembers #[627, 629, 369]] #[{ accessFlags := 0, nameIndex := 9, descriptorIndex := 10, attributes := #[] }, { accessFlags := 8, nameIndex := 261, descriptorIndex := 262, attributes := #[] }, { accessFlags := 9, nameIndex := 117, descriptorIndex := 122, attributes := #[] }, { accessFlags := 9, nameIndex := 117, descriptorIndex := 118, attributes := #[] }] 48 6 #[] #[{ accessFlags := 26, nameIndex := 61, descriptorIndex := 62, attributes := #[] }, { accessFlags := 26, nameIndex := 65, descriptorIndex := 62, attributes := #[] }, { accessFlags := 24, nameIndex := 430, descriptorIndex := 62, attributes := #[] }, { accessFlags := 4120, nameIndex := 46, descriptorIndex := 47, attributes := #[] }])
  fields := #[{ name := "HI_BYTE_SHIFT", type := .int, accessFlags := 26, slot := 0, constantValue := 0 }, { name := "LO_BYTE_SHIFT", type := .int, accessFlags := 26, slot := 1, constantValue := 0 }, { name := "MAX_LENGTH", type := .int, accessFlags := 24, slot := 2, constantValue := 0 }, { name := "$assertionsDisabled", type := .boolean, accessFlags := 4120, slot := 3, constantValue := 0 }]
  methods := #[k8m0, k8m1, k8m2, k8m3]
  instanceTypes := #[]
  staticTypes := #[.int, .int, .int, .boolean]
  resolved := Array.replicate 635 none
  statics := none }

def pool9 : Array CpInfo := pool [(1, .methodref 2 3), (0, .class_ 4), (0, .nameAndType 5 6), (0, u "java/lang/Object"), (0, u "<init>"), (0, u "()V"), (0, .class_ 8), (0, u "java/lang/Record")] 13

def k9c0 : Code := { maxStack := 1, maxLocals := 1, code := jdk_30_method_1_code, exceptionTable := #[], attributes := #[] }
def k9m0 : Method := { name := "<init>", desc := "()V", sig := { parameters := [], returnType := none }, accessFlags := 4, code := some k9c0 }
/-- java/lang/Record -/
def k9 : Class := { plain "java/lang/Record" (some 0) with
  accessFlags := 1057
  interfaces := #[]
  cf := some (fileOf pool9 7 #[] #[{ accessFlags := 4, nameIndex := 5, descriptorIndex := 6, attributes := #[] }] 1057 2 #[] #[])
  fields := #[]
  methods := #[k9m0]
  instanceTypes := #[]
  staticTypes := #[]
  resolved := Array.replicate 22 none
  statics := none }

def pool10 : Array CpInfo := pool [(1, .methodref 2 3), (0, .class_ 4), (0, .nameAndType 5 6), (0, u "java/lang/Record"), (0, u "<init>"), (0, u "()V"), (0, .string 8), (0, u "value"), (0, .methodref 10 11), (0, .class_ 12), (0, .nameAndType 13 14), (0, u "java/util/Objects"), (0, u "requireNonNull"), (0, u "(Ljava/lang/Object;Ljava/lang/String;)Ljava/lang/Object;"), (0, .methodref 16 17), (0, .class_ 18), (0, .nameAndType 19 20), (0, u "java/lang/String"), (0, u "isEmpty"), (0, u "()Z"), (7, .interfaceMethodref 29 30), (0, .class_ 31), (0, .nameAndType 32 33), (0, u "java/util/List"), (0, u "copyOf"), (0, u "(Ljava/util/Collection;)Ljava/util/List;"), (0, .fieldref 35 36), (0, .class_ 37), (0, .nameAndType 8 38), (0, u "com/example/harpocrates/harpocrates/data/Taxonomy"), (0, u "Ljava/lang/String;"), (0, .fieldref 35 40), (0, .nameAndType 41 42), (0, u "children"), (0, u "Ljava/util/List;"), (0, .interfaceMethodref 29 44), (0, .nameAndType 45 46), (0, u "of"), (0, u "()Ljava/util/List;"), (0, .methodref 35 48), (0, .nameAndType 5 49), (0, u "(Ljava/lang/String;Ljava/util/List;)V"), (0, .interfaceMethodref 29 17), (0, .class_ 52), (0, u "java/util/ArrayList"), (0, .methodref 51 3), (0, .methodref 35 55), (0, .nameAndType 56 57), (0, u "addLeaves"), (0, u "(Lcom/example/harpocrates/harpocrates/data/Taxonomy;Ljava/util/List;)V"), (6, u "(Ljava/lang/Object;)Z"), (22, .methodref 35 88), (0, .nameAndType 89 20), (0, u "isLeaf"), (0, .interfaceMethodref 29 91), (0, .nameAndType 92 64), (0, u "add"), (31, u "leaf"), (0, u "(Ljava/lang/String;)Lcom/example/harpocrates/harpocrates/data/Taxonomy;"), (0, u "leaves"), (4, u "()Ljava/lang/String;")] 22

def k10c0 : Code := { maxStack := 3, maxLocals := 3, code := prog_9_method_1_code, exceptionTable := #[], attributes := #[] }
def k10m0 : Method := { name := "<init>", desc := "(Ljava/lang/String;Ljava/util/List;)V", sig := { parameters := [(.object "java/lang/String"), (.object "java/util/List")], returnType := none }, accessFlags := 1, code := some k10c0 }
def k10c1 : Code := { maxStack := 4, maxLocals := 1, code := prog_9_method_2_code, exceptionTable := #[], attributes := #[] }
def k10m1 : Method := { name := "leaf", desc := "(Ljava/lang/String;)Lcom/example/harpocrates/harpocrates/data/Taxonomy;", sig := { parameters := [(.object "java/lang/String")], returnType := some (.object "com/example/harpocrates/harpocrates/data/Taxonomy") }, accessFlags := 9, code := some k10c1 }
def k10c2 : Code := { maxStack := 1, maxLocals := 1, code := prog_9_method_3_code, exceptionTable := #[], attributes := #[] }
def k10m2 : Method := { name := "isLeaf", desc := "()Z", sig := { parameters := [], returnType := some .boolean }, accessFlags := 1, code := some k10c2 }
def k10c3 : Code := { maxStack := 2, maxLocals := 2, code := prog_9_method_4_code, exceptionTable := #[], attributes := #[] }
def k10m3 : Method := { name := "leaves", desc := "()Ljava/util/List;", sig := { parameters := [], returnType := some (.object "java/util/List") }, accessFlags := 1, code := some k10c3 }
def k10c4 : Code := { maxStack := 2, maxLocals := 4, code := prog_9_method_7_code, exceptionTable := #[], attributes := #[] }
def k10m4 : Method := { name := "addLeaves", desc := "(Lcom/example/harpocrates/harpocrates/data/Taxonomy;Ljava/util/List;)V", sig := { parameters := [(.object "com/example/harpocrates/harpocrates/data/Taxonomy"), (.object "java/util/List")], returnType := none }, accessFlags := 10, code := some k10c4 }
def k10c5 : Code := { maxStack := 1, maxLocals := 1, code := prog_9_method_12_code, exceptionTable := #[], attributes := #[] }
def k10m5 : Method := { name := "value", desc := "()Ljava/lang/String;", sig := { parameters := [], returnType := some (.object "java/lang/String") }, accessFlags := 1, code := some k10c5 }
def k10c6 : Code := { maxStack := 1, maxLocals := 1, code := prog_9_method_13_code, exceptionTable := #[], attributes := #[] }
def k10m6 : Method := { name := "children", desc := "()Ljava/util/List;", sig := { parameters := [], returnType := some (.object "java/util/List") }, accessFlags := 1, code := some k10c6 }
/-- com/example/harpocrates/harpocrates/data/Taxonomy -/
def k10 : Class := { plain "com/example/harpocrates/harpocrates/data/Taxonomy" (some 9) with
  accessFlags := 49
  interfaces := #[]
  cf := some (fileOf pool10 35 #[] #[{ accessFlags := 1, nameIndex := 5, descriptorIndex := 49, attributes := #[] }, { accessFlags := 9, nameIndex := 124, descriptorIndex := 125, attributes := #[] }, { accessFlags := 1, nameIndex := 89, descriptorIndex := 20, attributes := #[] }, { accessFlags := 1, nameIndex := 126, descriptorIndex := 46, attributes := #[] }, { accessFlags := 10, nameIndex := 56, descriptorIndex := 57, attributes := #[] }, { accessFlags := 1, nameIndex := 8, descriptorIndex := 131, attributes := #[] }, { accessFlags := 1, nameIndex := 41, descriptorIndex := 46, attributes := #[] }] 49 2 #[] #[{ accessFlags := 18, nameIndex := 8, descriptorIndex := 38, attributes := #[] }, { accessFlags := 18, nameIndex := 41, descriptorIndex := 42, attributes := #[] }])
  fields := #[{ name := "value", type := (.object "java/lang/String"), accessFlags := 18, slot := 0, constantValue := 0 }, { name := "children", type := (.object "java/util/List"), accessFlags := 18, slot := 1, constantValue := 0 }]
  methods := #[k10m0, k10m1, k10m2, k10m3, k10m4, k10m5, k10m6]
  instanceTypes := #[(.object "java/lang/String"), (.object "java/util/List")]
  staticTypes := #[]
  resolved := Array.replicate 154 none
  statics := none }

def pool11 : Array CpInfo := pool [(8, .class_ 10), (1, u "java/lang/Iterable"), (24, .class_ 36), (0, u "java/lang/Object")] 25

/-- java/lang/Iterable -/
def k11 : Class := { plain "java/lang/Iterable" (some 0) with
  accessFlags := 1537
  interfaces := #[]
  cf := some (fileOf pool11 8 #[] #[] 1537 35 #[] #[])
  fields := #[]
  methods := #[]
  instanceTypes := #[]
  staticTypes := #[]
  resolved := Array.replicate 62 none
  statics := none }

def pool12 : Array CpInfo := pool [(10, .class_ 12), (1, u "java/util/Collection"), (47, .class_ 61), (0, u "java/lang/Object"), (0, .class_ 63), (0, u "java/lang/Iterable")] 51

/-- java/util/Collection -/
def k12 : Class := { plain "java/util/Collection" (some 0) with
  accessFlags := 1537
  interfaces := #[11]
  cf := some (fileOf pool12 10 #[] #[] 1537 60 #[62] #[])
  fields := #[]
  methods := #[]
  instanceTypes := #[]
  staticTypes := #[]
  resolved := Array.replicate 115 none
  statics := none }

def pool13 : Array CpInfo := pool [(8, .class_ 10), (1, u "java/util/SequencedCollection"), (15, .class_ 27), (0, u "java/lang/Object"), (0, .class_ 29), (0, u "java/util/Collection")] 27

/-- java/util/SequencedCollection -/
def k13 : Class := { plain "java/util/SequencedCollection" (some 0) with
  accessFlags := 1537
  interfaces := #[12]
  cf := some (fileOf pool13 8 #[] #[] 1537 26 #[28] #[])
  fields := #[]
  methods := #[]
  instanceTypes := #[]
  staticTypes := #[]
  resolved := Array.replicate 57 none
  statics := none }

def pool14 : Array CpInfo := pool [(8, .class_ 10), (1, u "java/util/List"), (7, u "()Z"), (41, u "add"), (3, u "(Ljava/lang/Object;)Z"), (2, u "isEmpty"), (7, u "get"), (0, u "(I)Ljava/lang/Object;"), (2, u "size"), (0, u "()I"), (7, u "of"), (1, .fieldref 91 92), (0, .class_ 93), (0, .nameAndType 94 95), (0, u "java/util/ImmutableCollections"), (0, u "EMPTY_LIST"), (0, u "Ljava/util/ImmutableCollections$ListN;"), (7, .class_ 104), (0, u "java/lang/Object"), (7, .methodref 91 113), (0, .nameAndType 114 115), (0, u "listCopy"), (0, u "(Ljava/util/Collection;)Ljava/util/List;"), (3, u "()Ljava/util/List;"), (0, .class_ 121), (0, u "java/util/SequencedCollection"), (112, u "copyOf")] 16

def k14m0 : Method := { name := "size", desc := "()I", sig := { parameters := [], returnType := some .int }, accessFlags := 1025, code := none }
def k14m1 : Method := { name := "isEmpty", desc := "()Z", sig := { parameters := [], returnType := some .boolean }, accessFlags := 1025, code := none }
def k14m2 : Method := { name := "add", desc := "(Ljava/lang/Object;)Z", sig := { parameters := [(.object "java/lang/Object")], returnType := some .boolean }, accessFlags := 1025, code := none }
def k14m3 : Method := { name := "get", desc := "(I)Ljava/lang/Object;", sig := { parameters := [.int], returnType := some (.object "java/lang/Object") }, accessFlags := 1025, code := none }
def k14c4 : Code := { maxStack := 1, maxLocals := 0, code := jdk_40_method_36_code, exceptionTable := #[], attributes := #[] }
def k14m4 : Method := { name := "of", desc := "()Ljava/util/List;", sig := { parameters := [], returnType := some (.object "java/util/List") }, accessFlags := 9, code := some k14c4 }
def k14c5 : Code := { maxStack := 1, maxLocals := 1, code := jdk_40_method_48_code, exceptionTable := #[], attributes := #[] }
def k14m5 : Method := { name := "copyOf", desc := "(Ljava/util/Collection;)Ljava/util/List;", sig := { parameters := [(.object "java/util/Collection")], returnType := some (.object "java/util/List") }, accessFlags := 9, code := some k14c5 }
/-- java/util/List -/
def k14 : Class := { plain "java/util/List" (some 0) with
  accessFlags := 1537
  interfaces := #[13]
  cf := some (fileOf pool14 8 #[] #[{ accessFlags := 1025, nameIndex := 79, descriptorIndex := 80, attributes := #[] }, { accessFlags := 1025, nameIndex := 67, descriptorIndex := 18, attributes := #[] }, { accessFlags := 1025, nameIndex := 60, descriptorIndex := 64, attributes := #[] }, { accessFlags := 1025, nameIndex := 75, descriptorIndex := 76, attributes := #[] }, { accessFlags := 9, nameIndex := 88, descriptorIndex := 119, attributes := #[] }, { accessFlags := 9, nameIndex := 234, descriptorIndex := 115, attributes := #[] }] 1537 103 #[120] #[])
  fields := #[]
  methods := #[k14m0, k14m1, k14m2, k14m3, k14m4, k14m5]
  instanceTypes := #[]
  staticTypes := #[]
  resolved := Array.replicate 251 none
  statics := none }

def pool15 : Array CpInfo := pool [(2, .class_ 4), (1, u "java/lang/Object"), (0, u "<init>"), (0, u "()V"), (3, .class_ 11), (0, u "java/util/ImmutableCollections$List12"), (0, .class_ 13), (0, u "java/util/ImmutableCollections$ListN"), (0, .fieldref 12 15), (0, .nameAndType 16 17), (0, u "allowNulls"), (0, u "Z"), (0, .class_ 19), (0, u "java/util/List"), (27, .class_ 49), (1, u "java/util/ImmutableCollections"), (0, u "$assertionsDisabled"), (5, u "[Ljava/lang/Object;"), (5, u "EMPTY_LIST"), (0, u "Ljava/util/ImmutableCollections$ListN;"), (8, u "EMPTY_LIST_NULLS"), (22, u "SALT32L"), (0, u "J"), (2, u "REVERSE"), (6, u "archivedObjects"), (2, u "EMPTY"), (0, u "Ljava/lang/Object;"), (0, .class_ 112), (0, u "java/util/ImmutableCollections$SetN"), (5, u "EMPTY_SET"), (0, u "Ljava/util/ImmutableCollections$SetN;"), (0, .class_ 121), (0, u "java/util/ImmutableCollections$MapN"), (3, u "EMPTY_MAP"), (0, u "Ljava/util/ImmutableCollections$MapN;"), (4, u "EXPAND_FACTOR"), (0, u "I"), (9, u "listCopy"), (0, u "(Ljava/util/Collection;)Ljava/util/List;"), (25, .class_ 170), (0, u "java/util/ImmutableCollections$MapN$MapNIterator"), (0, .class_ 172), (0, u "java/util/ImmutableCollections$MapN$1"), (0, .class_ 174), (0, u "java/util/ImmutableCollections$Map1"), (0, .class_ 176), (0, u "java/util/ImmutableCollections$AbstractImmutableMap"), (0, .class_ 178), (0, u "java/util/ImmutableCollections$SetN$SetNIterator"), (0, .class_ 180), (0, u "java/util/ImmutableCollections$Set12"), (0, .class_ 182), (0, u "java/util/ImmutableCollections$Set12$1"), (0, .class_ 184), (0, u "java/util/ImmutableCollections$AbstractImmutableSet"), (0, .class_ 186), (0, u "java/util/ImmutableCollections$SubList"), (0, .class_ 188), (0, u "java/util/ImmutableCollections$ListItr"), (0, .class_ 190), (0, u "java/util/ImmutableCollections$AbstractImmutableList"), (0, .class_ 192), (0, u "java/util/ImmutableCollections$AbstractImmutableCollection"), (0, .class_ 194), (0, u "java/util/ImmutableCollections$Access"), (0, .class_ 196), (0, u "java/util/ImmutableCollections$Access$1")] 16

def k15m0 : Method := { name := "<init>", desc := "()V", sig := { parameters := [], returnType := none }, accessFlags := 2, code := none }
def k15c1 : Code := { maxStack := 1, maxLocals := 2, code := jdk_56_method_3_code, exceptionTable := #[], attributes := #[] }
def k15m1 : Method := { name := "listCopy", desc := "(Ljava/util/Collection;)Ljava/util/List;", sig := { parameters := [(.object "java/util/Collection")], returnType := some (.object "java/util/List") }, accessFlags := 8, code := some k15c1 }
/-- java/util/ImmutableCollections -/
def k15 : Class := { plain "java/util/ImmutableCollections" (some 0) with
  accessFlags := 32
  interfaces := #[]
  cf := some (fileOf pool15 47 #[.nestMembers #[120, 169, 171, 173, 175, 111, 177, 179, 181, 183, 12, 10, 185, 187, 189, 191, 193, 195]] #[{ accessFlags := 2, nameIndex := 5, descriptorIndex := 6, attributes := #[] }, { accessFlags := 8, nameIndex := 142, descriptorIndex := 143, attributes := #[] }] 32 2 #[] #[{ accessFlags := 26, nameIndex := 95, descriptorIndex := 96, attributes := #[] }, { accessFlags := 26, nameIndex := 99, descriptorIndex := 17, attributes := #[] }, { accessFlags := 10, nameIndex := 106, descriptorIndex := 56, attributes := #[] }, { accessFlags := 26, nameIndex := 109, descriptorIndex := 110, attributes := #[] }, { accessFlags := 24, nameIndex := 62, descriptorIndex := 63, attributes := #[] }, { accessFlags := 24, nameIndex := 72, descriptorIndex := 63, attributes := #[] }, { accessFlags := 24, nameIndex := 118, descriptorIndex := 119, attributes := #[] }, { accessFlags := 24, nameIndex := 125, descriptorIndex := 126, attributes := #[] }, { accessFlags := 24, nameIndex := 131, descriptorIndex := 132, attributes := #[] }, { accessFlags := 4120, nameIndex := 50, descriptorIndex := 17, attributes := #[] }])
  fields := #[{ name := "SALT32L", type := .long, accessFlags := 26, slot := 0, constantValue := 0 }, { name := "REVERSE", type := .boolean, accessFlags := 26, slot := 1, constantValue := 0 }, { name := "archivedObjects", type := (.array (.object "java/lang/Object")), accessFlags := 10, slot := 2, constantValue := 0 }, { name := "EMPTY", type := (.object "java/lang/Object"), accessFlags := 26, slot := 3, constantValue := 0 }, { name := "EMPTY_LIST", type := (.object "java/util/ImmutableCollections$ListN"), accessFlags := 24, slot := 4, constantValue := 0 }, { name := "EMPTY_LIST_NULLS", type := (.object "java/util/ImmutableCollections$ListN"), accessFlags := 24, slot := 5, constantValue := 0 }, { name := "EMPTY_SET", type := (.object "java/util/ImmutableCollections$SetN"), accessFlags := 24, slot := 6, constantValue := 0 }, { name := "EMPTY_MAP", type := (.object "java/util/ImmutableCollections$MapN"), accessFlags := 24, slot := 7, constantValue := 0 }, { name := "EXPAND_FACTOR", type := .int, accessFlags := 24, slot := 8, constantValue := 0 }, { name := "$assertionsDisabled", type := .boolean, accessFlags := 4120, slot := 9, constantValue := 0 }]
  methods := #[k15m0, k15m1]
  instanceTypes := #[]
  staticTypes := #[.long, .boolean, (.array (.object "java/lang/Object")), (.object "java/lang/Object"), (.object "java/util/ImmutableCollections$ListN"), (.object "java/util/ImmutableCollections$ListN"), (.object "java/util/ImmutableCollections$SetN"), (.object "java/util/ImmutableCollections$MapN"), .int, .boolean]
  resolved := Array.replicate 213 none
  statics := some 1 }

def pool16 : Array CpInfo := pool [(2, .class_ 4), (1, u "java/lang/Object"), (0, u "<init>"), (0, u "()V"), (35, .class_ 44), (1, u "java/util/Objects"), (0, u "requireNonNull"), (48, u "(Ljava/lang/Object;Ljava/lang/String;)Ljava/lang/Object;"), (10, .methodref 106 107), (0, .class_ 108), (0, .nameAndType 109 110), (0, u "jdk/internal/util/Preconditions"), (0, u "checkIndex"), (0, u "(IILjava/util/function/BiFunction;)I"), (60, u "(II)I")] 12

def k16m0 : Method := { name := "<init>", desc := "()V", sig := { parameters := [], returnType := none }, accessFlags := 2, code := none }
def k16c1 : Code := { maxStack := 3, maxLocals := 2, code := jdk_31_method_11_code, exceptionTable := #[], attributes := #[] }
def k16m1 : Method := { name := "requireNonNull", desc := "(Ljava/lang/Object;Ljava/lang/String;)Ljava/lang/Object;", sig := { parameters := [(.object "java/lang/Object"), (.object "java/lang/String")], returnType := some (.object "java/lang/Object") }, accessFlags := 9, code := some k16c1 }
def k16c2 : Code := { maxStack := 3, maxLocals := 2, code := jdk_31_method_17_code, exceptionTable := #[], attributes := #[] }
def k16m2 : Method := { name := "checkIndex", desc := "(II)I", sig := { parameters := [.int, .int], returnType := some .int }, accessFlags := 9, code := some k16c2 }
/-- java/util/Objects -/
def k16 : Class := { plain "java/util/Objects" (some 0) with
  accessFlags := 49
  interfaces := #[]
  cf := some (fileOf pool16 42 #[] #[{ accessFlags := 2, nameIndex := 5, descriptorIndex := 6, attributes := #[] }, { accessFlags := 9, nameIndex := 45, descriptorIndex := 94, attributes := #[] }, { accessFlags := 9, nameIndex := 109, descriptorIndex := 171, attributes := #[] }] 49 2 #[] #[])
  fields := #[]
  methods := #[k16m0, k16m1, k16m2]
  instanceTypes := #[]
  staticTypes := #[]
  resolved := Array.replicate 184 none
  statics := none }

def pool17 : Array CpInfo := pool [(1, .methodref 2 3), (0, .class_ 4), (0, .nameAndType 5 6), (0, u "java/lang/Object"), (0, u "<init>"), (0, u "()V"), (1, .class_ 10), (1, u "java/util/AbstractCollection"), (66, .class_ 78), (0, u "java/util/Collection")] 81

def k17c0 : Code := { maxStack := 1, maxLocals := 1, code := jdk_22_method_1_code, exceptionTable := #[], attributes := #[] }
def k17m0 : Method := { name := "<init>", desc := "()V", sig := { parameters := [], returnType := none }, accessFlags := 4, code := some k17c0 }
/-- java/util/AbstractCollection -/
def k17 : Class := { plain "java/util/AbstractCollection" (some 0) with
  accessFlags := 1057
  interfaces := #[12]
  cf := some (fileOf pool17 8 #[] #[{ accessFlags := 4, nameIndex := 5, descriptorIndex := 6, attributes := #[] }] 1057 2 #[77] #[])
  fields := #[]
  methods := #[k17m0]
  instanceTypes := #[]
  staticTypes := #[]
  resolved := Array.replicate 160 none
  statics := none }

def pool18 : Array CpInfo := pool [(2, .class_ 4), (1, u "java/util/AbstractCollection"), (0, u "<init>"), (0, u "()V"), (1, .class_ 10), (1, u "java/util/ImmutableCollections"), (2, .class_ 14), (0, u "java/util/ImmutableCollections$AbstractImmutableCollection")] 41

def k18m0 : Method := { name := "<init>", desc := "()V", sig := { parameters := [], returnType := none }, accessFlags := 0, code := none }
/-- java/util/ImmutableCollections$AbstractImmutableCollection -/
def k18 : Class := { plain "java/util/ImmutableCollections$AbstractImmutableCollection" (some 17) with
  accessFlags := 1056
  interfaces := #[]
  cf := some (fileOf pool18 13 #[.nestHost 8] #[{ accessFlags := 0, nameIndex := 5, descriptorIndex := 6, attributes := #[] }] 1056 2 #[] #[])
  fields := #[]
  methods := #[k18m0]
  instanceTypes := #[]
  staticTypes := #[]
  resolved := Array.replicate 56 none
  statics := none }

def pool19 : Array CpInfo := pool [(1, .class_ 2), (0, u "java/util/RandomAccess"), (0, .class_ 4), (0, u "java/lang/Object")] 2

/-- java/util/RandomAccess -/
def k19 : Class := { plain "java/util/RandomAccess" (some 0) with
  accessFlags := 1537
  interfaces := #[]
  cf := some (fileOf pool19 1 #[] #[] 1537 3 #[] #[])
  fields := #[]
  methods := #[]
  instanceTypes := #[]
  staticTypes := #[]
  resolved := Array.replicate 7 none
  statics := none }

def pool20 : Array CpInfo := pool [(2, .class_ 4), (1, u "java/util/ImmutableCollections$AbstractImmutableCollection"), (0, u "<init>"), (0, u "()V"), (1, .class_ 10), (1, u "java/util/ImmutableCollections"), (3, .class_ 16), (1, u "java/util/ImmutableCollections$AbstractImmutableList"), (60, .class_ 78), (0, u "java/util/List"), (45, .class_ 125), (0, u "java/util/RandomAccess")] 70

def k20m0 : Method := { name := "<init>", desc := "()V", sig := { parameters := [], returnType := none }, accessFlags := 0, code := none }
/-- java/util/ImmutableCollections$AbstractImmutableList -/
def k20 : Class := { plain "java/util/ImmutableCollections$AbstractImmutableList" (some 18) with
  accessFlags := 1056
  interfaces := #[14, 19]
  cf := some (fileOf pool20 14 #[.nestHost 8] #[{ accessFlags := 0, nameIndex := 5, descriptorIndex := 6, attributes := #[] }] 1056 2 #[77, 124] #[])
  fields := #[]
  methods := #[k20m0]
  instanceTypes := #[]
  staticTypes := #[]
  resolved := Array.replicate 196 none
  statics := none }

def pool21 : Array CpInfo := pool [(2, .class_ 4), (1, u "java/util/ImmutableCollections$AbstractImmutableList"), (9, .class_ 16), (1, u "java/util/ImmutableCollections$List12"), (0, u "e0"), (0, u "Ljava/lang/Object;"), (1, .class_ 22), (1, u "java/util/ImmutableCollections"), (3, u "e1"), (43, .class_ 71), (0, u "java/io/Serializable")] 53

/-- java/util/ImmutableCollections$List12 -/
def k21 : Class := { plain "java/util/ImmutableCollections$List12" (some 20) with
  accessFlags := 48
  interfaces := #[2]
  cf := some (fileOf pool21 14 #[.nestHost 20] #[] 48 2 #[70] #[{ accessFlags := 18, nameIndex := 17, descriptorIndex := 18, attributes := #[] }, { accessFlags := 18, nameIndex := 26, descriptorIndex := 18, attributes := #[] }])
  fields := #[{ name := "e0", type := (.object "java/lang/Object"), accessFlags := 18, slot := 0, constantValue := 0 }, { name := "e1", type := (.object "java/lang/Object"), accessFlags := 18, slot := 1, constantValue := 0 }]
  methods := #[]
  instanceTypes := #[(.object "java/lang/Object"), (.object "java/lang/Object")]
  staticTypes := #[]
  resolved := Array.replicate 125 none
  statics := none }

def pool22 : Array CpInfo := pool [(2, .class_ 4), (1, u "java/util/ImmutableCollections$AbstractImmutableList"), (2, .fieldref 8 9), (0, .class_ 10), (0, .nameAndType 11 12), (0, u "java/util/ImmutableCollections$ListN"), (0, u "elements"), (0, u "[Ljava/lang/Object;"), (2, u "allowNulls"), (0, u "Z"), (42, .class_ 60), (0, u "java/io/Serializable"), (13, u "isEmpty"), (0, u "()Z"), (1, u "size"), (0, u "()I"), (35, .class_ 115), (0, u "java/util/ImmutableCollections")] 3

def k22c0 : Code := { maxStack := 1, maxLocals := 1, code := jdk_45_method_2_code, exceptionTable := #[], attributes := #[] }
def k22m0 : Method := { name := "isEmpty", desc := "()Z", sig := { parameters := [], returnType := some .boolean }, accessFlags := 1, code := some k22c0 }
def k22c1 : Code := { maxStack := 1, maxLocals := 1, code := jdk_45_method_3_code, exceptionTable := #[], attributes := #[] }
def k22m1 : Method := { name := "size", desc := "()I", sig := { parameters := [], returnType := some .int }, accessFlags := 1, code := some k22c1 }
/-- java/util/ImmutableCollections$ListN -/
def k22 : Class := { plain "java/util/ImmutableCollections$ListN" (some 20) with
  accessFlags := 48
  interfaces := #[2]
  cf := some (fileOf pool22 8 #[.nestHost 114] #[{ accessFlags := 1, nameIndex := 74, descriptorIndex := 75, attributes := #[] }, { accessFlags := 1, nameIndex := 77, descriptorIndex := 78, attributes := #[] }] 48 2 #[59] #[{ accessFlags := 18, nameIndex := 11, descriptorIndex := 12, attributes := #[] }, { accessFlags := 18, nameIndex := 15, descriptorIndex := 16, attributes := #[] }])
  fields := #[{ name := "elements", type := (.array (.object "java/lang/Object")), accessFlags := 18, slot := 0, constantValue := 0 }, { name := "allowNulls", type := .boolean, accessFlags := 18, slot := 1, constantValue := 0 }]
  methods := #[k22m0, k22m1]
  instanceTypes := #[(.array (.object "java/lang/Object")), .boolean]
  staticTypes := #[]
  resolved := Array.replicate 119 none
  statics := none }

def pool23 : Array CpInfo := pool [(1, .methodref 2 3), (0, .class_ 4), (0, .nameAndType 5 6), (0, u "java/util/AbstractCollection"), (0, u "<init>"), (0, u "()V"), (0, .fieldref 8 9), (0, .class_ 10), (0, .nameAndType 11 12), (0, u "java/util/AbstractList"), (0, u "modCount"), (0, u "I"), (64, .class_ 78), (0, u "java/util/AbstractList$Itr"), (3, .class_ 83), (0, u "java/util/AbstractList$ListItr"), (9, .class_ 94), (0, u "java/util/AbstractList$RandomAccessSubList"), (3, .class_ 99), (0, u "java/util/AbstractList$SubList"), (33, .class_ 134), (0, u "java/util/List"), (73, .class_ 209), (0, u "java/util/AbstractList$SubList$1"), (0, .class_ 211), (0, u "java/util/AbstractList$RandomAccessSpliterator")] 6

def k23c0 : Code := { maxStack := 2, maxLocals := 1, code := jdk_39_method_1_code, exceptionTable := #[], attributes := #[] }
def k23m0 : Method := { name := "<init>", desc := "()V", sig := { parameters := [], returnType := none }, accessFlags := 4, code := some k23c0 }
/-- java/util/AbstractList -/
def k23 : Class := { plain "java/util/AbstractList" (some 17) with
  accessFlags := 1057
  interfaces := #[14]
  cf := some (fileOf pool23 8 #[.nestMembers #[93, 98, 208, 210, 82, 77]] #[{ accessFlags := 4, nameIndex := 5, descriptorIndex := 6, attributes := #[] }] 1057 2 #[133] #[{ accessFlags := 132, nameIndex := 11, descriptorIndex := 12, attributes := #[] }])
  fields := #[{ name := "modCount", type := .int, accessFlags := 132, slot := 0, constantValue := 0 }]
  methods := #[k23m0]
  instanceTypes := #[.int]
  staticTypes := #[]
  resolved := Array.replicate 218 none
  statics := none }

def pool24 : Array CpInfo := pool [(1, .class_ 2), (0, u "java/lang/Cloneable"), (0, .class_ 4), (0, u "java/lang/Object")] 2

/-- java/lang/Cloneable -/
def k24 : Class := { plain "java/lang/Cloneable" (some 0) with
  accessFlags := 1537
  interfaces := #[]
  cf := some (fileOf pool24 1 #[] #[] 1537 3 #[] #[])
  fields := #[]
  methods := #[]
  instanceTypes := #[]
  staticTypes := #[]
  resolved := Array.replicate 7 none
  statics := none }

def pool25 : Array CpInfo := pool [(1, .methodref 2 3), (0, .class_ 4), (0, .nameAndType 5 6), (0, u "java/util/AbstractList"), (0, u "<init>"), (0, u "()V"), (0, .class_ 8), (0, u "java/lang/Object"), (0, .fieldref 10 11), (0, .class_ 12), (0, .nameAndType 13 14), (0, u "java/util/ArrayList"), (0, u "elementData"), (0, u "[Ljava/lang/Object;"), (2, u "EMPTY_ELEMENTDATA"), (21, .fieldref 10 40), (0, .nameAndType 41 14), (0, u "DEFAULTCAPACITY_EMPTY_ELEMENTDATA"), (5, u "()[Ljava/lang/Object;"), (0, .fieldref 10 49), (0, .nameAndType 50 51), (0, u "size"), (0, u "I"), (11, .fieldref 10 64), (0, .nameAndType 65 51), (0, u "modCount"), (3, .methodref 10 70), (0, .nameAndType 71 72), (0, u "grow"), (0, u "(I)[Ljava/lang/Object;"), (6, .methodref 80 81), (0, .class_ 82), (0, .nameAndType 83 84), (0, u "java/lang/Math"), (0, u "max"), (0, u "(II)I"), (11, u "(Ljava/lang/Object;)Z"), (21, .methodref 119 120), (0, .class_ 121), (0, .nameAndType 122 84), (0, u "java/util/Objects"), (0, u "checkIndex"), (0, .methodref 10 124), (0, .nameAndType 13 125), (0, u "(I)Ljava/lang/Object;"), (3, .methodref 10 130), (0, .nameAndType 71 47), (0, .methodref 10 132), (0, .nameAndType 133 134), (0, u "add"), (0, u "(Ljava/lang/Object;[Ljava/lang/Object;I)V"), (13, .class_ 149), (0, u "java/util/List"), (36, u "()I"), (75, .class_ 263), (0, u "java/util/ArrayList$ListItr"), (3, .class_ 268), (0, u "java/util/ArrayList$Itr"), (7, .class_ 277), (0, u "java/util/ArrayList$SubList"), (12, .class_ 291), (0, u "java/util/ArrayList$ArrayListSpliterator"), (37, .class_ 330), (0, u "java/util/RandomAccess"), (0, .class_ 332), (0, u "java/lang/Cloneable"), (0, .class_ 334), (0, u "java/io/Serializable"), (0, u "serialVersionUID"), (0, u "J"), (3, u "DEFAULT_CAPACITY"), (40, u "get"), (118, .class_ 501), (0, u "java/util/ArrayList$SubList$2"), (0, .class_ 503), (0, u "java/util/ArrayList$SubList$1")] 5

def k25c0 : Code := { maxStack := 2, maxLocals := 1, code := jdk_38_method_2_code, exceptionTable := #[], attributes := #[] }
def k25m0 : Method := { name := "<init>", desc := "()V", sig := { parameters := [], returnType := none }, accessFlags := 1, code := some k25c0 }
def k25c1 : Code := { maxStack := 4, maxLocals := 4, code := jdk_38_method_6_code, exceptionTable := #[], attributes := #[] }
def k25m1 : Method := { name := "grow", desc := "(I)[Ljava/lang/Object;", sig := { parameters := [.int], returnType := some (.array (.object "java/lang/Object")) }, accessFlags := 2, code := some k25c1 }
def k25c2 : Code := { maxStack := 3, maxLocals := 1, code := jdk_38_method_7_code, exceptionTable := #[], attributes := #[] }
def k25m2 : Method := { name := "grow", desc := "()[Ljava/lang/Object;", sig := { parameters := [], returnType := some (.array (.object "java/lang/Object")) }, accessFlags := 2, code := some k25c2 }
def k25c3 : Code := { maxStack := 1, maxLocals := 1, code := jdk_38_method_8_code, exceptionTable := #[], attributes := #[] }
def k25m3 : Method := { name := "size", desc := "()I", sig := { parameters := [], returnType := some .int }, accessFlags := 1, code := some k25c3 }
def k25c4 : Code := { maxStack := 2, maxLocals := 2, code := jdk_38_method_18_code, exceptionTable := #[], attributes := #[] }
def k25m4 : Method := { name := "elementData", desc := "(I)Ljava/lang/Object;", sig := { parameters := [.int], returnType := some (.object "java/lang/Object") }, accessFlags := 0, code := some k25c4 }
def k25c5 : Code := { maxStack := 2, maxLocals := 2, code := jdk_38_method_20_code, exceptionTable := #[], attributes := #[] }
def k25m5 : Method := { name := "get", desc := "(I)Ljava/lang/Object;", sig := { parameters := [.int], returnType := some (.object "java/lang/Object") }, accessFlags := 1, code := some k25c5 }
def k25c6 : Code := { maxStack := 3, maxLocals := 4, code := jdk_38_method_24_code, exceptionTable := #[], attributes := #[] }
def k25m6 : Method := { name := "add", desc := "(Ljava/lang/Object;[Ljava/lang/Object;I)V", sig := { parameters := [(.object "java/lang/Object"), (.array (.object "java/lang/Object")), .int], returnType := none }, accessFlags := 2, code := some k25c6 }
def k25c7 : Code := { maxStack := 4, maxLocals := 2, code := jdk_38_method_25_code, exceptionTable := #[], attributes := #[] }
def k25m7 : Method := { name := "add", desc := "(Ljava/lang/Object;)Z", sig := { parameters := [(.object "java/lang/Object")], returnType := some .boolean }, accessFlags := 1, code := some k25c7 }
/-- java/util/ArrayList -/
def k25 : Class := { plain "java/util/ArrayList" (some 23) with
  accessFlags := 33
  interfaces := #[14, 19, 24, 2]
  cf := some (fileOf pool25 10 #[.nestMembers #[290, 276, 500, 502, 262, 267]] #[{ accessFlags := 1, nameIndex := 5, descriptorIndex := 6, attributes := #[] }, { accessFlags := 2, nameIndex := 71, descriptorIndex := 72, attributes := #[] }, { accessFlags := 2, nameIndex := 71, descriptorIndex := 47, attributes := #[] }, { accessFlags := 1, nameIndex := 50, descriptorIndex := 186, attributes := #[] }, { accessFlags := 0, nameIndex := 13, descriptorIndex := 125, attributes := #[] }, { accessFlags := 1, nameIndex := 381, descriptorIndex := 125, attributes := #[] }, { accessFlags := 2, nameIndex := 133, descriptorIndex := 134, attributes := #[] }, { accessFlags := 1, nameIndex := 133, descriptorIndex := 96, attributes := #[] }] 33 2 #[148, 329, 331, 333] #[{ accessFlags := 26, nameIndex := 335, descriptorIndex := 336, attributes := #[] }, { accessFlags := 26, nameIndex := 340, descriptorIndex := 51, attributes := #[] }, { accessFlags := 26, nameIndex := 17, descriptorIndex := 14, attributes := #[] }, { accessFlags := 26, nameIndex := 41, descriptorIndex := 14, attributes := #[] }, { accessFlags := 128, nameIndex := 13, descriptorIndex := 14, attributes := #[] }, { accessFlags := 2, nameIndex := 50, descriptorIndex := 51, attributes := #[] }])
  fields := #[{ name := "serialVersionUID", type := .long, accessFlags := 26, slot := 0, constantValue := 0 }, { name := "DEFAULT_CAPACITY", type := .int, accessFlags := 26, slot := 1, constantValue := 0 }, { name := "EMPTY_ELEMENTDATA", type := (.array (.object "java/lang/Object")), accessFlags := 26, slot := 2, constantValue := 0 }, { name := "DEFAULTCAPACITY_EMPTY_ELEMENTDATA", type := (.array (.object "java/lang/Object")), accessFlags := 26, slot := 3, constantValue := 0 }, { name := "elementData", type := (.array (.object "java/lang/Object")), accessFlags := 128, slot := 1, constantValue := 0 }, { name := "size", type := .int, accessFlags := 2, slot := 2, constantValue := 0 }]
  methods := #[k25m0, k25m1, k25m2, k25m3, k25m4, k25m5, k25m6, k25m7]
  instanceTypes := #[.int, (.array (.object "java/lang/Object")), .int]
  staticTypes := #[.long, .int, (.array (.object "java/lang/Object")), (.array (.object "java/lang/Object"))]
  resolved := Array.replicate 509 none
  statics := some 2 }

def pool26 : Array CpInfo := pool [(1, .class_ 2), (0, u "java/lang/Math"), (1, .class_ 6), (1, u "java/lang/Object"), (0, u "<init>"), (0, u "()V"), (89, .class_ 100), (1, u "java/lang/Math$RandomNumberGeneratorHolder"), (71, u "negativeZeroFloatBits"), (0, u "J"), (2, u "negativeZeroDoubleBits"), (21, u "max"), (46, u "$assertionsDisabled"), (0, u "Z"), (88, u "(II)I"), (2, u "twoToTheDoubleScaleDown"), (0, u "D"), (4, u "twoToTheDoubleScaleUp"), (9, u "E"), (3, u "PI"), (2, u "TAU"), (2, u "DEGREES_TO_RADIANS"), (0, u "RADIANS_TO_DEGREES")] 94

def k26m0 : Method := { name := "<init>", desc := "()V", sig := { parameters := [], returnType := none }, accessFlags := 2, code := none }
def k26c1 : Code := { maxStack := 2, maxLocals := 2, code := jdk_29_method_65_code, exceptionTable := #[], attributes := #[] }
def k26m1 : Method := { name := "max", desc := "(II)I", sig := { parameters := [.int, .int], returnType := some .int }, accessFlags := 9, code := some k26c1 }
/-- java/lang/Math -/
def k26 : Class := { plain "java/lang/Math" (some 0) with
  accessFlags := 49
  interfaces := #[]
  cf := some (fileOf pool26 1 #[.nestMembers #[98]] #[{ accessFlags := 2, nameIndex := 7, descriptorIndex := 8, attributes := #[] }, { accessFlags := 9, nameIndex := 198, descriptorIndex := 335, attributes := #[] }] 49 4 #[] #[{ accessFlags := 25, nameIndex := 354, descriptorIndex := 339, attributes := #[] }, { accessFlags := 25, nameIndex := 358, descriptorIndex := 339, attributes := #[] }, { accessFlags := 25, nameIndex := 361, descriptorIndex := 339, attributes := #[] }, { accessFlags := 26, nameIndex := 364, descriptorIndex := 339, attributes := #[] }, { accessFlags := 26, nameIndex := 365, descriptorIndex := 339, attributes := #[] }, { accessFlags := 26, nameIndex := 172, descriptorIndex := 173, attributes := #[] }, { accessFlags := 26, nameIndex := 176, descriptorIndex := 173, attributes := #[] }, { accessFlags := 8, nameIndex := 344, descriptorIndex := 339, attributes := #[] }, { accessFlags := 8, nameIndex := 338, descriptorIndex := 339, attributes := #[] }, { accessFlags := 4120, nameIndex := 245, descriptorIndex := 246, attributes := #[] }])
  fields := #[{ name := "E", type := .double, accessFlags := 25, slot := 0, constantValue := 0 }, { name := "PI", type := .double, accessFlags := 25, slot := 1, constantValue := 0 }, { name := "TAU", type := .double, accessFlags := 25, slot := 2, constantValue := 0 }, { name := "DEGREES_TO_RADIANS", type := .double, accessFlags := 26, slot := 3, constantValue := 0 }, { name := "RADIANS_TO_DEGREES", type := .double, accessFlags := 26, slot := 4, constantValue := 0 }, { name := "negativeZeroFloatBits", type := .long, accessFlags := 26, slot := 5, constantValue := 0 }, { name := "negativeZeroDoubleBits", type := .long, accessFlags := 26, slot := 6, constantValue := 0 }, { name := "twoToTheDoubleScaleUp", type := .double, accessFlags := 8, slot := 7, constantValue := 0 }, { name := "twoToTheDoubleScaleDown", type := .double, accessFlags := 8, slot := 8, constantValue := 0 }, { name := "$assertionsDisabled", type := .boolean, accessFlags := 4120, slot := 9, constantValue := 0 }]
  methods := #[k26m0, k26m1]
  instanceTypes := #[]
  staticTypes := #[.double, .double, .double, .double, .double, .long, .long, .double, .double, .boolean]
  resolved := Array.replicate 460 none
  statics := none }

def pool27 : Array CpInfo := pool [(2, .class_ 4), (1, u "java/lang/Object"), (0, u "<init>"), (0, u "()V"), (17, .class_ 26), (1, u "jdk/internal/util/Preconditions"), (6, u "checkIndex"), (21, .class_ 56), (0, u "jdk/internal/util/Preconditions$4"), (57, .class_ 115), (0, u "jdk/internal/util/Preconditions$1"), (7, u "SIOOBE_FORMATTER"), (0, u "Ljava/util/function/BiFunction;"), (0, .class_ 126), (0, u "jdk/internal/util/Preconditions$2"), (3, u "AIOOBE_FORMATTER"), (0, .class_ 132), (0, u "jdk/internal/util/Preconditions$3"), (3, u "IOOBE_FORMATTER"), (41, u "(IILjava/util/function/BiFunction;)I")] 15

def k27m0 : Method := { name := "<init>", desc := "()V", sig := { parameters := [], returnType := none }, accessFlags := 1, code := none }
def k27c1 : Code := { maxStack := 3, maxLocals := 3, code := jdk_41_method_11_code, exceptionTable := #[], attributes := #[] }
def k27m1 : Method := { name := "checkIndex", desc := "(IILjava/util/function/BiFunction;)I", sig := { parameters := [.int, .int, (.object "java/util/function/BiFunction")], returnType := some .int }, accessFlags := 9, code := some k27c1 }
/-- jdk/internal/util/Preconditions -/
def k27 : Class := { plain "jdk/internal/util/Preconditions" (some 0) with
  accessFlags := 33
  interfaces := #[]
  cf := some (fileOf pool27 24 #[.nestMembers #[55, 131, 125, 114]] #[{ accessFlags := 1, nameIndex := 5, descriptorIndex := 6, attributes := #[] }, { accessFlags := 9, nameIndex := 33, descriptorIndex := 178, attributes := #[] }] 33 2 #[] #[{ accessFlags := 25, nameIndex := 123, descriptorIndex := 124, attributes := #[] }, { accessFlags := 25, nameIndex := 130, descriptorIndex := 124, attributes := #[] }, { accessFlags := 25, nameIndex := 136, descriptorIndex := 124, attributes := #[] }])
  fields := #[{ name := "SIOOBE_FORMATTER", type := (.object "java/util/function/BiFunction"), accessFlags := 25, slot := 0, constantValue := 0 }, { name := "AIOOBE_FORMATTER", type := (.object "java/util/function/BiFunction"), accessFlags := 25, slot := 1, constantValue := 0 }, { name := "IOOBE_FORMATTER", type := (.object "java/util/function/BiFunction"), accessFlags := 25, slot := 2, constantValue := 0 }]
  methods := #[k27m0, k27m1]
  instanceTypes := #[]
  staticTypes := #[(.object "java/util/function/BiFunction"), (.object "java/util/function/BiFunction"), (.object "java/util/function/BiFunction")]
  resolved := Array.replicate 194 none
  statics := some 3 }

def pool28 : Array CpInfo := pool [(4, .class_ 6), (1, u "java/lang/Object"), (0, u "<init>"), (0, u "()V"), (5, .class_ 16), (1, u "java/lang/StringLatin1"), (104, u "$assertionsDisabled"), (0, u "Z"), (98, .class_ 223), (1, u "java/lang/StringLatin1$LinesSpliterator"), (166, .class_ 391), (0, u "java/lang/StringLatin1$CharsSpliterator")] 3

def k28m0 : Method := { name := "<init>", desc := "()V", sig := { parameters := [], returnType := none }, accessFlags := 0, code := none }
/-- java/lang/StringLatin1 -/
def k28 : Class := { plain "java/lang/StringLatin1" (some 0) with
  accessFlags := 48
  interfaces := #[]
  cf := some (fileOf pool28 14 #[.nestMembers #[390, 221]] #[{ accessFlags := 0, nameIndex := 7, descriptorIndex := 8, attributes := #[] }] 48 4 #[] #[{ accessFlags := 4120, nameIndex := 121, descriptorIndex := 122, attributes := #[] }])
  fields := #[{ name := "$assertionsDisabled", type := .boolean, accessFlags := 4120, slot := 0, constantValue := 0 }]
  methods := #[k28m0]
  instanceTypes := #[]
  staticTypes := #[.boolean]
  resolved := Array.replicate 395 none
  statics := none }

def pool29 : Array CpInfo := pool [(9, u "<init>"), (6, .class_ 18), (1, u "java/lang/Object"), (0, u "()V"), (1, .class_ 23), (1, u "jdk/internal/util/ArraysSupport"), (0, u "LOG2_ARRAY_LONG_INDEX_SCALE"), (0, u "I"), (2, u "U"), (0, u "Ljdk/internal/misc/Unsafe;"), (8, u "BIG_ENDIAN"), (0, u "Z"), (8, u "LOG2_BYTE_BIT_SIZE"), (4, u "LOG2_ARRAY_INT_INDEX_SCALE"), (54, u "JLA"), (0, u "Ljdk/internal/access/JavaLangAccess;"), (11, u "LOG2_ARRAY_BOOLEAN_INDEX_SCALE"), (9, u "LOG2_ARRAY_BYTE_INDEX_SCALE"), (5, u "LOG2_ARRAY_CHAR_INDEX_SCALE"), (5, u "LOG2_ARRAY_SHORT_INDEX_SCALE"), (18, u "LOG2_ARRAY_FLOAT_INDEX_SCALE"), (24, u "LOG2_ARRAY_DOUBLE_INDEX_SCALE"), (89, u "T_BOOLEAN"), (2, u "T_CHAR"), (1, u "T_FLOAT"), (1, u "T_DOUBLE"), (1, u "T_BYTE"), (1, u "T_SHORT"), (1, u "T_INT"), (1, u "T_LONG"), (1, u "SOFT_MAX_ARRAY_LENGTH")] 83

def k29m0 : Method := { name := "<init>", desc := "()V", sig := { parameters := [], returnType := none }, accessFlags := 2, code := none }
/-- jdk/internal/util/ArraysSupport -/
def k29 : Class := { plain "jdk/internal/util/ArraysSupport" (some 0) with
  accessFlags := 33
  interfaces := #[]
  cf := some (fileOf pool29 21 #[] #[{ accessFlags := 2, nameIndex := 9, descriptorIndex := 19, attributes := #[] }] 33 16 #[] #[{ accessFlags := 24, nameIndex := 28, descriptorIndex := 29, attributes := #[] }, { accessFlags := 26, nameIndex := 38, descriptorIndex := 39, attributes := #[] }, { accessFlags := 25, nameIndex := 121, descriptorIndex := 25, attributes := #[] }, { accessFlags := 25, nameIndex := 131, descriptorIndex := 25, attributes := #[] }, { accessFlags := 25, nameIndex := 137, descriptorIndex := 25, attributes := #[] }, { accessFlags := 25, nameIndex := 143, descriptorIndex := 25, attributes := #[] }, { accessFlags := 25, nameIndex := 53, descriptorIndex := 25, attributes := #[] }, { accessFlags := 25, nameIndex := 24, descriptorIndex := 25, attributes := #[] }, { accessFlags := 25, nameIndex := 162, descriptorIndex := 25, attributes := #[] }, { accessFlags := 25, nameIndex := 187, descriptorIndex := 25, attributes := #[] }, { accessFlags := 26, nameIndex := 48, descriptorIndex := 25, attributes := #[] }, { accessFlags := 25, nameIndex := 277, descriptorIndex := 25, attributes := #[] }, { accessFlags := 25, nameIndex := 280, descriptorIndex := 25, attributes := #[] }, { accessFlags := 25, nameIndex := 282, descriptorIndex := 25, attributes := #[] }, { accessFlags := 25, nameIndex := 284, descriptorIndex := 25, attributes := #[] }, { accessFlags := 25, nameIndex := 286, descriptorIndex := 25, attributes := #[] }, { accessFlags := 25, nameIndex := 288, descriptorIndex := 25, attributes := #[] }, { accessFlags := 25, nameIndex := 290, descriptorIndex := 25, attributes := #[] }, { accessFlags := 25, nameIndex := 292, descriptorIndex := 25, attributes := #[] }, { accessFlags := 26, nameIndex := 108, descriptorIndex := 109, attributes := #[] }, { accessFlags := 25, nameIndex := 294, descriptorIndex := 25, attributes := #[] }])
  fields := #[{ name := "U", type := (.object "jdk/internal/misc/Unsafe"), accessFlags := 24, slot := 0, constantValue := 0 }, { name := "BIG_ENDIAN", type := .boolean, accessFlags := 26, slot := 1, constantValue := 0 }, { name := "LOG2_ARRAY_BOOLEAN_INDEX_SCALE", type := .int, accessFlags := 25, slot := 2, constantValue := 0 }, { name := "LOG2_ARRAY_BYTE_INDEX_SCALE", type := .int, accessFlags := 25, slot := 3, constantValue := 0 }, { name := "LOG2_ARRAY_CHAR_INDEX_SCALE", type := .int, accessFlags := 25, slot := 4, constantValue := 0 }, { name := "LOG2_ARRAY_SHORT_INDEX_SCALE", type := .int, accessFlags := 25, slot := 5, constantValue := 0 }, { name := "LOG2_ARRAY_INT_INDEX_SCALE", type := .int, accessFlags := 25, slot := 6, constantValue := 0 }, { name := "LOG2_ARRAY_LONG_INDEX_SCALE", type := .int, accessFlags := 25, slot := 7, constantValue := 0 }, { name := "LOG2_ARRAY_FLOAT_INDEX_SCALE", type := .int, accessFlags := 25, slot := 8, constantValue := 0 }, { name := "LOG2_ARRAY_DOUBLE_INDEX_SCALE", type := .int, accessFlags := 25, slot := 9, constantValue := 0 }, { name := "LOG2_BYTE_BIT_SIZE", type := .int, accessFlags := 26, slot := 10, constantValue := 0 }, { name := "T_BOOLEAN", type := .int, accessFlags := 25, slot := 11, constantValue := 0 }, { name := "T_CHAR", type := .int, accessFlags := 25, slot := 12, constantValue := 0 }, { name := "T_FLOAT", type := .int, accessFlags := 25, slot := 13, constantValue := 0 }, { name := "T_DOUBLE", type := .int, accessFlags := 25, slot := 14, constantValue := 0 }, { name := "T_BYTE", type := .int, accessFlags := 25, slot := 15, constantValue := 0 }, { name := "T_SHORT", type := .int, accessFlags := 25, slot := 16, constantValue := 0 }, { name := "T_INT", type := .int, accessFlags := 25, slot := 17, constantValue := 0 }, { name := "T_LONG", type := .int, accessFlags := 25, slot := 18, constantValue := 0 }, { name := "JLA", type := (.object "jdk/internal/access/JavaLangAccess"), accessFlags := 26, slot := 19, constantValue := 0 }, { name := "SOFT_MAX_ARRAY_LENGTH", type := .int, accessFlags := 25, slot := 20, constantValue := 0 }]
  methods := #[k29m0]
  instanceTypes := #[]
  staticTypes := #[(.object "jdk/internal/misc/Unsafe"), .boolean, .int, .int, .int, .int, .int, .int, .int, .int, .int, .int, .int, .int, .int, .int, .int, .int, .int, (.object "jdk/internal/access/JavaLangAccess"), .int]
  resolved := Array.replicate 378 none
  statics := none }

/-- the primitive byte -/
def k30 : Class := { plain "byte" none with kind := .primitive 'B', accessFlags := 0x411 }
/-- [B -/
def k31 : Class := { plain "[B" (some 0) with kind := .array 30 .byte, interfaces := #[24, 2], accessFlags := 1041 }

/-- the primitive char -/
def k32 : Class := { plain "char" none with kind := .primitive 'C', accessFlags := 0x411 }
/-- [C -/
def k33 : Class := { plain "[C" (some 0) with kind := .array 32 .char, interfaces := #[24, 2], accessFlags := 1041 }

/-- the primitive int -/
def k34 : Class := { plain "int" none with kind := .primitive 'I', accessFlags := 0x411 }
/-- [I -/
def k35 : Class := { plain "[I" (some 0) with kind := .array 34 .int, interfaces := #[24, 2], accessFlags := 1041 }

/-- [Ljava/lang/Object; -/
def k36 : Class := { plain "[Ljava/lang/Object;" (some 0) with kind := .array 0 (.object "java/lang/Object"), interfaces := #[24, 2], accessFlags := 1041 }

def heap : Heap := #[{ cls := 7, slots := #[.long 0, .int 1, .null, .int 0, .null, .int 0, .int 0], vm := .statics 7 },
  { cls := 15, slots := #[.long 0, .int 0, .null, .null, .ref 5, .null, .null, .null, .int 0, .int 0], vm := .statics 15 },
  { cls := 25, slots := #[.long 0, .int 0, .ref 6, .ref 7], vm := .statics 25 },
  { cls := 27, slots := #[.null, .null, .null], vm := .statics 27 },
  { cls := 36, slots := #[], vm := .none },
  { cls := 22, slots := #[.ref 4, .int 0], vm := .none },
  { cls := 36, slots := #[], vm := .none },
  { cls := 36, slots := #[], vm := .none }]
def classes : Array Class := #[k0, k1, k2, k3, k4, k5, k6, k7, k8, k9, k10, k11, k12, k13, k14, k15, k16, k17, k18, k19, k20, k21, k22, k23, k24, k25, k26, k27, k28, k29, k30, k31, k32, k33, k34, k35, k36]
def interned : List (Array UInt16 × Addr) := []
def slotsUsed : Nat := 26
def theMethod : MethodId := ⟨1, 1⟩
def args0 : Array Value := #[.int 65, .int 66, .int 67, .int 1]
def aboutOver (below : List Frame) : State where
  vm := { classes := classes, interned := interned.toArray }
  heap := heap
  slotsUsed := slotsUsed
  threads := #[{ frames := .invoking theMethod args0 :: below }]
def below0 : List Frame := [.native { method := ⟨0, 0⟩, args := #[] }]
def about1 : State := aboutOver below0
def p0 : Program := .bare "" "" ""
def e0 : Env := launch0.env 0 0 0
theorem w_frames : about1.frames = Frame.invoking theMethod args0 :: below0 := rfl
set_option maxRecDepth 65536 in
theorem w_args : argsFit about1.vm theMethod args0 = true := by decide +kernel
set_option maxRecDepth 65536 in
theorem w_heap : heapFits about1 = true := by decide +kernel
set_option maxRecDepth 65536 in
theorem w_runnable : about1.curStatus? = some .runnable := by decide +kernel
set_option maxRecDepth 65536 in
theorem w_alone : about1.alone = true := by decide +kernel
set_option maxRecDepth 65536 in
theorem w_named : about1.methodNamed? x = some theMethod := by decide +kernel
set_option maxRecDepth 65536 in
theorem w_hears : about1.hears theMethod below0 = true := by decide +kernel
set_option maxRecDepth 65536 in
theorem w_ripe : about1.ripe theMethod args0 below0 = true := by decide +kernel
theorem w_running : about1.status = .running := rfl
set_option maxRecDepth 65536 in
theorem w_room : about1.hasRoom e0.platform room_1 = true :=
  launch0.hasRoom_least _ room_1 (by decide +kernel) (by decide +kernel) (by decide +kernel) (by decide +kernel) (by decide +kernel) (by decide +kernel)
theorem allAtoms_all (ts : List Jvm.Cond) (a : Array Jvm.Value) (st : Jvm.State) : (allAtoms ts).before a st = ts.all (fun c => c.before a st) := by
  induction ts with
  | nil => rfl
  | cons c t ih =>
    show (Jvm.Cond.and c (allAtoms t)).before a st = _
    rw [Jvm.Cond.before_and, ih, List.all_cons]
def words1 : List Jvm.Cond := Jvm.Cond.code x code maxLocals ret :: tables_1
/-- a 'code' word, met by the world's own term for the bytes: nothing is compared byte by byte -/
theorem code_word {y : MethodName} {bytes : ByteArray} {mx : Nat} {rt : Option FieldType} {a : Array Value} {s : State} {m : MethodId} {meth : Method} {c : Code} (h1 : s.methodNamed? y = some m) (h2 : s.vm.method? m = some meth) (h3 : meth.code = some c) (h4 : c.code = bytes)
    (h5 : (c.maxLocals == mx && c.exceptionTable.isEmpty && decide (c.maxStack ≤ mostOperands) && decide (meth.sig.returnType = rt) && !meth.locks && decide (parseMethodDescriptor y.desc = some meth.sig)) = true) : (Jvm.Cond.code y bytes mx rt).before a s = true := by
  simp only [Bool.and_eq_true, beq_iff_eq, Bool.not_eq_true', decide_eq_true_eq] at h5
  obtain ⟨⟨⟨⟨⟨g1, g2⟩, g3⟩, g4⟩, g5⟩, g6⟩ := h5
  simp [Cond.before, Cond.holds, Cond.value, h1, h2, h3, h4, g1, g2, g3, g4, g5, g6]
def isCode : Jvm.Cond → Bool
  | .code _ _ _ _ => true
  | _ => false
theorem all_split {L : List Jvm.Cond} {P : Jvm.Cond → Bool} (h1 : L.all (fun c => isCode c || P c) = true) (h2 : ∀ c ∈ L.filter isCode, P c = true) : L.all P = true := by
  refine List.all_eq_true.mpr fun c hc => ?_
  have h := List.all_eq_true.mp h1 c hc
  rcases Bool.eq_false_or_eq_true (isCode c) with hi | hi
  · exact h2 c (List.mem_filter.mpr ⟨hc, hi⟩)
  · simpa [hi] using h
set_option maxRecDepth 65536 in
theorem w_c0 : (Jvm.Cond.code x code maxLocals ret).before args0 about1 = true := code_word (m := ⟨1, 1⟩) (meth := k1m1) (c := k1c1) (by decide +kernel) rfl rfl rfl (by decide +kernel)
set_option maxRecDepth 65536 in
theorem w_c1 : (Jvm.Cond.code ({ cls := "java/lang/String", name := "<init>", desc := "([C)V" } : Jvm.MethodName) jdk_42_method_3_code (2 : Nat) (Option.none : Option Jvm.ClassFile.FieldType)).before args0 about1 = true := code_word (m := ⟨7, 1⟩) (meth := k7m1) (c := k7c1) (by decide +kernel) rfl rfl rfl (by decide +kernel)
set_option maxRecDepth 65536 in
theorem w_c2 : (Jvm.Cond.code ({ cls := "java/lang/String", name := "<init>", desc := "([CIILjava/lang/Void;)V" } : Jvm.MethodName) jdk_42_method_149_code (6 : Nat) (Option.none : Option Jvm.ClassFile.FieldType)).before args0 about1 = true := code_word (m := ⟨7, 4⟩) (meth := k7m4) (c := k7c4) (by decide +kernel) rfl rfl rfl (by decide +kernel)
set_option maxRecDepth 65536 in
theorem w_c3 : (Jvm.Cond.code ({ cls := "java/lang/Object", name := "<init>", desc := "()V" } : Jvm.MethodName) object_method_1_code (1 : Nat) (Option.none : Option Jvm.ClassFile.FieldType)).before args0 about1 = true := code_word (m := ⟨0, 0⟩) (meth := k0m0) (c := k0c0) (by decide +kernel) rfl rfl rfl (by decide +kernel)
set_option maxRecDepth 65536 in
theorem w_c4 : (Jvm.Cond.code ({ cls := "java/lang/StringUTF16", name := "compress", desc := "([CII)[B" } : Jvm.MethodName) jdk_52_method_16_code (6 : Nat) (Option.some (Jvm.ClassFile.FieldType.array Jvm.ClassFile.FieldType.byte))).before args0 about1 = true := code_word (m := ⟨8, 2⟩) (meth := k8m2) (c := k8c2) (by decide +kernel) rfl rfl rfl (by decide +kernel)
set_option maxRecDepth 65536 in
theorem w_c5 : (Jvm.Cond.code ({ cls := "java/lang/StringUTF16", name := "compress", desc := "([CI[BII)I" } : Jvm.MethodName) jdk_52_method_21_code (7 : Nat) (Option.some Jvm.ClassFile.FieldType.int)).before args0 about1 = true := code_word (m := ⟨8, 3⟩) (meth := k8m3) (c := k8c3) (by decide +kernel) rfl rfl rfl (by decide +kernel)
set_option maxRecDepth 65536 in
theorem w_c6 : (Jvm.Cond.code ({ cls := "java/lang/StringUTF16", name := "coderFromArrayLen", desc := "([BI)B" } : Jvm.MethodName) jdk_52_method_15_code (2 : Nat) (Option.some Jvm.ClassFile.FieldType.byte)).before args0 about1 = true := code_word (m := ⟨8, 1⟩) (meth := k8m1) (c := k8c1) (by decide +kernel) rfl rfl rfl (by decide +kernel)
set_option maxRecDepth 65536 in
theorem w_c7 : (Jvm.Cond.code ({ cls := "com/example/harpocrates/harpocrates/data/Taxonomy", name := "leaf", desc := "(Ljava/lang/String;)Lcom/example/harpocrates/harpocrates/data/Taxonomy;" } : Jvm.MethodName) prog_9_method_2_code (1 : Nat) (Option.some (Jvm.ClassFile.FieldType.object "com/example/harpocrates/harpocrates/data/Taxonomy"))).before args0 about1 = true := code_word (m := ⟨10, 1⟩) (meth := k10m1) (c := k10c1) (by decide +kernel) rfl rfl rfl (by decide +kernel)
set_option maxRecDepth 65536 in
theorem w_c8 : (Jvm.Cond.code ({ cls := "java/util/List", name := "of", desc := "()Ljava/util/List;" } : Jvm.MethodName) jdk_40_method_36_code (0 : Nat) (Option.some (Jvm.ClassFile.FieldType.object "java/util/List"))).before args0 about1 = true := code_word (m := ⟨14, 4⟩) (meth := k14m4) (c := k14c4) (by decide +kernel) rfl rfl rfl (by decide +kernel)
set_option maxRecDepth 65536 in
theorem w_c9 : (Jvm.Cond.code ({ cls := "com/example/harpocrates/harpocrates/data/Taxonomy", name := "<init>", desc := "(Ljava/lang/String;Ljava/util/List;)V" } : Jvm.MethodName) prog_9_method_1_code (3 : Nat) (Option.none : Option Jvm.ClassFile.FieldType)).before args0 about1 = true := code_word (m := ⟨10, 0⟩) (meth := k10m0) (c := k10c0) (by decide +kernel) rfl rfl rfl (by decide +kernel)
set_option maxRecDepth 65536 in
theorem w_c10 : (Jvm.Cond.code ({ cls := "java/lang/Record", name := "<init>", desc := "()V" } : Jvm.MethodName) jdk_30_method_1_code (1 : Nat) (Option.none : Option Jvm.ClassFile.FieldType)).before args0 about1 = true := code_word (m := ⟨9, 0⟩) (meth := k9m0) (c := k9c0) (by decide +kernel) rfl rfl rfl (by decide +kernel)
set_option maxRecDepth 65536 in
theorem w_c11 : (Jvm.Cond.code ({ cls := "java/util/Objects", name := "requireNonNull", desc := "(Ljava/lang/Object;Ljava/lang/String;)Ljava/lang/Object;" } : Jvm.MethodName) jdk_31_method_11_code (2 : Nat) (Option.some (Jvm.ClassFile.FieldType.object "java/lang/Object"))).before args0 about1 = true := code_word (m := ⟨16, 1⟩) (meth := k16m1) (c := k16c1) (by decide +kernel) rfl rfl rfl (by decide +kernel)
set_option maxRecDepth 65536 in
theorem w_c12 : (Jvm.Cond.code ({ cls := "java/lang/String", name := "isEmpty", desc := "()Z" } : Jvm.MethodName) jdk_42_method_55_code (1 : Nat) (Option.some Jvm.ClassFile.FieldType.boolean)).before args0 about1 = true := code_word (m := ⟨7, 2⟩) (meth := k7m2) (c := k7c2) (by decide +kernel) rfl rfl rfl (by decide +kernel)
set_option maxRecDepth 65536 in
theorem w_c13 : (Jvm.Cond.code ({ cls := "java/util/List", name := "copyOf", desc := "(Ljava/util/Collection;)Ljava/util/List;" } : Jvm.MethodName) jdk_40_method_48_code (1 : Nat) (Option.some (Jvm.ClassFile.FieldType.object "java/util/List"))).before args0 about1 = true := code_word (m := ⟨14, 5⟩) (meth := k14m5) (c := k14c5) (by decide +kernel) rfl rfl rfl (by decide +kernel)
set_option maxRecDepth 65536 in
theorem w_c14 : (Jvm.Cond.code ({ cls := "java/util/ImmutableCollections", name := "listCopy", desc := "(Ljava/util/Collection;)Ljava/util/List;" } : Jvm.MethodName) jdk_56_method_3_code (2 : Nat) (Option.some (Jvm.ClassFile.FieldType.object "java/util/List"))).before args0 about1 = true := code_word (m := ⟨15, 1⟩) (meth := k15m1) (c := k15c1) (by decide +kernel) rfl rfl rfl (by decide +kernel)
set_option maxRecDepth 65536 in
theorem w_c15 : (Jvm.Cond.code ({ cls := "com/example/harpocrates/harpocrates/data/Taxonomy", name := "leaves", desc := "()Ljava/util/List;" } : Jvm.MethodName) prog_9_method_4_code (2 : Nat) (Option.some (Jvm.ClassFile.FieldType.object "java/util/List"))).before args0 about1 = true := code_word (m := ⟨10, 3⟩) (meth := k10m3) (c := k10c3) (by decide +kernel) rfl rfl rfl (by decide +kernel)
set_option maxRecDepth 65536 in
theorem w_c16 : (Jvm.Cond.code ({ cls := "java/util/ArrayList", name := "<init>", desc := "()V" } : Jvm.MethodName) jdk_38_method_2_code (1 : Nat) (Option.none : Option Jvm.ClassFile.FieldType)).before args0 about1 = true := code_word (m := ⟨25, 0⟩) (meth := k25m0) (c := k25c0) (by decide +kernel) rfl rfl rfl (by decide +kernel)
set_option maxRecDepth 65536 in
theorem w_c17 : (Jvm.Cond.code ({ cls := "java/util/AbstractList", name := "<init>", desc := "()V" } : Jvm.MethodName) jdk_39_method_1_code (1 : Nat) (Option.none : Option Jvm.ClassFile.FieldType)).before args0 about1 = true := code_word (m := ⟨23, 0⟩) (meth := k23m0) (c := k23c0) (by decide +kernel) rfl rfl rfl (by decide +kernel)
set_option maxRecDepth 65536 in
theorem w_c18 : (Jvm.Cond.code ({ cls := "java/util/AbstractCollection", name := "<init>", desc := "()V" } : Jvm.MethodName) jdk_22_method_1_code (1 : Nat) (Option.none : Option Jvm.ClassFile.FieldType)).before args0 about1 = true := code_word (m := ⟨17, 0⟩) (meth := k17m0) (c := k17c0) (by decide +kernel) rfl rfl rfl (by decide +kernel)
set_option maxRecDepth 65536 in
theorem w_c19 : (Jvm.Cond.code ({ cls := "com/example/harpocrates/harpocrates/data/Taxonomy", name := "addLeaves", desc := "(Lcom/example/harpocrates/harpocrates/data/Taxonomy;Ljava/util/List;)V" } : Jvm.MethodName) prog_9_method_7_code (4 : Nat) (Option.none : Option Jvm.ClassFile.FieldType)).before args0 about1 = true := code_word (m := ⟨10, 4⟩) (meth := k10m4) (c := k10c4) (by decide +kernel) rfl rfl rfl (by decide +kernel)
set_option maxRecDepth 65536 in
theorem w_c20 : (Jvm.Cond.code ({ cls := "com/example/harpocrates/harpocrates/data/Taxonomy", name := "isLeaf", desc := "()Z" } : Jvm.MethodName) prog_9_method_3_code (1 : Nat) (Option.some Jvm.ClassFile.FieldType.boolean)).before args0 about1 = true := code_word (m := ⟨10, 2⟩) (meth := k10m2) (c := k10c2) (by decide +kernel) rfl rfl rfl (by decide +kernel)
set_option maxRecDepth 65536 in
theorem w_c21 : (Jvm.Cond.code ({ cls := "java/util/ImmutableCollections$ListN", name := "isEmpty", desc := "()Z" } : Jvm.MethodName) jdk_45_method_2_code (1 : Nat) (Option.some Jvm.ClassFile.FieldType.boolean)).before args0 about1 = true := code_word (m := ⟨22, 0⟩) (meth := k22m0) (c := k22c0) (by decide +kernel) rfl rfl rfl (by decide +kernel)
set_option maxRecDepth 65536 in
theorem w_c22 : (Jvm.Cond.code ({ cls := "java/util/ArrayList", name := "add", desc := "(Ljava/lang/Object;)Z" } : Jvm.MethodName) jdk_38_method_25_code (2 : Nat) (Option.some Jvm.ClassFile.FieldType.boolean)).before args0 about1 = true := code_word (m := ⟨25, 7⟩) (meth := k25m7) (c := k25c7) (by decide +kernel) rfl rfl rfl (by decide +kernel)
set_option maxRecDepth 65536 in
theorem w_c23 : (Jvm.Cond.code ({ cls := "java/util/ArrayList", name := "add", desc := "(Ljava/lang/Object;[Ljava/lang/Object;I)V" } : Jvm.MethodName) jdk_38_method_24_code (4 : Nat) (Option.none : Option Jvm.ClassFile.FieldType)).before args0 about1 = true := code_word (m := ⟨25, 6⟩) (meth := k25m6) (c := k25c6) (by decide +kernel) rfl rfl rfl (by decide +kernel)
set_option maxRecDepth 65536 in
theorem w_c24 : (Jvm.Cond.code ({ cls := "java/util/ArrayList", name := "grow", desc := "()[Ljava/lang/Object;" } : Jvm.MethodName) jdk_38_method_7_code (1 : Nat) (Option.some (Jvm.ClassFile.FieldType.array (Jvm.ClassFile.FieldType.object "java/lang/Object")))).before args0 about1 = true := code_word (m := ⟨25, 2⟩) (meth := k25m2) (c := k25c2) (by decide +kernel) rfl rfl rfl (by decide +kernel)
set_option maxRecDepth 65536 in
theorem w_c25 : (Jvm.Cond.code ({ cls := "java/util/ArrayList", name := "grow", desc := "(I)[Ljava/lang/Object;" } : Jvm.MethodName) jdk_38_method_6_code (4 : Nat) (Option.some (Jvm.ClassFile.FieldType.array (Jvm.ClassFile.FieldType.object "java/lang/Object")))).before args0 about1 = true := code_word (m := ⟨25, 1⟩) (meth := k25m1) (c := k25c1) (by decide +kernel) rfl rfl rfl (by decide +kernel)
set_option maxRecDepth 65536 in
theorem w_c26 : (Jvm.Cond.code ({ cls := "java/lang/Math", name := "max", desc := "(II)I" } : Jvm.MethodName) jdk_29_method_65_code (2 : Nat) (Option.some Jvm.ClassFile.FieldType.int)).before args0 about1 = true := code_word (m := ⟨26, 1⟩) (meth := k26m1) (c := k26c1) (by decide +kernel) rfl rfl rfl (by decide +kernel)
set_option maxRecDepth 65536 in
theorem w_c27 : (Jvm.Cond.code ({ cls := "com/example/harpocrates/harpocrates/data/Taxonomy", name := "value", desc := "()Ljava/lang/String;" } : Jvm.MethodName) prog_9_method_12_code (1 : Nat) (Option.some (Jvm.ClassFile.FieldType.object "java/lang/String"))).before args0 about1 = true := code_word (m := ⟨10, 5⟩) (meth := k10m5) (c := k10c5) (by decide +kernel) rfl rfl rfl (by decide +kernel)
set_option maxRecDepth 65536 in
theorem w_c28 : (Jvm.Cond.code ({ cls := "java/lang/String", name := "equals", desc := "(Ljava/lang/Object;)Z" } : Jvm.MethodName) jdk_42_method_66_code (3 : Nat) (Option.some Jvm.ClassFile.FieldType.boolean)).before args0 about1 = true := code_word (m := ⟨7, 3⟩) (meth := k7m3) (c := k7c3) (by decide +kernel) rfl rfl rfl (by decide +kernel)
set_option maxRecDepth 65536 in
theorem w_c29 : (Jvm.Cond.code ({ cls := "com/example/harpocrates/harpocrates/data/Taxonomy", name := "children", desc := "()Ljava/util/List;" } : Jvm.MethodName) prog_9_method_13_code (1 : Nat) (Option.some (Jvm.ClassFile.FieldType.object "java/util/List"))).before args0 about1 = true := code_word (m := ⟨10, 6⟩) (meth := k10m6) (c := k10c6) (by decide +kernel) rfl rfl rfl (by decide +kernel)
set_option maxRecDepth 65536 in
theorem w_c30 : (Jvm.Cond.code ({ cls := "java/util/ImmutableCollections$ListN", name := "size", desc := "()I" } : Jvm.MethodName) jdk_45_method_3_code (1 : Nat) (Option.some Jvm.ClassFile.FieldType.int)).before args0 about1 = true := code_word (m := ⟨22, 1⟩) (meth := k22m1) (c := k22c1) (by decide +kernel) rfl rfl rfl (by decide +kernel)
set_option maxRecDepth 65536 in
theorem w_c31 : (Jvm.Cond.code ({ cls := "java/util/ArrayList", name := "size", desc := "()I" } : Jvm.MethodName) jdk_38_method_8_code (1 : Nat) (Option.some Jvm.ClassFile.FieldType.int)).before args0 about1 = true := code_word (m := ⟨25, 3⟩) (meth := k25m3) (c := k25c3) (by decide +kernel) rfl rfl rfl (by decide +kernel)
set_option maxRecDepth 65536 in
theorem w_c32 : (Jvm.Cond.code ({ cls := "java/util/ArrayList", name := "get", desc := "(I)Ljava/lang/Object;" } : Jvm.MethodName) jdk_38_method_20_code (2 : Nat) (Option.some (Jvm.ClassFile.FieldType.object "java/lang/Object"))).before args0 about1 = true := code_word (m := ⟨25, 5⟩) (meth := k25m5) (c := k25c5) (by decide +kernel) rfl rfl rfl (by decide +kernel)
set_option maxRecDepth 65536 in
theorem w_c33 : (Jvm.Cond.code ({ cls := "java/util/Objects", name := "checkIndex", desc := "(II)I" } : Jvm.MethodName) jdk_31_method_17_code (2 : Nat) (Option.some Jvm.ClassFile.FieldType.int)).before args0 about1 = true := code_word (m := ⟨16, 2⟩) (meth := k16m2) (c := k16c2) (by decide +kernel) rfl rfl rfl (by decide +kernel)
set_option maxRecDepth 65536 in
theorem w_c34 : (Jvm.Cond.code ({ cls := "jdk/internal/util/Preconditions", name := "checkIndex", desc := "(IILjava/util/function/BiFunction;)I" } : Jvm.MethodName) jdk_41_method_11_code (3 : Nat) (Option.some Jvm.ClassFile.FieldType.int)).before args0 about1 = true := code_word (m := ⟨27, 1⟩) (meth := k27m1) (c := k27c1) (by decide +kernel) rfl rfl rfl (by decide +kernel)
set_option maxRecDepth 65536 in
theorem w_c35 : (Jvm.Cond.code ({ cls := "java/util/ArrayList", name := "elementData", desc := "(I)Ljava/lang/Object;" } : Jvm.MethodName) jdk_38_method_18_code (2 : Nat) (Option.some (Jvm.ClassFile.FieldType.object "java/lang/Object"))).before args0 about1 = true := code_word (m := ⟨25, 4⟩) (meth := k25m4) (c := k25c4) (by decide +kernel) rfl rfl rfl (by decide +kernel)
def codes1 : List Jvm.Cond := [Jvm.Cond.code x code maxLocals ret, Jvm.Cond.code ({ cls := "java/lang/String", name := "<init>", desc := "([C)V" } : Jvm.MethodName) jdk_42_method_3_code (2 : Nat) (Option.none : Option Jvm.ClassFile.FieldType), Jvm.Cond.code ({ cls := "java/lang/String", name := "<init>", desc := "([CIILjava/lang/Void;)V" } : Jvm.MethodName) jdk_42_method_149_code (6 : Nat) (Option.none : Option Jvm.ClassFile.FieldType), Jvm.Cond.code ({ cls := "java/lang/Object", name := "<init>", desc := "()V" } : Jvm.MethodName) object_method_1_code (1 : Nat) (Option.none : Option Jvm.ClassFile.FieldType), Jvm.Cond.code ({ cls := "java/lang/StringUTF16", name := "compress", desc := "([CII)[B" } : Jvm.MethodName) jdk_52_method_16_code (6 : Nat) (Option.some (Jvm.ClassFile.FieldType.array Jvm.ClassFile.FieldType.byte)), Jvm.Cond.code ({ cls := "java/lang/StringUTF16", name := "compress", desc := "([CI[BII)I" } : Jvm.MethodName) jdk_52_method_21_code (7 : Nat) (Option.some Jvm.ClassFile.FieldType.int), Jvm.Cond.code ({ cls := "java/lang/StringUTF16", name := "coderFromArrayLen", desc := "([BI)B" } : Jvm.MethodName) jdk_52_method_15_code (2 : Nat) (Option.some Jvm.ClassFile.FieldType.byte), Jvm.Cond.code ({ cls := "com/example/harpocrates/harpocrates/data/Taxonomy", name := "leaf", desc := "(Ljava/lang/String;)Lcom/example/harpocrates/harpocrates/data/Taxonomy;" } : Jvm.MethodName) prog_9_method_2_code (1 : Nat) (Option.some (Jvm.ClassFile.FieldType.object "com/example/harpocrates/harpocrates/data/Taxonomy")), Jvm.Cond.code ({ cls := "java/util/List", name := "of", desc := "()Ljava/util/List;" } : Jvm.MethodName) jdk_40_method_36_code (0 : Nat) (Option.some (Jvm.ClassFile.FieldType.object "java/util/List")), Jvm.Cond.code ({ cls := "com/example/harpocrates/harpocrates/data/Taxonomy", name := "<init>", desc := "(Ljava/lang/String;Ljava/util/List;)V" } : Jvm.MethodName) prog_9_method_1_code (3 : Nat) (Option.none : Option Jvm.ClassFile.FieldType), Jvm.Cond.code ({ cls := "java/lang/Record", name := "<init>", desc := "()V" } : Jvm.MethodName) jdk_30_method_1_code (1 : Nat) (Option.none : Option Jvm.ClassFile.FieldType), Jvm.Cond.code ({ cls := "java/util/Objects", name := "requireNonNull", desc := "(Ljava/lang/Object;Ljava/lang/String;)Ljava/lang/Object;" } : Jvm.MethodName) jdk_31_method_11_code (2 : Nat) (Option.some (Jvm.ClassFile.FieldType.object "java/lang/Object")), Jvm.Cond.code ({ cls := "java/lang/String", name := "isEmpty", desc := "()Z" } : Jvm.MethodName) jdk_42_method_55_code (1 : Nat) (Option.some Jvm.ClassFile.FieldType.boolean), Jvm.Cond.code ({ cls := "java/util/List", name := "copyOf", desc := "(Ljava/util/Collection;)Ljava/util/List;" } : Jvm.MethodName) jdk_40_method_48_code (1 : Nat) (Option.some (Jvm.ClassFile.FieldType.object "java/util/List")), Jvm.Cond.code ({ cls := "java/util/ImmutableCollections", name := "listCopy", desc := "(Ljava/util/Collection;)Ljava/util/List;" } : Jvm.MethodName) jdk_56_method_3_code (2 : Nat) (Option.some (Jvm.ClassFile.FieldType.object "java/util/List")), Jvm.Cond.code ({ cls := "com/example/harpocrates/harpocrates/data/Taxonomy", name := "leaves", desc := "()Ljava/util/List;" } : Jvm.MethodName) prog_9_method_4_code (2 : Nat) (Option.some (Jvm.ClassFile.FieldType.object "java/util/List")), Jvm.Cond.code ({ cls := "java/util/ArrayList", name := "<init>", desc := "()V" } : Jvm.MethodName) jdk_38_method_2_code (1 : Nat) (Option.none : Option Jvm.ClassFile.FieldType), Jvm.Cond.code ({ cls := "java/util/AbstractList", name := "<init>", desc := "()V" } : Jvm.MethodName) jdk_39_method_1_code (1 : Nat) (Option.none : Option Jvm.ClassFile.FieldType), Jvm.Cond.code ({ cls := "java/util/AbstractCollection", name := "<init>", desc := "()V" } : Jvm.MethodName) jdk_22_method_1_code (1 : Nat) (Option.none : Option Jvm.ClassFile.FieldType), Jvm.Cond.code ({ cls := "com/example/harpocrates/harpocrates/data/Taxonomy", name := "addLeaves", desc := "(Lcom/example/harpocrates/harpocrates/data/Taxonomy;Ljava/util/List;)V" } : Jvm.MethodName) prog_9_method_7_code (4 : Nat) (Option.none : Option Jvm.ClassFile.FieldType), Jvm.Cond.code ({ cls := "com/example/harpocrates/harpocrates/data/Taxonomy", name := "isLeaf", desc := "()Z" } : Jvm.MethodName) prog_9_method_3_code (1 : Nat) (Option.some Jvm.ClassFile.FieldType.boolean), Jvm.Cond.code ({ cls := "java/util/ImmutableCollections$ListN", name := "isEmpty", desc := "()Z" } : Jvm.MethodName) jdk_45_method_2_code (1 : Nat) (Option.some Jvm.ClassFile.FieldType.boolean), Jvm.Cond.code ({ cls := "java/util/ArrayList", name := "add", desc := "(Ljava/lang/Object;)Z" } : Jvm.MethodName) jdk_38_method_25_code (2 : Nat) (Option.some Jvm.ClassFile.FieldType.boolean), Jvm.Cond.code ({ cls := "java/util/ArrayList", name := "add", desc := "(Ljava/lang/Object;[Ljava/lang/Object;I)V" } : Jvm.MethodName) jdk_38_method_24_code (4 : Nat) (Option.none : Option Jvm.ClassFile.FieldType), Jvm.Cond.code ({ cls := "java/util/ArrayList", name := "grow", desc := "()[Ljava/lang/Object;" } : Jvm.MethodName) jdk_38_method_7_code (1 : Nat) (Option.some (Jvm.ClassFile.FieldType.array (Jvm.ClassFile.FieldType.object "java/lang/Object"))), Jvm.Cond.code ({ cls := "java/util/ArrayList", name := "grow", desc := "(I)[Ljava/lang/Object;" } : Jvm.MethodName) jdk_38_method_6_code (4 : Nat) (Option.some (Jvm.ClassFile.FieldType.array (Jvm.ClassFile.FieldType.object "java/lang/Object"))), Jvm.Cond.code ({ cls := "java/lang/Math", name := "max", desc := "(II)I" } : Jvm.MethodName) jdk_29_method_65_code (2 : Nat) (Option.some Jvm.ClassFile.FieldType.int), Jvm.Cond.code ({ cls := "com/example/harpocrates/harpocrates/data/Taxonomy", name := "value", desc := "()Ljava/lang/String;" } : Jvm.MethodName) prog_9_method_12_code (1 : Nat) (Option.some (Jvm.ClassFile.FieldType.object "java/lang/String")), Jvm.Cond.code ({ cls := "java/lang/String", name := "equals", desc := "(Ljava/lang/Object;)Z" } : Jvm.MethodName) jdk_42_method_66_code (3 : Nat) (Option.some Jvm.ClassFile.FieldType.boolean), Jvm.Cond.code ({ cls := "com/example/harpocrates/harpocrates/data/Taxonomy", name := "children", desc := "()Ljava/util/List;" } : Jvm.MethodName) prog_9_method_13_code (1 : Nat) (Option.some (Jvm.ClassFile.FieldType.object "java/util/List")), Jvm.Cond.code ({ cls := "java/util/ImmutableCollections$ListN", name := "size", desc := "()I" } : Jvm.MethodName) jdk_45_method_3_code (1 : Nat) (Option.some Jvm.ClassFile.FieldType.int), Jvm.Cond.code ({ cls := "java/util/ArrayList", name := "size", desc := "()I" } : Jvm.MethodName) jdk_38_method_8_code (1 : Nat) (Option.some Jvm.ClassFile.FieldType.int), Jvm.Cond.code ({ cls := "java/util/ArrayList", name := "get", desc := "(I)Ljava/lang/Object;" } : Jvm.MethodName) jdk_38_method_20_code (2 : Nat) (Option.some (Jvm.ClassFile.FieldType.object "java/lang/Object")), Jvm.Cond.code ({ cls := "java/util/Objects", name := "checkIndex", desc := "(II)I" } : Jvm.MethodName) jdk_31_method_17_code (2 : Nat) (Option.some Jvm.ClassFile.FieldType.int), Jvm.Cond.code ({ cls := "jdk/internal/util/Preconditions", name := "checkIndex", desc := "(IILjava/util/function/BiFunction;)I" } : Jvm.MethodName) jdk_41_method_11_code (3 : Nat) (Option.some Jvm.ClassFile.FieldType.int), Jvm.Cond.code ({ cls := "java/util/ArrayList", name := "elementData", desc := "(I)Ljava/lang/Object;" } : Jvm.MethodName) jdk_38_method_18_code (2 : Nat) (Option.some (Jvm.ClassFile.FieldType.object "java/lang/Object"))]
set_option maxRecDepth 65536 in
theorem codes_eq : words1.filter isCode = codes1 := rfl
theorem w_codes : ∀ c ∈ words1.filter isCode, c.before args0 about1 = true := by
  rw [codes_eq]
  intro c hc
  simp only [codes1, List.mem_cons, List.not_mem_nil, or_false] at hc
  rcases hc with rfl | rfl | rfl | rfl | rfl | rfl | rfl | rfl | rfl | rfl | rfl | rfl | rfl | rfl | rfl | rfl | rfl | rfl | rfl | rfl | rfl | rfl | rfl | rfl | rfl | rfl | rfl | rfl | rfl | rfl | rfl | rfl | rfl | rfl | rfl | rfl
  · exact w_c0
  · exact w_c1
  · exact w_c2
  · exact w_c3
  · exact w_c4
  · exact w_c5
  · exact w_c6
  · exact w_c7
  · exact w_c8
  · exact w_c9
  · exact w_c10
  · exact w_c11
  · exact w_c12
  · exact w_c13
  · exact w_c14
  · exact w_c15
  · exact w_c16
  · exact w_c17
  · exact w_c18
  · exact w_c19
  · exact w_c20
  · exact w_c21
  · exact w_c22
  · exact w_c23
  · exact w_c24
  · exact w_c25
  · exact w_c26
  · exact w_c27
  · exact w_c28
  · exact w_c29
  · exact w_c30
  · exact w_c31
  · exact w_c32
  · exact w_c33
  · exact w_c34
  · exact w_c35
set_option maxRecDepth 65536 in
theorem w_t1 : (words1.take 24).all (fun c => isCode c || c.before args0 about1) = true := by decide +kernel
set_option maxRecDepth 65536 in
theorem w_t2 : ((words1.drop 24).take 24).all (fun c => isCode c || c.before args0 about1) = true := by decide +kernel
set_option maxRecDepth 65536 in
theorem w_t3 : (((words1.drop 24).drop 24).take 24).all (fun c => isCode c || c.before args0 about1) = true := by decide +kernel
set_option maxRecDepth 65536 in
theorem w_t4 : ((((words1.drop 24).drop 24).drop 24).take 24).all (fun c => isCode c || c.before args0 about1) = true := by decide +kernel
set_option maxRecDepth 65536 in
theorem w_t5 : (((((words1.drop 24).drop 24).drop 24).drop 24).take 24).all (fun c => isCode c || c.before args0 about1) = true := by decide +kernel
set_option maxRecDepth 65536 in
theorem w_t6 : ((((((words1.drop 24).drop 24).drop 24).drop 24).drop 24).take 24).all (fun c => isCode c || c.before args0 about1) = true := by decide +kernel
set_option maxRecDepth 65536 in
theorem w_t7 : (((((((words1.drop 24).drop 24).drop 24).drop 24).drop 24).drop 24).take 24).all (fun c => isCode c || c.before args0 about1) = true := by decide +kernel
set_option maxRecDepth 65536 in
theorem w_t8 : ((((((((words1.drop 24).drop 24).drop 24).drop 24).drop 24).drop 24).drop 24).take 24).all (fun c => isCode c || c.before args0 about1) = true := by decide +kernel
set_option maxRecDepth 65536 in
theorem w_t9 : (((((((((words1.drop 24).drop 24).drop 24).drop 24).drop 24).drop 24).drop 24).drop 24).take 24).all (fun c => isCode c || c.before args0 about1) = true := by decide +kernel
set_option maxRecDepth 65536 in
theorem w_t10 : (((((((((words1.drop 24).drop 24).drop 24).drop 24).drop 24).drop 24).drop 24).drop 24).drop 24).all (fun c => isCode c || c.before args0 about1) = true := by decide +kernel
theorem w_tables : (allAtoms (Jvm.Cond.code x code maxLocals ret :: tables_1)).before args0 about1 = true := by
  rw [allAtoms_all]
  show words1.all (fun c => c.before args0 about1) = true
  refine all_split ?_ w_codes
  rw [← List.take_append_drop 24 words1, List.all_append, w_t1, ← List.take_append_drop 24 (words1.drop 24), List.all_append, w_t2, ← List.take_append_drop 24 ((words1.drop 24).drop 24), List.all_append, w_t3, ← List.take_append_drop 24 (((words1.drop 24).drop 24).drop 24), List.all_append, w_t4, ← List.take_append_drop 24 ((((words1.drop 24).drop 24).drop 24).drop 24), List.all_append, w_t5, ← List.take_append_drop 24 (((((words1.drop 24).drop 24).drop 24).drop 24).drop 24), List.all_append, w_t6, ← List.take_append_drop 24 ((((((words1.drop 24).drop 24).drop 24).drop 24).drop 24).drop 24), List.all_append, w_t7, ← List.take_append_drop 24 (((((((words1.drop 24).drop 24).drop 24).drop 24).drop 24).drop 24).drop 24), List.all_append, w_t8, ← List.take_append_drop 24 ((((((((words1.drop 24).drop 24).drop 24).drop 24).drop 24).drop 24).drop 24).drop 24), List.all_append, w_t9, w_t10]
  rfl
set_option maxRecDepth 65536 in
theorem w_rest : rest_1_c.before args0 about1 = true := by decide +kernel
set_option maxRecDepth 65536 in
theorem w_case : (Jvm.Cond.and given_1 narrow_1).before args0 about1 = true := by decide +kernel
theorem w_applies : (headSpec (Jvm.Cond.code x code maxLocals ret :: tables_1) room_1).applies x e0.platform about1 = true :=
  (Spec.applies_iff w_frames).mpr ⟨w_running, w_runnable, w_alone, w_named, w_hears, w_ripe, w_room, w_tables⟩
theorem atStart : AtStart classFile x code maxLocals ret World_1 tables_1 room_1 Calls_1 rest_1 Pre_1 launch0 p0 e0 about1 theMethod args0 below0 :=
  ⟨lists_1, trivial, launch0.admits_env _ _ _, launch0.least_env, fairChoices_fair.cas, fairChoices_fair.clock, w_frames, w_args, w_heap, w_applies, trivial, w_rest, w_case⟩
end start1
theorem witness_1 : WitnessClaimed_1 := ⟨start1.p0, start1.e0, start1.about1, start1.theMethod, start1.args0, start1.below0, start1.atStart⟩
end Jvm.Pilot.@@N@@
